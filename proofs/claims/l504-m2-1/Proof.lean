import JvmDerived
import JvmDerived.Pilot.@@N@@Statement
import JvmDerived.Pilot.@@N@@Code
set_option linter.unusedVariables false
set_option linter.unusedSimpArgs false
namespace Jvm.Pilot.@@N@@
open Jvm Jvm.ClassFile Sem Op Lib Jvm.Free Jvm.Stand Jvm.LawKit Jvm.RoadKit Bundle Jvm.Pilot.@@N@@.Jvm.D
section OwnKit
variable {p : Program} {l : Launch} {e : Env} {R : Room} {s : State} {m : MethodId} {args : Array Value} {below : List Frame} {meth : Method} {c : Code} {T : State} {locs : List Loc} {cells slots : Nat} {Z : State} {a0 : Array Value} {h : Heap} {Q : Option Value → Heap → List Loc → Prop} {cl sl : Nat}
/-- from the state U the run comes back, and what it leaves is as Q says -/
def Fin1 (p : Program) (e : Env) (below : List Frame) (s : State) (Q : Option Value → Heap → List Loc → Prop) (cl sl : Nat) (U : State) : Prop :=
  ∃ s₂ o, Steps p.tables e below U s₂ ∧ s₂.status = .running ∧ Ended s₂ below o ∧ ∃ v L, o = .returned v ∧ Q v s₂.heap L ∧ FrameEnd s o s₂ L cl sl
theorem own_st {U V : State} (h : ∀ t, Steps p.tables e below V t → Steps p.tables e below U t) (k : Fin1 p e below s Q cl sl V) : Fin1 p e below s Q cl sl U := by
  obtain ⟨s₂, o, h1, r⟩ := k
  exact ⟨s₂, o, h _ h1, r⟩
/-- a contract -/
def Ct (l : Launch) (Z : State) (ws : List Jvm.Cond) (y : MethodName) (bytes : ByteArray) (maxL : Nat) (ret : Option FieldType) (rm : Room) (as' : Array Value) (h : Heap) (Q : Option Value → Heap → List Loc → Prop) : Prop :=
  MetFree l y (head1 (Jvm.Cond.code y bytes maxL ret :: ws) rm) (fun a U => a = as' ∧ Z.Warmed39 U.vm ∧ U.heap = h) (fun _ _ _ _ _ => True) (fun _ U o U' => ∃ v L, o = .returned v ∧ Q v U'.heap L ∧ FrameEnd U o U' L rm.cells rm.slots)
theorem own_enter {ws : List Jvm.Cond} {y : MethodName} {bytes : ByteArray} {maxL : Nat} {ret : Option FieldType} {rm : Room} {as' : Array Value} (hp : plainFor y = true)
    (body : ∀ (p : Program) (e : Env) (s : State) (m : MethodId) (below : List Frame) (meth : Method) (c : Code) (T : State), Stand p l e rm s m as' below meth c T [] 0 0 → p.tables.exec = Jvm.exec → c.code = bytes → c.maxLocals = maxL → Z.Warmed39 s.vm → s.vm.findClass y.cls = some m.cls → meth.name = y.name →
      meth.sig.returnType = ret → meth.locks = false → T.heap = h → Fin1 p e below s Q rm.cells rm.slots (T.setTop (entryFrame m as' maxL))) : Ct l Z ws y bytes maxL ret rm as' h Q := by
  refine MetFree.of_bodySF hp hisR ?_
  intro p e s m args below meth c s₁ Bd hml hP _
  obtain ⟨rfl, hZ, hh⟩ := hP
  exact body p e s m below meth c s₁ (Stand.of_body Bd) Bd.exec Bd.bytes hml hZ (findClass_of_methodNamed Bd.named) (name_of_methodNamed Bd.named Bd.method).1 Bd.returns (BodyLoose.notSynchronized Bd) (by rw [← hh, Bd.state]; rfl)
/-- a stronger promise pays a weaker one -/
theorem Ct.mono {ws : List Jvm.Cond} {y : MethodName} {bytes : ByteArray} {maxL : Nat} {ret : Option FieldType} {rm : Room} {as' : Array Value} {Q' : Option Value → Heap → List Loc → Prop} (hC : Ct l Z ws y bytes maxL ret rm as' h Q) (hQ : ∀ v h' L, Q v h' L → Q' v h' L) : Ct l Z ws y bytes maxL ret rm as' h Q' := by
  intro p e ha hc hk s m args below hf happ hP hK
  obtain ⟨n, o, h1, h2, h3, v, L, h4, h5, h6⟩ := hC p e ha hc hk s m args below hf happ hP hK
  exact ⟨n, o, h1, h2, h3, v, L, h4, hQ _ _ _ h5, h6⟩
theorem own_leave (X : Stand p l e R s m args below meth c T locs cells slots) (hlk : meth.locks = false) {v : Option Value} (hv : meth.sig.returnType = none → v = none) {U : State}
    (hst : ∀ fs, (∀ (f : JFrame) (acts : List Action), f.method = m → f.locked = none → f.entered = [] → (doReturn e (T.setTop f) acts v).1 = T.setFrames fs) → Steps p.tables e below U (T.setFrames fs))
    (hQ : Q v T.heap locs) (hc : cells ≤ cl) (hs : slots ≤ sl) : Fin1 p e below s Q cl sl U := by
  obtain ⟨fs, hr, hrun, hended, hW, hsame⟩ := X.leave (v := v) hv hlk
  exact ⟨_, _, hst fs hr, hrun, hended, v, locs, rfl, hQ, ⟨_, rfl⟩, hW, hsame.mono hc hs⟩
theorem own_retV (X : Stand p l e R s m args below meth c T locs cells slots) (hx : p.tables.exec = Jvm.exec) (hlk : meth.locks = false) {pc : Nat} {Ls : Array Slot} (hret : meth.sig.returnType = none) (hd : decode c.code pc = .ok (.return_, 1))
    (hQ : Q none T.heap locs) (hc : cells ≤ cl) (hs : slots ≤ sl) : Fin1 p e below s Q cl sl (T.setTop (mkF m pc Ls [])) :=
  own_leave X hlk (fun _ => rfl) (fun fs hr => X.returnOut hx hret hd hr) hQ hc hs
theorem own_retI (X : Stand p l e R s m args below meth c T locs cells slots) (hx : p.tables.exec = Jvm.exec) (hlk : meth.locks = false) {pc : Nat} {Ls : Array Slot} {z : Int32} {rest : List Value} (hret : meth.sig.returnType = some .int) (hd : decode c.code pc = .ok (.ireturn, 1))
    (hQ : Q (some (.int z)) T.heap locs) (hc : cells ≤ cl) (hs : slots ≤ sl) : Fin1 p e below s Q cl sl (T.setTop (mkF m pc Ls (.int z :: rest))) :=
  own_leave X hlk (fun h => by rw [hret] at h; cases h) (fun fs hr => retOut X hx hret rfl (Or.inl ⟨rfl, Or.inl rfl, _, rfl⟩) hd hr) hQ hc hs
theorem own_retZ (X : Stand p l e R s m args below meth c T locs cells slots) (hx : p.tables.exec = Jvm.exec) (hlk : meth.locks = false) {pc : Nat} {Ls : Array Slot} {rest : List Value} (hret : meth.sig.returnType = some .boolean) (hd : decode c.code pc = .ok (.ireturn, 1)) {z : Int32} (hz : z = 0 ∨ z = 1)
    (hQ : Q (some (.int z)) T.heap locs) (hc : cells ≤ cl) (hs : slots ≤ sl) : Fin1 p e below s Q cl sl (T.setTop (mkF m pc Ls (.int z :: rest))) :=
  own_leave X hlk (fun h => by rw [hret] at h; cases h) (fun fs hr => retOut X hx hret (by rcases hz with rfl | rfl <;> rfl) (Or.inl ⟨rfl, Or.inr (Or.inl rfl), _, rfl⟩) hd hr) hQ hc hs
theorem own_retJ (X : Stand p l e R s m args below meth c T locs cells slots) (hx : p.tables.exec = Jvm.exec) (hlk : meth.locks = false) {pc : Nat} {Ls : Array Slot} {z : Int64} {rest : List Value} (hret : meth.sig.returnType = some .long) (hd : decode c.code pc = .ok (.lreturn, 1))
    (hQ : Q (some (.long z)) T.heap locs) (hc : cells ≤ cl) (hs : slots ≤ sl) : Fin1 p e below s Q cl sl (T.setTop (mkF m pc Ls (.long z :: rest))) :=
  own_leave X hlk (fun h => by rw [hret] at h; cases h) (fun fs hr => retOut X hx hret rfl (Or.inr (Or.inl ⟨rfl, rfl, _, rfl⟩)) hd hr) hQ hc hs
theorem own_retA (X : Stand p l e R s m args below meth c T locs cells slots) (hx : p.tables.exec = Jvm.exec) (hlk : meth.locks = false) {pc : Nat} {Ls : Array Slot} {z : Value} {rest : List Value} {t : FieldType} (hret : meth.sig.returnType = some t) (ht : t.isReference = true) (hz : z.isRef = true) (hd : decode c.code pc = .ok (.areturn, 1))
    (hQ : Q (some z) T.heap locs) (hc : cells ≤ cl) (hs : slots ≤ sl) : Fin1 p e below s Q cl sl (T.setTop (mkF m pc Ls (z :: rest))) :=
  own_leave X hlk (fun h => by rw [hret] at h; cases h) (fun fs hr => retOut X hx hret (by cases t <;> first | (cases ht; done) | (cases z <;> first | (cases hz; done) | rfl)) (Or.inr (Or.inr (Or.inr (Or.inr ⟨rfl, ht, hz⟩)))) hd hr) hQ hc hs
variable {own : String} {index : Nat} {y z : MethodName} {bytes : ByteArray} {maxL : Nat} {ret : Option FieldType} {rm : Room} {argsL rest : List Value} {a : Addr}
theorem own_static (X : Stand p l e R s m args below meth c T locs cells slots) (hx : p.tables.exec = Jvm.exec) (hZ : Z.Warmed39 s.vm) (hown : s.vm.findClass own = some m.cls) (w1 : (Jvm.Cond.methodLink own index y).before a0 Z = true) (w2 : (Jvm.Cond.static y).before a0 Z = true) (w3 : (Jvm.Cond.initialized y.cls).before a0 Z = true)
    (w4 : (Jvm.Cond.code y bytes maxL ret).before a0 Z = true) (hy : y.cls ≠ "java/lang/invoke/MethodHandle" ∧ y.cls ≠ "java/lang/invoke/VarHandle") (hC : Ct l Z [] y bytes maxL ret rm argsL.toArray h Q) (eT : T.heap = h) {g : JFrame} (hg : g.method = m) (hsize : g.locals.size = c.maxLocals)
    (hlen : ∀ sig, parseMethodDescriptor y.desc = some sig → argsL.length = sig.parameters.length) (hs : g.stack = argsL.reverse ++ rest) {W : Nat} (hW : 2 * g.monitorRoom + (rest.map fun v => v.category).sum ≤ W) (hd : decode c.code g.pc = .ok (.invokestatic index, 3))
    (hf : rm.frames + 1 ≤ R.frames) (hl : W + (maxL + 11) + rm.locals ≤ R.locals) (hc : cells + rm.cells ≤ R.cells) (hsl : slots + rm.slots ≤ R.slots) :
    ∃ v T' h' L, Stand p l e R s m args below meth c T' (locs ++ L) (cells + rm.cells) (slots + rm.slots) ∧ T'.heap = h' ∧ Q v h' L ∧ ∀ t, Steps p.tables e below (T'.setTop { g with pc := g.pc + 3, stack := v.toList ++ rest }) t → Steps p.tables e below (T.setTop g) t := by
  obtain ⟨v, _, ⟨T', L', k', n'⟩, -, X', ⟨Lc, hQ, l1, y1, z1⟩, st⟩ := Jvm.LawKit.callS X hx (y := y) hown (mvT hZ w1) (mvT hZ w2) (mvT hZ w3) (mvT hZ w4) hy (backOf (W := W) hC hZ w4 w3 hf hl) hg hsize hlen hs hW hd (fun _ _ => ⟨rfl, eT, hc, hsl⟩)
  dsimp only [Pt.U, Pt.locs, Pt.cells, Pt.slots] at X' l1 y1 z1 st hQ
  subst l1 y1 z1
  exact ⟨v, T', _, Lc, X', rfl, hQ, st⟩
theorem own_special (X : Stand p l e R s m args below meth c T locs cells slots) (hx : p.tables.exec = Jvm.exec) (hZ : Z.Warmed39 s.vm) (hown : s.vm.findClass own = some m.cls) (hy1 : y.name = "<init>") (w1 : (Jvm.Cond.methodLink own index y).before a0 Z = true) (w2 : (Jvm.Cond.instanceMethod y).before a0 Z = true)
    (w4 : (Jvm.Cond.code y bytes maxL none).before a0 Z = true) (w3 : (Jvm.Cond.initialized y.cls).before a0 Z = true) (hy : y.cls ≠ "java/lang/invoke/MethodHandle" ∧ y.cls ≠ "java/lang/invoke/VarHandle") (hC : Ct l Z [] y bytes maxL none rm (.ref a :: argsL).toArray h Q) (eT : T.heap = h) {g : JFrame} (hg : g.method = m) (hsize : g.locals.size = c.maxLocals)
    (hlen : ∀ sig, parseMethodDescriptor y.desc = some sig → argsL.length = sig.parameters.length) (hs : g.stack = argsL.reverse ++ .ref a :: rest) {W : Nat} (hW : 2 * g.monitorRoom + (rest.map fun v => v.category).sum ≤ W) (hd : decode c.code g.pc = .ok (.invokespecial index, 3))
    (hf : rm.frames + 1 ≤ R.frames) (hl : W + (maxL + 11) + rm.locals ≤ R.locals) (hc : cells + rm.cells ≤ R.cells) (hsl : slots + rm.slots ≤ R.slots) :
    ∃ v T' h' L, Stand p l e R s m args below meth c T' (locs ++ L) (cells + rm.cells) (slots + rm.slots) ∧ T'.heap = h' ∧ Q v h' L ∧ ∀ t, Steps p.tables e below (T'.setTop { g with pc := g.pc + 3, stack := v.toList ++ rest }) t → Steps p.tables e below (T.setTop g) t := by
  obtain ⟨v, _, ⟨T', L', k', n'⟩, -, X', ⟨Lc, hQ, l1, y1, z1⟩, st⟩ := X.specialBack hx (y := y) hy1 hown (mvT hZ w1) (mvT hZ w2) (mvT hZ w4) hy (backOf (W := W) hC hZ w4 w3 hf hl) hg hsize (Steps.refl _) (a := a) hlen hs hW hd (fun _ _ => ⟨rfl, eT, hc, hsl⟩)
  dsimp only [Pt.U, Pt.locs, Pt.cells, Pt.slots] at X' l1 y1 z1 st hQ
  subst l1 y1 z1
  exact ⟨v, T', _, Lc, X', rfl, hQ, fun t k => st.trans k⟩
theorem own_virtual {C : String} (X : Stand p l e R s m args below meth c T locs cells slots) (hx : p.tables.exec = Jvm.exec) (hZ : Z.Warmed39 s.vm) (hown : s.vm.findClass own = some m.cls) (w1 : (Jvm.Cond.methodLink own index y).before a0 Z = true) (w2 : (Jvm.Cond.declares y).before a0 Z = true) (w5 : (Jvm.Cond.selects C y y).before a0 Z = true)
    (w6 : (Jvm.Cond.instanceMethod y).before a0 Z = true) (w4 : (Jvm.Cond.code y bytes maxL ret).before a0 Z = true) (w3 : (Jvm.Cond.initialized y.cls).before a0 Z = true) (hy : y.cls ≠ "java/lang/invoke/MethodHandle" ∧ y.cls ≠ "java/lang/invoke/VarHandle") (E : Exa Z h a C) (hC : Ct l Z [] y bytes maxL ret rm (.ref a :: argsL).toArray h Q) (eT : T.heap = h) {g : JFrame} (hg : g.method = m) (hsize : g.locals.size = c.maxLocals)
    (hlen : ∀ sig, parseMethodDescriptor y.desc = some sig → argsL.length = sig.parameters.length) (hs : g.stack = argsL.reverse ++ .ref a :: rest) {W : Nat} (hW : 2 * g.monitorRoom + (rest.map fun v => v.category).sum ≤ W) (hd : decode c.code g.pc = .ok (.invokevirtual index, 3))
    (hf : rm.frames + 1 ≤ R.frames) (hl : W + (maxL + 11) + rm.locals ≤ R.locals) (hc : cells + rm.cells ≤ R.cells) (hsl : slots + rm.slots ≤ R.slots) :
    ∃ v T' h' L, Stand p l e R s m args below meth c T' (locs ++ L) (cells + rm.cells) (slots + rm.slots) ∧ T'.heap = h' ∧ Q v h' L ∧ ∀ t, Steps p.tables e below (T'.setTop { g with pc := g.pc + 3, stack := v.toList ++ rest }) t → Steps p.tables e below (T.setTop g) t := by
  obtain ⟨cq, kq, qa, qb, qc⟩ := isOf hZ eT E
  obtain ⟨v, _, ⟨T', L', k', n'⟩, -, X', ⟨Lc, hQ, l1, y1, z1⟩, st⟩ := X.virtualBack hx (y := y) (z := y) hown (mvT hZ w1) (mvT hZ w2) (notFace_of_selects (args := #[]) (mvT hZ w5)) (mvT hZ w5) (mvT hZ w6) hy (backOf (W := W) hC hZ w4 w3 hf hl) qa qc hg hsize (Steps.refl _) hlen hs hW hd (fun _ _ => ⟨rfl, eT, hc, hsl⟩)
  dsimp only [Pt.U, Pt.locs, Pt.cells, Pt.slots] at X' l1 y1 z1 st hQ
  subst l1 y1 z1
  exact ⟨v, T', _, Lc, X', rfl, hQ, fun t k => st.trans k⟩
theorem own_private {nn : Nat} (X : Stand p l e R s m args below meth c T locs cells slots) (hx : p.tables.exec = Jvm.exec) (hZ : Z.Warmed39 s.vm) (hown : s.vm.findClass own = some m.cls) (w1 : (Jvm.Cond.methodLink own index y).before a0 Z = true) (w2 : (Jvm.Cond.instanceMethod y).before a0 Z = true) (wi : (Jvm.Cond.instantiable y.cls nn).before a0 Z = true)
    (wp : (Jvm.Cond.privateMethod y).before a0 Z = true) (w4 : (Jvm.Cond.code y bytes maxL ret).before a0 Z = true) (w3 : (Jvm.Cond.initialized y.cls).before a0 Z = true) (hy : y.cls ≠ "java/lang/invoke/MethodHandle" ∧ y.cls ≠ "java/lang/invoke/VarHandle") (E : Exa Z h a y.cls) (hC : Ct l Z [] y bytes maxL ret rm (.ref a :: argsL).toArray h Q) (eT : T.heap = h) {g : JFrame} (hg : g.method = m) (hsize : g.locals.size = c.maxLocals)
    (hlen : ∀ sig, parseMethodDescriptor y.desc = some sig → argsL.length = sig.parameters.length) (hs : g.stack = argsL.reverse ++ .ref a :: rest) {W : Nat} (hW : 2 * g.monitorRoom + (rest.map fun v => v.category).sum ≤ W) (hd : decode c.code g.pc = .ok (.invokevirtual index, 3))
    (hf : rm.frames + 1 ≤ R.frames) (hl : W + (maxL + 11) + rm.locals ≤ R.locals) (hc : cells + rm.cells ≤ R.cells) (hsl : slots + rm.slots ≤ R.slots) :
    ∃ v T' h' L, Stand p l e R s m args below meth c T' (locs ++ L) (cells + rm.cells) (slots + rm.slots) ∧ T'.heap = h' ∧ Q v h' L ∧ ∀ t, Steps p.tables e below (T'.setTop { g with pc := g.pc + 3, stack := v.toList ++ rest }) t → Steps p.tables e below (T.setTop g) t := by
  obtain ⟨cell, hcell, hobj⟩ := E.cell
  have hsel : (Jvm.Cond.selects y.cls y y).before args s = true := by
    obtain ⟨c', k', i1, i2, -, i4, -⟩ := Cond.instantiable_spec (mvT hZ wi : (Jvm.Cond.instantiable y.cls nn).before args s = true)
    exact selects_self_of_private i1 i2 (Bool.or_eq_false_iff.mp i4).1 (Cond.privateMethod_at (mvP hZ wp (args := args))) (mvT hZ w2) hy
  obtain ⟨v, _, ⟨T', L', k', n'⟩, -, X', ⟨Lc, hQ, l1, y1, z1⟩, st⟩ := X.privateBack hx (y := y) hown (mvT hZ w1) (mvT hZ w2) hsel (Cond.privateMethod_at (mvP hZ wp (args := #[]))) (mvT hZ w4) hy (backOf (W := W) hC hZ w4 w3 hf hl) hg hsize (Steps.refl _) (a := a) (by rw [eT]; exact hcell) hobj hlen hs hW hd (fun _ _ => ⟨rfl, eT, hc, hsl⟩)
  dsimp only [Pt.U, Pt.locs, Pt.cells, Pt.slots] at X' l1 y1 z1 st hQ
  subst l1 y1 z1
  exact ⟨v, T', _, Lc, X', rfl, hQ, fun t k => st.trans k⟩
theorem own_virtualUp {C owner : String} (X : Stand p l e R s m args below meth c T locs cells slots) (hx : p.tables.exec = Jvm.exec) (hZ : Z.Warmed39 s.vm) (hown : s.vm.findClass own = some m.cls) (w1 : (Jvm.Cond.methodLink own index y).before a0 Z = true) (ws : (Jvm.Cond.sameMethod y.cls owner y.name y.desc).before a0 Z = true) (w2 : (Jvm.Cond.declares ⟨owner, y.name, y.desc⟩).before a0 Z = true) (w5 : (Jvm.Cond.selects C y z).before a0 Z = true)
    (w6 : (Jvm.Cond.instanceMethod z).before a0 Z = true) (w4 : (Jvm.Cond.code z bytes maxL ret).before a0 Z = true) (w3 : (Jvm.Cond.initialized z.cls).before a0 Z = true) (ho : owner ≠ "java/lang/invoke/MethodHandle" ∧ owner ≠ "java/lang/invoke/VarHandle") (E : Exa Z h a C) (hC : Ct l Z [] z bytes maxL ret rm (.ref a :: argsL).toArray h Q) (eT : T.heap = h) {g : JFrame} (hg : g.method = m) (hsize : g.locals.size = c.maxLocals)
    (hlen : ∀ sig, parseMethodDescriptor y.desc = some sig → argsL.length = sig.parameters.length) (hs : g.stack = argsL.reverse ++ .ref a :: rest) {W : Nat} (hW : 2 * g.monitorRoom + (rest.map fun v => v.category).sum ≤ W) (hd : decode c.code g.pc = .ok (.invokevirtual index, 3))
    (hf : rm.frames + 1 ≤ R.frames) (hl : W + (maxL + 11) + rm.locals ≤ R.locals) (hc : cells + rm.cells ≤ R.cells) (hsl : slots + rm.slots ≤ R.slots) :
    ∃ v T' h' L, Stand p l e R s m args below meth c T' (locs ++ L) (cells + rm.cells) (slots + rm.slots) ∧ T'.heap = h' ∧ Q v h' L ∧ ∀ t, Steps p.tables e below (T'.setTop { g with pc := g.pc + 3, stack := v.toList ++ rest }) t → Steps p.tables e below (T.setTop g) t := by
  obtain ⟨cq, kq, qa, qb, qc⟩ := isOf hZ eT E
  obtain ⟨v, _, ⟨T', L', k', n'⟩, -, X', ⟨Lc, hQ, l1, y1, z1⟩, st⟩ := X.virtualBackUp hx (x := y) (y := z) (owner := owner) hown (mvT hZ w1) (mvT hZ ws) (mvT hZ w2) ho (mvT hZ w5) (mvT hZ w6) (backOf (W := W) hC hZ w4 w3 hf hl) qa qc hg hsize (Steps.refl _) hlen hs hW hd (fun _ _ => ⟨rfl, eT, hc, hsl⟩)
  dsimp only [Pt.U, Pt.locs, Pt.cells, Pt.slots] at X' l1 y1 z1 st hQ
  subst l1 y1 z1
  exact ⟨v, T', _, Lc, X', rfl, hQ, fun t k => st.trans k⟩
theorem own_ref {x : Value} (hq : x = .null ∨ ∃ b, x = .ref b) : x.isRef = true := by rcases hq with rfl | ⟨_, rfl⟩ <;> rfl
theorem own_cat {x : Value} (hq : x = .null ∨ ∃ b, x = .ref b) : x.category = 1 := by rcases hq with rfl | ⟨_, rfl⟩ <;> rfl
theorem own_nar {x : Value} {t : FieldType} (hq : x = .null ∨ ∃ b, x = .ref b) (ht : t.isReference = true) : narrow t x = x := by rcases hq with rfl | ⟨_, rfl⟩ <;> cases t <;> first | rfl | (cases ht; done)
theorem own_fit {x : Value} {t : FieldType} (hq : x = .null ∨ ∃ b, x = .ref b) (ht : t.isReference = true) : fits t x = true := by rcases hq with rfl | ⟨_, rfl⟩ <;> cases t <;> first | rfl | (cases ht; done)
variable {k : ClassId} {ty : FieldType} {n j : Int32} {vs : List Value} {dv v : Value}
theorem own_ld (X : Stand p l e R s m args below meth c T locs cells slots) (hx : p.tables.exec = Jvm.exec) (hZ : Z.Warmed39 s.vm) (eT : T.heap = h) (F : Arv Z h a k ty n vs dv) (hj : ¬ j < 0 ∧ j < n) (hv : vs.getD j.toNatClampNeg dv = v) {g : JFrame} (hg : g.method = m) (hs : g.stack = .int j :: .ref a :: rest) {i : Instr}
    (hi : (i = .iaload ∧ ty = .int) ∨ (i = .laload ∧ ty = .long) ∨ (i = .aaload ∧ ty.isReference = true)) (hd : decode c.code g.pc = .ok (i, 1)) : ∀ t, Steps p.tables e below (T.setTop { g with pc := g.pc + 1, stack := v :: rest }) t → Steps p.tables e below (T.setTop g) t := by
  obtain ⟨cl, A, -, S, -, H, -⟩ := F
  have hin := inb_of S hj
  have hat := H.at hin hv
  rcases hi with ⟨rfl, rfl⟩ | ⟨rfl, rfl⟩ | ⟨rfl, ht⟩
  · exact X.iaload hx (j := j) (v := v) (by rw [eT]; exact A.1) (State.isArrayOf_alike hZ.alike A.2.1) A.2.2 hin hat hg hs hd
  · exact X.laload hx (j := j) (v := v) (by rw [eT]; exact A.1) (State.isArrayOf_alike hZ.alike A.2.1) A.2.2 hin hat hg hs hd
  · exact X.aaload hx (j := j) (v := v) (by rw [eT]; exact A.1) (State.isArrayOf_alike hZ.alike A.2.1) ht A.2.2 hin hat hg hs hd
theorem own_len (X : Stand p l e R s m args below meth c T locs cells slots) (hx : p.tables.exec = Jvm.exec) (hZ : Z.Warmed39 s.vm) (eT : T.heap = h) (F : Arv Z h a k ty n vs dv) {g : JFrame} (hg : g.method = m) (hs : g.stack = .ref a :: rest) (hd : decode c.code g.pc = .ok (.arraylength, 1)) :
    ∀ t, Steps p.tables e below (T.setTop { g with pc := g.pc + 1, stack := .int n :: rest }) t → Steps p.tables e below (T.setTop g) t := by
  obtain ⟨cl, A, -, S, q, -, -⟩ := F
  intro t kt
  refine X.arraylength hx (by rw [eT]; exact A.1) (State.isArrayOf_alike hZ.alike A.2.1) hg hs hd t ?_
  rw [len_of S q]
  exact kt
theorem own_lenA {cc : Cell} (X : Stand p l e R s m args below meth c T locs cells slots) (hx : p.tables.exec = Jvm.exec) (hZ : Z.Warmed39 s.vm) (eT : T.heap = h) (A : Arr Z h a cc ty) (hn : cc.slots.size.toInt32 = n) {g : JFrame} (hg : g.method = m) (hs : g.stack = .ref a :: rest) (hd : decode c.code g.pc = .ok (.arraylength, 1)) :
    ∀ t, Steps p.tables e below (T.setTop { g with pc := g.pc + 1, stack := .int n :: rest }) t → Steps p.tables e below (T.setTop g) t := by
  intro t kt
  refine X.arraylength hx (by rw [eT]; exact A.1) (State.isArrayOf_alike hZ.alike A.2.1) hg hs hd t ?_
  rw [hn]
  exact kt
theorem own_stI (X : Stand p l e R s m args below meth c T locs cells slots) (hx : p.tables.exec = Jvm.exec) (hZ : Z.Warmed39 s.vm) (eT : T.heap = h) (F : Arv Z h a k .int n vs dv) (hj : ¬ j < 0 ∧ j < n) (i : Nat) (hi : j.toNatClampNeg = i) (hl : i < vs.length) {x : Int32} {g : JFrame} (hg : g.method = m) (hs : g.stack = .int x :: .int j :: .ref a :: rest) (hd : decode c.code g.pc = .ok (.iastore, 1)) :
    ∃ T' h', Stand p l e R s m args below meth c T' (locs ++ [⟨a, j.toNatClampNeg⟩]) cells slots ∧ T'.heap = h' ∧ Wr h h' a j.toNatClampNeg (.int x) ∧ Arv Z h' a k .int n (vs.set i (.int x)) dv ∧ ∀ t, Steps p.tables e below (T'.setTop { g with pc := g.pc + 1, stack := rest }) t → Steps p.tables e below (T.setTop g) t := by
  obtain ⟨cl, A, q1, S, q3, H, G⟩ := F
  obtain ⟨T', h', X', e', W, st⟩ := stI X hx hZ eT A (inb_of S hj) hg hs hd
  exact ⟨T', h', X', e', W, Arv.set A q1 S q3 H G rfl W i hi hl, st⟩
theorem own_stJ (X : Stand p l e R s m args below meth c T locs cells slots) (hx : p.tables.exec = Jvm.exec) (hZ : Z.Warmed39 s.vm) (eT : T.heap = h) (F : Arv Z h a k .long n vs dv) (hj : ¬ j < 0 ∧ j < n) (i : Nat) (hi : j.toNatClampNeg = i) (hl : i < vs.length) {x : Int64} {g : JFrame} (hg : g.method = m) (hs : g.stack = .long x :: .int j :: .ref a :: rest) (hd : decode c.code g.pc = .ok (.lastore, 1)) :
    ∃ T' h', Stand p l e R s m args below meth c T' (locs ++ [⟨a, j.toNatClampNeg⟩]) cells slots ∧ T'.heap = h' ∧ Wr h h' a j.toNatClampNeg (.long x) ∧ Arv Z h' a k .long n (vs.set i (.long x)) dv ∧ ∀ t, Steps p.tables e below (T'.setTop { g with pc := g.pc + 1, stack := rest }) t → Steps p.tables e below (T.setTop g) t := by
  obtain ⟨cl, A, q1, S, q3, H, G⟩ := F
  obtain ⟨T', h', X', e', W, st⟩ := stJ X hx hZ eT A (inb_of S hj) hg hs hd
  exact ⟨T', h', X', e', W, Arv.set A q1 S q3 H G rfl W i hi hl, st⟩
theorem own_stR {C : String} {y : Value} (X : Stand p l e R s m args below meth c T locs cells slots) (hx : p.tables.exec = Jvm.exec) (hZ : Z.Warmed39 s.vm) (eT : T.heap = h) (F : Arv Z h a k ty n vs dv) (ht : ty.isReference = true) (hf : fits ty y = true) (O : y = .null ∨ ∃ b, y = .ref b ∧ Ovr Z k C ∧ Ins Z h b C true) (hj : ¬ j < 0 ∧ j < n) (i : Nat) (hi : j.toNatClampNeg = i) (hl : i < vs.length) {g : JFrame} (hg : g.method = m) (hs : g.stack = y :: .int j :: .ref a :: rest) (hd : decode c.code g.pc = .ok (.aastore, 1)) :
    ∃ T' h', Stand p l e R s m args below meth c T' (locs ++ [⟨a, j.toNatClampNeg⟩]) cells slots ∧ T'.heap = h' ∧ Wr h h' a j.toNatClampNeg y ∧ Arv Z h' a k ty n (vs.set i y) dv ∧ ∀ t, Steps p.tables e below (T'.setTop { g with pc := g.pc + 1, stack := rest }) t → Steps p.tables e below (T.setTop g) t := by
  obtain ⟨cl, A, q1, S, q3, H, G⟩ := F
  obtain ⟨T', h', X', e', W, st⟩ := stR X hx hZ eT A (inb_of S hj) ht (by rcases O with rfl | ⟨b, rfl, O, I⟩; exact Or.inl rfl; exact Sto.ofV A q1 O I) hg hs hd
  exact ⟨T', h', X', e', W, Arv.set A q1 S q3 H G hf W i hi hl, st⟩
end OwnKit
def own_M (Z : State) (va x0 x1 x2 x3 : Addr) (vc : Cell) : Prop := Sta Z Z.heap "com/example/electd/electd/model/MessageKind" "$VALUES" "[Lcom/example/electd/electd/model/MessageKind;" (.ref va) ∧ Arr Z Z.heap va vc (.object "com/example/electd/electd/model/MessageKind") ∧ Exa Z Z.heap va "[Lcom/example/electd/electd/model/MessageKind;" ∧ vc.slots.size = 4 ∧ FitC Z vc ∧ (Sta Z Z.heap "com/example/electd/electd/model/MessageKind" "REQUEST" "Lcom/example/electd/electd/model/MessageKind;" (.ref x0) ∧ Exa Z Z.heap x0 "com/example/electd/electd/model/MessageKind" ∧ Fld Z Z.heap x0 "java/lang/Enum" "ordinal" "I" (.int (0 : Int32))) ∧ (Sta Z Z.heap "com/example/electd/electd/model/MessageKind" "REPLY" "Lcom/example/electd/electd/model/MessageKind;" (.ref x1) ∧ Exa Z Z.heap x1 "com/example/electd/electd/model/MessageKind" ∧ Fld Z Z.heap x1 "java/lang/Enum" "ordinal" "I" (.int (1 : Int32))) ∧ (Sta Z Z.heap "com/example/electd/electd/model/MessageKind" "RELEASE" "Lcom/example/electd/electd/model/MessageKind;" (.ref x2) ∧ Exa Z Z.heap x2 "com/example/electd/electd/model/MessageKind" ∧ Fld Z Z.heap x2 "java/lang/Enum" "ordinal" "I" (.int (2 : Int32))) ∧ (Sta Z Z.heap "com/example/electd/electd/model/MessageKind" "HELLO" "Lcom/example/electd/electd/model/MessageKind;" (.ref x3) ∧ Exa Z Z.heap x3 "com/example/electd/electd/model/MessageKind" ∧ Fld Z Z.heap x3 "java/lang/Enum" "ordinal" "I" (.int (3 : Int32)))
def own_J (Z : State) (va x0 x1 x2 x3 : Addr) (vc : Cell) : Prop := Sta Z Z.heap "com/example/electd/electd/io/Rejection" "$VALUES" "[Lcom/example/electd/electd/io/Rejection;" (.ref va) ∧ Arr Z Z.heap va vc (.object "com/example/electd/electd/io/Rejection") ∧ Exa Z Z.heap va "[Lcom/example/electd/electd/io/Rejection;" ∧ vc.slots.size = 4 ∧ FitC Z vc ∧ (Sta Z Z.heap "com/example/electd/electd/io/Rejection" "MALFORMED" "Lcom/example/electd/electd/io/Rejection;" (.ref x0) ∧ Exa Z Z.heap x0 "com/example/electd/electd/io/Rejection" ∧ Fld Z Z.heap x0 "java/lang/Enum" "ordinal" "I" (.int (0 : Int32))) ∧ (Sta Z Z.heap "com/example/electd/electd/io/Rejection" "BAD_TAG" "Lcom/example/electd/electd/io/Rejection;" (.ref x1) ∧ Exa Z Z.heap x1 "com/example/electd/electd/io/Rejection" ∧ Fld Z Z.heap x1 "java/lang/Enum" "ordinal" "I" (.int (1 : Int32))) ∧ (Sta Z Z.heap "com/example/electd/electd/io/Rejection" "UNCONFIRMED" "Lcom/example/electd/electd/io/Rejection;" (.ref x2) ∧ Exa Z Z.heap x2 "com/example/electd/electd/io/Rejection" ∧ Fld Z Z.heap x2 "java/lang/Enum" "ordinal" "I" (.int (2 : Int32))) ∧ (Sta Z Z.heap "com/example/electd/electd/io/Rejection" "REPLAYED" "Lcom/example/electd/electd/io/Rejection;" (.ref x3) ∧ Exa Z Z.heap x3 "com/example/electd/electd/io/Rejection" ∧ Fld Z Z.heap x3 "java/lang/Enum" "ordinal" "I" (.int (3 : Int32)))
theorem own_four (y : Int32) (h : ¬ y < (0 : Int32) ∧ y < (4 : Int32)) : y = 0 ∨ y = 1 ∨ y = 2 ∨ y = 3 := by
  obtain ⟨h1, h2⟩ := h
  rw [Int32.lt_iff_toInt_lt] at h1 h2
  have e0 : (0 : Int32).toInt = 0 := rfl
  have e4 : (4 : Int32).toInt = 4 := rfl
  have q : y.toInt = 0 ∨ y.toInt = 1 ∨ y.toInt = 2 ∨ y.toInt = 3 := by omega
  rcases q with q | q | q | q
  · exact Or.inl (Int32.toInt_inj.mp q)
  · exact Or.inr (Or.inl (Int32.toInt_inj.mp q))
  · exact Or.inr (Or.inr (Or.inl (Int32.toInt_inj.mp q)))
  · exact Or.inr (Or.inr (Or.inr (Int32.toInt_inj.mp q)))
theorem own_rng (x : Int32) : ¬ (x &&& (3 : Int32)) < (0 : Int32) ∧ (x &&& (3 : Int32)) < (4 : Int32) := by
  have q := c_and x (3 : Int32) (by decide)
  have e0 : (0 : Int32).toInt = 0 := rfl
  have e3 : (3 : Int32).toInt = 3 := rfl
  have e4 : (4 : Int32).toInt = 4 := rfl
  rw [Int32.lt_iff_toInt_lt, Int32.lt_iff_toInt_lt]
  omega
def own_hit (i o : Int32) : Int64 := if o = i then 1 else 0
theorem own_at (c0 c1 c2 c3 : Int64) (o : Int32) (h : ¬ o < (0 : Int32) ∧ o < (4 : Int32)) : ([.long c0, .long c1, .long c2, .long c3] : List Value).getD o.toNatClampNeg (.long (0 : Int64)) = .long (if o = (0 : Int32) then c0 else if o = (1 : Int32) then c1 else if o = (2 : Int32) then c2 else c3) := by
  rcases own_four o h with rfl | rfl | rfl | rfl <;> rfl
theorem own_size {Z : State} {a0 : Array Value} {t : Term} {va : Addr} {vc : Cell} {ty : FieldType} (ec : t.eval a0 Z none [] Z = some (.ref va)) (A : Arr Z Z.heap va vc ty) (w : (Jvm.Cond.eq (.length t) (.int (4 : Int32))).value a0 Z none Z [] = some true) : vc.slots.size = 4 := by
  have el := eqv_i (Term.int_eval 4) w
  have ha := A.fin (Vm.Alike.refl _)
  have hl : vc.slots.size < 2 ^ 31 := by
    by_cases q : vc.slots.size < 2 ^ 31
    · exact q
    · simp [Term.eval, ec, ha] at el; omega
  have el2 := len_f ec ha hl
  have es : vc.slots.size.toInt32 = (4 : Int32) := by
    have := el2.symm.trans el
    simpa using this
  have e := len_toInt hl
  rw [es] at e
  have e4 : (4 : Int32).toInt = 4 := rfl
  omega
theorem own_con {Z : State} {a0 : Array Value} {K c d : String} {i : Int32} (wi : (Jvm.Cond.initialized K).before a0 Z = true) (wl : (Jvm.Cond.laysStatic K c d).before a0 Z = true) (we : (Jvm.Cond.exactly (.static K c d) K).value a0 Z none Z [] = some true) (wo : (Jvm.Cond.eq (.field (.static K c d) "java/lang/Enum" "ordinal" "I") (.int i)).value a0 Z none Z [] = some true) :
    ∃ x : Addr, Sta Z Z.heap K c d (.ref x) ∧ Exa Z Z.heap x K ∧ Fld Z Z.heap x "java/lang/Enum" "ordinal" "I" (.int i) := by
  obtain ⟨x, ex⟩ := exa_v we
  exact ⟨x, Sta.start ex (Or.inr ⟨wi, wl⟩), Exa.start ex we, Fld.start ((fld_at ex).symm.trans (eqv_i (Term.int_eval i) wo))⟩
theorem d3_0 : decode prog_16_method_1_code 0 = .ok (.getstatic 16, 3) := by decide +kernel
theorem d3_3 : decode prog_16_method_1_code 3 = .ok (.invokevirtual 20, 3) := by decide +kernel
theorem d3_6 : decode prog_16_method_1_code 6 = .ok (.checkcast 21, 3) := by decide +kernel
theorem d3_9 : decode prog_16_method_1_code 9 = .ok (.areturn, 1) := by decide +kernel
theorem pn_0 : plainName "com/example/electd/electd/model/MessageKind" = true := by first | (simp [plainName, overriddenIn]; done) | decide +kernel
def rmVMQ (Z : State) (vaM : Addr) (xM0 : Addr) (xM1 : Addr) (xM2 : Addr) (xM3 : Addr) (vcM : Cell) (h0 : Heap) (n0 : Nat) (v : Option Value) (h : Heap) (L : List Loc) : Prop := ∃ (b : Addr) (cb : Cell), v = some (.ref b) ∧ Fr n0 L ∧ Keep h0 h [] ∧ h0.size ≤ b ∧ Arr Z h b cb (.object "com/example/electd/electd/model/MessageKind") ∧ cb.slots.size = 4
set_option maxRecDepth 65536 in
set_option maxHeartbeats 40000000 in
theorem rmVM (l : Launch) (Z : State) (a0 : Array Value) (hw : ∀ d ∈ tables_1, d.before a0 Z = true) (vaM : Addr) (xM0 : Addr) (xM1 : Addr) (xM2 : Addr) (xM3 : Addr) (vcM : Cell) (h0 : Heap) (n0 : Nat) (Z0 : n0 ≤ h0.size) (O : Old Z n0 h0) (EM : own_M Z vaM xM0 xM1 xM2 xM3 vcM) :
    Ct l Z [] (⟨"com/example/electd/electd/model/MessageKind", "values", "()[Lcom/example/electd/electd/model/MessageKind;"⟩ : MethodName) prog_16_method_1_code 0 (some (.array (.object "com/example/electd/electd/model/MessageKind"))) ({ frames := 1, cells := 1, slots := 4, locals := 14 } : Room) #[] h0 (rmVMQ Z vaM xM0 xM1 xM2 xM3 vcM h0 n0) := by
  refine own_enter (plainFor_of_name pn_0) ?_
  intro p e s m below meth c T0 X0 hx hby hml hZ hown hnm hret hlk e0
  have hown : s.vm.findClass "com/example/electd/electd/model/MessageKind" = some m.cls := hown
  have N0 := Fr.nil n0
  have K0 := Keep.refl h0 []
  refine own_st (fun wt wk => castTop (g' := mkF m 0 #[] []) (by first | (simp [entryFrame, mkF, argsToLocals, Value.category]; done) | rfl) wk) ?_
  show Fin1 p e below s (rmVMQ Z vaM xM0 xM1 xM2 xM3 vcM h0 n0) ({ frames := 1, cells := 1, slots := 4, locals := 14 } : Room).cells ({ frames := 1, cells := 1, slots := 4, locals := 14 } : Room).slots (T0.setTop (mkF m 0 #[] []))
  obtain ⟨SMv, AMv, XMv, zMv, FMv, ⟨SM0, QM0, OM0⟩, ⟨SM1, QM1, OM1⟩, ⟨SM2, QM2, OM2⟩, ⟨SM3, QM3, OM3⟩⟩ := EM
  obtain ⟨T1, X1, e1, st1⟩ := getS2 X0 hx hZ hown (host := "") (Or.inl (hw _ (List.mem_of_getElem? (i := 13) rfl))) Via.refl e0 (SMv.ext O.2) (g := (mkF m 0 #[] [])) rfl (hb hby d3_0)
  refine own_st st1 ?_
  show Fin1 p e below s (rmVMQ Z vaM xM0 xM1 xM2 xM3 vcM h0 n0) ({ frames := 1, cells := 1, slots := 4, locals := 14 } : Room).cells ({ frames := 1, cells := 1, slots := 4, locals := 14 } : Room).slots (T1.setTop (mkF m 3 #[] [(.ref vaM)]))
  obtain ⟨T2, h2, X2, e2, E2, A2, Y2, st2⟩ := cloneA X1 hx hZ hown (hw _ (List.mem_of_getElem? (i := 15) rfl)) (hw _ (List.mem_of_getElem? (i := 16) rfl)) (hw _ (List.mem_of_getElem? (i := 20) rfl)) (hw _ (List.mem_of_getElem? (i := 18) rfl)) (hw _ (List.mem_of_getElem? (i := 19) rfl)) (hw _ (List.mem_of_getElem? (i := 21) rfl)) e1 (AMv.ext O.2) (XMv.ext O.2) FMv (g := (mkF m 3 #[] [(.ref vaM)])) rfl (by rw [hml]; rfl) rfl (hb hby d3_3) (by decide) (W := 0) (by show 2 * 0 + _ ≤ _; exact Nat.le_of_eq rfl) (by decide) (cap := 4) (Nat.le_of_eq zMv) (by decide) (by decide)
  obtain ⟨b, gz⟩ : ∃ z, z = h0.size := ⟨_, rfl⟩
  rw [← gz] at A2 Y2 st2
  have Z0 := Nat.le_trans Z0 E2.1
  have K0 := K0.ext E2
  refine own_st st2 ?_
  show Fin1 p e below s (rmVMQ Z vaM xM0 xM1 xM2 xM3 vcM h0 n0) ({ frames := 1, cells := 1, slots := 4, locals := 14 } : Room).cells ({ frames := 1, cells := 1, slots := 4, locals := 14 } : Room).slots (T2.setTop (mkF m 6 #[] [(.ref b)]))
  obtain ⟨T3, X3, e3, st3⟩ := castY X2 hx hZ hown (hw _ (List.mem_of_getElem? (i := 27) rfl)) e2 (Ins.self Y2) (g := (mkF m 6 #[] [(.ref b)])) rfl rfl (hb hby d3_6)
  refine own_st st3 ?_
  show Fin1 p e below s (rmVMQ Z vaM xM0 xM1 xM2 xM3 vcM h0 n0) ({ frames := 1, cells := 1, slots := 4, locals := 14 } : Room).cells ({ frames := 1, cells := 1, slots := 4, locals := 14 } : Room).slots (T3.setTop (mkF m 9 #[] [(.ref b)]))
  exact own_retA X3 hx hlk hret rfl rfl (hb hby d3_9) (by rw [e3]; exact ⟨b, _, rfl, N0, K0, Nat.le_of_eq gz.symm, A2, zMv⟩) (by decide) (by decide)
theorem d4_0 : decode prog_4_method_1_code 0 = .ok (.getstatic 16, 3) := by decide +kernel
theorem d4_3 : decode prog_4_method_1_code 3 = .ok (.invokevirtual 20, 3) := by decide +kernel
theorem d4_6 : decode prog_4_method_1_code 6 = .ok (.checkcast 21, 3) := by decide +kernel
theorem d4_9 : decode prog_4_method_1_code 9 = .ok (.areturn, 1) := by decide +kernel
theorem pn_1 : plainName "com/example/electd/electd/io/Rejection" = true := by first | (simp [plainName, overriddenIn]; done) | decide +kernel
def rmVJQ (Z : State) (vaJ : Addr) (xJ0 : Addr) (xJ1 : Addr) (xJ2 : Addr) (xJ3 : Addr) (vcJ : Cell) (h0 : Heap) (n0 : Nat) (v : Option Value) (h : Heap) (L : List Loc) : Prop := ∃ (b : Addr) (cb : Cell), v = some (.ref b) ∧ Fr n0 L ∧ Keep h0 h [] ∧ h0.size ≤ b ∧ Arr Z h b cb (.object "com/example/electd/electd/io/Rejection") ∧ cb.slots.size = 4
set_option maxRecDepth 65536 in
set_option maxHeartbeats 40000000 in
theorem rmVJ (l : Launch) (Z : State) (a0 : Array Value) (hw : ∀ d ∈ tables_1, d.before a0 Z = true) (vaJ : Addr) (xJ0 : Addr) (xJ1 : Addr) (xJ2 : Addr) (xJ3 : Addr) (vcJ : Cell) (h0 : Heap) (n0 : Nat) (Z0 : n0 ≤ h0.size) (O : Old Z n0 h0) (EJ : own_J Z vaJ xJ0 xJ1 xJ2 xJ3 vcJ) :
    Ct l Z [] (⟨"com/example/electd/electd/io/Rejection", "values", "()[Lcom/example/electd/electd/io/Rejection;"⟩ : MethodName) prog_4_method_1_code 0 (some (.array (.object "com/example/electd/electd/io/Rejection"))) ({ frames := 1, cells := 1, slots := 4, locals := 14 } : Room) #[] h0 (rmVJQ Z vaJ xJ0 xJ1 xJ2 xJ3 vcJ h0 n0) := by
  refine own_enter (plainFor_of_name pn_1) ?_
  intro p e s m below meth c T0 X0 hx hby hml hZ hown hnm hret hlk e0
  have hown : s.vm.findClass "com/example/electd/electd/io/Rejection" = some m.cls := hown
  have N0 := Fr.nil n0
  have K0 := Keep.refl h0 []
  refine own_st (fun wt wk => castTop (g' := mkF m 0 #[] []) (by first | (simp [entryFrame, mkF, argsToLocals, Value.category]; done) | rfl) wk) ?_
  show Fin1 p e below s (rmVJQ Z vaJ xJ0 xJ1 xJ2 xJ3 vcJ h0 n0) ({ frames := 1, cells := 1, slots := 4, locals := 14 } : Room).cells ({ frames := 1, cells := 1, slots := 4, locals := 14 } : Room).slots (T0.setTop (mkF m 0 #[] []))
  obtain ⟨SJv, AJv, XJv, zJv, FJv, ⟨SJ0, QJ0, OJ0⟩, ⟨SJ1, QJ1, OJ1⟩, ⟨SJ2, QJ2, OJ2⟩, ⟨SJ3, QJ3, OJ3⟩⟩ := EJ
  obtain ⟨T1, X1, e1, st1⟩ := getS2 X0 hx hZ hown (host := "") (Or.inl (hw _ (List.mem_of_getElem? (i := 38) rfl))) Via.refl e0 (SJv.ext O.2) (g := (mkF m 0 #[] [])) rfl (hb hby d4_0)
  refine own_st st1 ?_
  show Fin1 p e below s (rmVJQ Z vaJ xJ0 xJ1 xJ2 xJ3 vcJ h0 n0) ({ frames := 1, cells := 1, slots := 4, locals := 14 } : Room).cells ({ frames := 1, cells := 1, slots := 4, locals := 14 } : Room).slots (T1.setTop (mkF m 3 #[] [(.ref vaJ)]))
  obtain ⟨T2, h2, X2, e2, E2, A2, Y2, st2⟩ := cloneA X1 hx hZ hown (hw _ (List.mem_of_getElem? (i := 40) rfl)) (hw _ (List.mem_of_getElem? (i := 41) rfl)) (hw _ (List.mem_of_getElem? (i := 20) rfl)) (hw _ (List.mem_of_getElem? (i := 18) rfl)) (hw _ (List.mem_of_getElem? (i := 42) rfl)) (hw _ (List.mem_of_getElem? (i := 43) rfl)) e1 (AJv.ext O.2) (XJv.ext O.2) FJv (g := (mkF m 3 #[] [(.ref vaJ)])) rfl (by rw [hml]; rfl) rfl (hb hby d4_3) (by decide) (W := 0) (by show 2 * 0 + _ ≤ _; exact Nat.le_of_eq rfl) (by decide) (cap := 4) (Nat.le_of_eq zJv) (by decide) (by decide)
  obtain ⟨b, gz⟩ : ∃ z, z = h0.size := ⟨_, rfl⟩
  rw [← gz] at A2 Y2 st2
  have Z0 := Nat.le_trans Z0 E2.1
  have K0 := K0.ext E2
  refine own_st st2 ?_
  show Fin1 p e below s (rmVJQ Z vaJ xJ0 xJ1 xJ2 xJ3 vcJ h0 n0) ({ frames := 1, cells := 1, slots := 4, locals := 14 } : Room).cells ({ frames := 1, cells := 1, slots := 4, locals := 14 } : Room).slots (T2.setTop (mkF m 6 #[] [(.ref b)]))
  obtain ⟨T3, X3, e3, st3⟩ := castY X2 hx hZ hown (hw _ (List.mem_of_getElem? (i := 49) rfl)) e2 (Ins.self Y2) (g := (mkF m 6 #[] [(.ref b)])) rfl rfl (hb hby d4_6)
  refine own_st st3 ?_
  show Fin1 p e below s (rmVJQ Z vaJ xJ0 xJ1 xJ2 xJ3 vcJ h0 n0) ({ frames := 1, cells := 1, slots := 4, locals := 14 } : Room).cells ({ frames := 1, cells := 1, slots := 4, locals := 14 } : Room).slots (T3.setTop (mkF m 9 #[] [(.ref b)]))
  exact own_retA X3 hx hlk hret rfl rfl (hb hby d4_9) (by rw [e3]; exact ⟨b, _, rfl, N0, K0, Nat.le_of_eq gz.symm, A2, zJv⟩) (by decide) (by decide)
theorem d7_0 : decode jdk_37_method_2_code 0 = .ok (.aload_n 0, 1) := by decide +kernel
theorem d7_1 : decode jdk_37_method_2_code 1 = .ok (.getfield 7, 3) := by decide +kernel
theorem d7_4 : decode jdk_37_method_2_code 4 = .ok (.ireturn, 1) := by decide +kernel
theorem pn_2 : plainName "java/lang/Enum" = true := by first | (simp [plainName, overriddenIn]; done) | decide +kernel
def rmOrdQ (Z : State) (a1 : Addr) (o : Int32) (h0 : Heap) (n0 : Nat) (v : Option Value) (h : Heap) (L : List Loc) : Prop := v = some (.int o) ∧ Fr n0 L ∧ h = h0
set_option maxRecDepth 65536 in
set_option maxHeartbeats 40000000 in
theorem rmOrd (l : Launch) (Z : State) (a0 : Array Value) (hw : ∀ d ∈ tables_1, d.before a0 Z = true) (a1 : Addr) (o : Int32) (h0 : Heap) (n0 : Nat) (Z0 : n0 ≤ h0.size) (Fo : Fld Z h0 a1 "java/lang/Enum" "ordinal" "I" (.int o)) :
    Ct l Z [] (⟨"java/lang/Enum", "ordinal", "()I"⟩ : MethodName) jdk_37_method_2_code 1 (some .int) ({ frames := 0, cells := 0, slots := 0, locals := 0 } : Room) #[(.ref a1)] h0 (rmOrdQ Z a1 o h0 n0) := by
  refine own_enter (plainFor_of_name pn_2) ?_
  intro p e s m below meth c T0 X0 hx hby hml hZ hown hnm hret hlk e0
  have hown : s.vm.findClass "java/lang/Enum" = some m.cls := hown
  have N0 := Fr.nil n0
  have K0 := Keep.refl h0 []
  refine own_st (fun wt wk => castTop (g' := mkF m 0 #[.val (.ref a1)] []) (by first | (simp [entryFrame, mkF, argsToLocals, Value.category]; done) | rfl) wk) ?_
  show Fin1 p e below s (rmOrdQ Z a1 o h0 n0) ({ frames := 0, cells := 0, slots := 0, locals := 0 } : Room).cells ({ frames := 0, cells := 0, slots := 0, locals := 0 } : Room).slots (T0.setTop (mkF m 0 #[.val (.ref a1)] []))
  refine own_st (fun wt wk => XS.aloadN X0.here hx rfl (hb hby d7_0) rfl rfl wk) ?_
  show Fin1 p e below s (rmOrdQ Z a1 o h0 n0) ({ frames := 0, cells := 0, slots := 0, locals := 0 } : Room).cells ({ frames := 0, cells := 0, slots := 0, locals := 0 } : Room).slots (T0.setTop (mkF m 1 #[.val (.ref a1)] [(.ref a1)]))
  obtain ⟨T1, X1, e1, st1⟩ := getF X0 hx hZ hown (host := "") (Or.inl (hw _ (List.mem_of_getElem? (i := 70) rfl))) Via.refl e0 Fo (g := (mkF m 1 #[.val (.ref a1)] [(.ref a1)])) rfl rfl (hb hby d7_1)
  refine own_st st1 ?_
  show Fin1 p e below s (rmOrdQ Z a1 o h0 n0) ({ frames := 0, cells := 0, slots := 0, locals := 0 } : Room).cells ({ frames := 0, cells := 0, slots := 0, locals := 0 } : Room).slots (T1.setTop (mkF m 4 #[.val (.ref a1)] [(.int o)]))
  exact own_retI X1 hx hlk hret (hb hby d7_4) (by rw [e1]; exact ⟨rfl, N0, rfl⟩) (by decide) (by decide)
theorem d1_0 : decode prog_25_method_1_code 0 = .ok (.aload_n 0, 1) := by decide +kernel
theorem d1_1 : decode prog_25_method_1_code 1 = .ok (.invokespecial 1, 3) := by decide +kernel
theorem d1_4 : decode prog_25_method_1_code 4 = .ok (.aload_n 0, 1) := by decide +kernel
theorem d1_5 : decode prog_25_method_1_code 5 = .ok (.invokestatic 7, 3) := by decide +kernel
theorem d1_8 : decode prog_25_method_1_code 8 = .ok (.arraylength, 1) := by decide +kernel
theorem d1_9 : decode prog_25_method_1_code 9 = .ok (.newarray .long, 2) := by decide +kernel
theorem d1_11 : decode prog_25_method_1_code 11 = .ok (.putfield 13, 3) := by decide +kernel
theorem d1_14 : decode prog_25_method_1_code 14 = .ok (.aload_n 0, 1) := by decide +kernel
theorem d1_15 : decode prog_25_method_1_code 15 = .ok (.invokestatic 7, 3) := by decide +kernel
theorem d1_18 : decode prog_25_method_1_code 18 = .ok (.arraylength, 1) := by decide +kernel
theorem d1_19 : decode prog_25_method_1_code 19 = .ok (.newarray .long, 2) := by decide +kernel
theorem d1_21 : decode prog_25_method_1_code 21 = .ok (.putfield 19, 3) := by decide +kernel
theorem d1_24 : decode prog_25_method_1_code 24 = .ok (.aload_n 0, 1) := by decide +kernel
theorem d1_25 : decode prog_25_method_1_code 25 = .ok (.invokestatic 22, 3) := by decide +kernel
theorem d1_28 : decode prog_25_method_1_code 28 = .ok (.arraylength, 1) := by decide +kernel
theorem d1_29 : decode prog_25_method_1_code 29 = .ok (.newarray .long, 2) := by decide +kernel
theorem d1_31 : decode prog_25_method_1_code 31 = .ok (.putfield 27, 3) := by decide +kernel
theorem d1_34 : decode prog_25_method_1_code 34 = .ok (.return_, 1) := by decide +kernel
theorem pn_3 : plainName "com/example/electd/electd/service/DatagramCounts" = true := by first | (simp [plainName, overriddenIn]; done) | decide +kernel
theorem pd_4 : parseMethodDescriptor "()[Lcom/example/electd/electd/model/MessageKind;" = some ⟨[], some (.array (.object "com/example/electd/electd/model/MessageKind"))⟩ := by decide +kernel
theorem pd_5 : parseMethodDescriptor "()[Lcom/example/electd/electd/io/Rejection;" = some ⟨[], some (.array (.object "com/example/electd/electd/io/Rejection"))⟩ := by decide +kernel
def rmCQ (Z : State) (a1 : Addr) (vaM : Addr) (xM0 : Addr) (xM1 : Addr) (xM2 : Addr) (xM3 : Addr) (vcM : Cell) (vaJ : Addr) (xJ0 : Addr) (xJ1 : Addr) (xJ2 : Addr) (xJ3 : Addr) (vcJ : Cell) (h0 : Heap) (n0 : Nat) (v : Option Value) (h : Heap) (L : List Loc) : Prop := v = none ∧ Fr n0 L ∧ ∃ (t0 t1 t2 : Addr) (k0 k1 k2 : ClassId), Keep h0 h [a1] ∧ (h0.size ≤ t0 ∧ h0.size ≤ t1 ∧ h0.size ≤ t2) ∧ (t0 ≠ t1 ∧ t0 ≠ t2 ∧ t1 ≠ t2) ∧ Fld Z h a1 "com/example/electd/electd/service/DatagramCounts" "sent" "[J" (.ref t0) ∧ Fld Z h a1 "com/example/electd/electd/service/DatagramCounts" "received" "[J" (.ref t1) ∧ Fld Z h a1 "com/example/electd/electd/service/DatagramCounts" "rejected" "[J" (.ref t2) ∧ Arv Z h t0 k0 .long (4 : Int32) [(.long (0 : Int64)), (.long (0 : Int64)), (.long (0 : Int64)), (.long (0 : Int64))] (.long (0 : Int64)) ∧ Arv Z h t1 k1 .long (4 : Int32) [(.long (0 : Int64)), (.long (0 : Int64)), (.long (0 : Int64)), (.long (0 : Int64))] (.long (0 : Int64)) ∧ Arv Z h t2 k2 .long (4 : Int32) [(.long (0 : Int64)), (.long (0 : Int64)), (.long (0 : Int64)), (.long (0 : Int64))] (.long (0 : Int64))
set_option maxRecDepth 65536 in
set_option maxHeartbeats 40000000 in
theorem rmC (l : Launch) (Z : State) (a0 : Array Value) (hw : ∀ d ∈ tables_1, d.before a0 Z = true) (a1 : Addr) (vaM : Addr) (xM0 : Addr) (xM1 : Addr) (xM2 : Addr) (xM3 : Addr) (vcM : Cell) (vaJ : Addr) (xJ0 : Addr) (xJ1 : Addr) (xJ2 : Addr) (xJ3 : Addr) (vcJ : Cell) (h0 : Heap) (n0 : Nat) (Z0 : n0 ≤ h0.size) (g_a1 : n0 ≤ a1) (E_a1 : Exa Z h0 a1 "com/example/electd/electd/service/DatagramCounts") (F0 : Fld Z h0 a1 "com/example/electd/electd/service/DatagramCounts" "sent" "[J" .null) (F1 : Fld Z h0 a1 "com/example/electd/electd/service/DatagramCounts" "received" "[J" .null) (F2 : Fld Z h0 a1 "com/example/electd/electd/service/DatagramCounts" "rejected" "[J" .null) (O : Old Z n0 h0) (EM : own_M Z vaM xM0 xM1 xM2 xM3 vcM) (EJ : own_J Z vaJ xJ0 xJ1 xJ2 xJ3 vcJ) :
    Ct l Z [] (⟨"com/example/electd/electd/service/DatagramCounts", "<init>", "()V"⟩ : MethodName) prog_25_method_1_code 1 none ({ frames := 2, cells := 6, slots := 24, locals := 26 } : Room) #[(.ref a1)] h0 (rmCQ Z a1 vaM xM0 xM1 xM2 xM3 vcM vaJ xJ0 xJ1 xJ2 xJ3 vcJ h0 n0) := by
  refine own_enter (plainFor_of_name pn_3) ?_
  intro p e s m below meth c T0 X0 hx hby hml hZ hown hnm hret hlk e0
  have hown : s.vm.findClass "com/example/electd/electd/service/DatagramCounts" = some m.cls := hown
  have N0 := Fr.nil n0
  have K0 := Keep.refl h0 [a1]
  refine own_st (fun wt wk => castTop (g' := mkF m 0 #[.val (.ref a1)] []) (by first | (simp [entryFrame, mkF, argsToLocals, Value.category]; done) | rfl) wk) ?_
  show Fin1 p e below s (rmCQ Z a1 vaM xM0 xM1 xM2 xM3 vcM vaJ xJ0 xJ1 xJ2 xJ3 vcJ h0 n0) ({ frames := 2, cells := 6, slots := 24, locals := 26 } : Room).cells ({ frames := 2, cells := 6, slots := 24, locals := 26 } : Room).slots (T0.setTop (mkF m 0 #[.val (.ref a1)] []))
  refine own_st (fun wt wk => XS.aloadN X0.here hx rfl (hb hby d1_0) rfl rfl wk) ?_
  show Fin1 p e below s (rmCQ Z a1 vaM xM0 xM1 xM2 xM3 vcM vaJ xJ0 xJ1 xJ2 xJ3 vcJ h0 n0) ({ frames := 2, cells := 6, slots := 24, locals := 26 } : Room).cells ({ frames := 2, cells := 6, slots := 24, locals := 26 } : Room).slots (T0.setTop (mkF m 1 #[.val (.ref a1)] [(.ref a1)]))
  obtain ⟨T1, X1, e1, st1⟩ := initO X0 hx hZ hown (hw _ (List.mem_of_getElem? (i := 6) rfl)) (hw _ (List.mem_of_getElem? (i := 7) rfl)) (hw _ (List.mem_of_getElem? (i := 8) rfl)) e0 (g := (mkF m 1 #[.val (.ref a1)] [(.ref a1)])) rfl (by rw [hml]; rfl) rfl (hb hby d1_1) (by decide) (W := 0) (by show 2 * 0 + _ ≤ _; exact Nat.le_of_eq rfl) (by decide)
  refine own_st st1 ?_
  show Fin1 p e below s (rmCQ Z a1 vaM xM0 xM1 xM2 xM3 vcM vaJ xJ0 xJ1 xJ2 xJ3 vcJ h0 n0) ({ frames := 2, cells := 6, slots := 24, locals := 26 } : Room).cells ({ frames := 2, cells := 6, slots := 24, locals := 26 } : Room).slots (T1.setTop (mkF m 4 #[.val (.ref a1)] []))
  refine own_st (fun wt wk => XS.aloadN X1.here hx rfl (hb hby d1_4) rfl rfl wk) ?_
  show Fin1 p e below s (rmCQ Z a1 vaM xM0 xM1 xM2 xM3 vcM vaJ xJ0 xJ1 xJ2 xJ3 vcJ h0 n0) ({ frames := 2, cells := 6, slots := 24, locals := 26 } : Room).cells ({ frames := 2, cells := 6, slots := 24, locals := 26 } : Room).slots (T1.setTop (mkF m 5 #[.val (.ref a1)] [(.ref a1)]))
  obtain ⟨v2, T2, h2, L2, X2, e2, hQ2, st2⟩ := own_static X1 hx hZ hown (hw _ (List.mem_of_getElem? (i := 9) rfl)) (hw _ (List.mem_of_getElem? (i := 10) rfl)) (hw _ (List.mem_of_getElem? (i := 11) rfl)) (hw _ (List.mem_of_getElem? (i := 12) rfl)) (by decide) (rmVM l Z a0 hw vaM xM0 xM1 xM2 xM3 vcM h0 n0 Z0 O EM) e1 (g := (mkF m 5 #[.val (.ref a1)] [(.ref a1)])) rfl (by rw [hml]; rfl) (argsL := []) (rest := [(.ref a1)]) (lenOf pd_4 rfl) rfl (W := 1) (by show 2 * 0 + _ ≤ _; exact Nat.le_of_eq rfl) (hb hby d1_5) (by decide) (by decide) (by decide) (by decide)
  obtain ⟨bv0, cv0, rfl, N2q, K2, sv0, Av0, zv0⟩ := hQ2
  have N2 := Fr.app N0 N2q
  have Z0 := Nat.le_trans Z0 K2.1
  have K0 := K0.trans K2 all0
  have E_a1 := E_a1.keep K2
  have O := O.keep K2 all0
  have F0 := F0.keep K2 nin0
  have F1 := F1.keep K2 nin0
  have F2 := F2.keep K2 nin0
  refine own_st st2 ?_
  show Fin1 p e below s (rmCQ Z a1 vaM xM0 xM1 xM2 xM3 vcM vaJ xJ0 xJ1 xJ2 xJ3 vcJ h0 n0) ({ frames := 2, cells := 6, slots := 24, locals := 26 } : Room).cells ({ frames := 2, cells := 6, slots := 24, locals := 26 } : Room).slots (T2.setTop (mkF m 8 #[.val (.ref a1)] [(.ref bv0), (.ref a1)]))
  refine own_st (own_lenA (n := (4 : Int32)) X2 hx hZ e2 Av0 (by rw [zv0]; rfl) (g := (mkF m 8 #[.val (.ref a1)] [(.ref bv0), (.ref a1)])) rfl rfl (hb hby d1_8)) ?_
  show Fin1 p e below s (rmCQ Z a1 vaM xM0 xM1 xM2 xM3 vcM vaJ xJ0 xJ1 xJ2 xJ3 vcJ h0 n0) ({ frames := 2, cells := 6, slots := 24, locals := 26 } : Room).cells ({ frames := 2, cells := 6, slots := 24, locals := 26 } : Room).slots (T2.setTop (mkF m 9 #[.val (.ref a1)] [(.int (4 : Int32)), (.ref a1)]))
  obtain ⟨T3, h3, kc3, X3, e3, E3, A3, st3⟩ := newP X2 hx hZ (hw _ (List.mem_of_getElem? (i := 29) rfl)) e2 (g := (mkF m 9 #[.val (.ref a1)] [(.int (4 : Int32)), (.ref a1)])) rfl (hb hby d1_9) rfl (by decide) (cap := 4) (by decide) (by decide) (by decide) (by decide)
  obtain ⟨t0, gz_t0⟩ : ∃ z, z = h2.size := ⟨_, rfl⟩
  rw [← gz_t0] at A3 st3
  have ne_a1_t0 : a1 ≠ t0 := Nat.ne_of_lt (Nat.lt_of_lt_of_le E_a1.lt (Nat.le_of_eq gz_t0.symm))
  have sz_t0 : h0.size ≤ t0 := Nat.le_trans K0.1 (Nat.le_of_eq gz_t0.symm)
  have g_t0 : n0 ≤ t0 := Nat.le_trans Z0 (Nat.le_of_eq gz_t0.symm)
  have Z0 := Nat.le_trans Z0 E3.1
  have K0 := K0.ext E3
  have E_a1 := E_a1.ext E3
  have O := O.ext E3
  have F0 := F0.ext E3
  have F1 := F1.ext E3
  have F2 := F2.ext E3
  refine own_st st3 ?_
  have V_t0 : Arv Z h3 t0 kc3 .long (4 : Int32) [(.long (0 : Int64)), (.long (0 : Int64)), (.long (0 : Int64)), (.long (0 : Int64))] (.long (0 : Int64)) := (Arv.new A3 (by decide)).pad (pad_rep [] (.long (0 : Int64)) 4)
  show Fin1 p e below s (rmCQ Z a1 vaM xM0 xM1 xM2 xM3 vcM vaJ xJ0 xJ1 xJ2 xJ3 vcJ h0 n0) ({ frames := 2, cells := 6, slots := 24, locals := 26 } : Room).cells ({ frames := 2, cells := 6, slots := 24, locals := 26 } : Room).slots (T3.setTop (mkF m 11 #[.val (.ref a1)] [(.ref t0), (.ref a1)]))
  obtain ⟨T4, h4, X4, e4, W4, st4⟩ := putF X3 hx hZ hown (host := "") (Or.inl (hw _ (List.mem_of_getElem? (i := 30) rfl))) Via.refl e3 F0 E_a1 (Or.inr ⟨(hw _ (List.mem_of_getElem? (i := 31) rfl)), rfl, hnm⟩) (hw _ (List.mem_of_getElem? (i := 1) rfl)) (ty := (.array .long)) (by decide) rfl rfl (g := (mkF m 11 #[.val (.ref a1)] [(.ref t0), (.ref a1)])) rfl rfl (hb hby d1_11)
  refine own_st st4 ?_
  have N4 := Fr.snoc X4 N2 g_a1
  have Z0 := Nat.le_trans Z0 (Nat.le_of_eq W4.size.symm)
  have K0 := K0.wr W4 (Or.inl (List.mem_of_getElem? (i := 0) rfl))
  have E_a1 := E_a1.wr W4
  have O := O.wr W4 g_a1
  have F0 := F0.same W4
  have F1 := F1.other W4 (Or.inr (slot_ne (Or.inr (hw _ (List.mem_of_getElem? (i := 33) rfl))) (Or.inr (hw _ (List.mem_of_getElem? (i := 31) rfl))) (by decide) (t := (.array .long)) (t' := (.array .long)) (by decide) (by decide)))
  have F2 := F2.other W4 (Or.inr (slot_ne (Or.inr (hw _ (List.mem_of_getElem? (i := 52) rfl))) (Or.inr (hw _ (List.mem_of_getElem? (i := 31) rfl))) (by decide) (t := (.array .long)) (t' := (.array .long)) (by decide) (by decide)))
  have V_t0 := V_t0.other W4 (Ne.symm ne_a1_t0)
  show Fin1 p e below s (rmCQ Z a1 vaM xM0 xM1 xM2 xM3 vcM vaJ xJ0 xJ1 xJ2 xJ3 vcJ h0 n0) ({ frames := 2, cells := 6, slots := 24, locals := 26 } : Room).cells ({ frames := 2, cells := 6, slots := 24, locals := 26 } : Room).slots (T4.setTop (mkF m 14 #[.val (.ref a1)] []))
  refine own_st (fun wt wk => XS.aloadN X4.here hx rfl (hb hby d1_14) rfl rfl wk) ?_
  show Fin1 p e below s (rmCQ Z a1 vaM xM0 xM1 xM2 xM3 vcM vaJ xJ0 xJ1 xJ2 xJ3 vcJ h0 n0) ({ frames := 2, cells := 6, slots := 24, locals := 26 } : Room).cells ({ frames := 2, cells := 6, slots := 24, locals := 26 } : Room).slots (T4.setTop (mkF m 15 #[.val (.ref a1)] [(.ref a1)]))
  obtain ⟨v5, T5, h5, L5, X5, e5, hQ5, st5⟩ := own_static X4 hx hZ hown (hw _ (List.mem_of_getElem? (i := 9) rfl)) (hw _ (List.mem_of_getElem? (i := 10) rfl)) (hw _ (List.mem_of_getElem? (i := 11) rfl)) (hw _ (List.mem_of_getElem? (i := 12) rfl)) (by decide) (rmVM l Z a0 hw vaM xM0 xM1 xM2 xM3 vcM h4 n0 Z0 O EM) e4 (g := (mkF m 15 #[.val (.ref a1)] [(.ref a1)])) rfl (by rw [hml]; rfl) (argsL := []) (rest := [(.ref a1)]) (lenOf pd_4 rfl) rfl (W := 1) (by show 2 * 0 + _ ≤ _; exact Nat.le_of_eq rfl) (hb hby d1_15) (by decide) (by decide) (by decide) (by decide)
  obtain ⟨bv1, cv1, rfl, N5q, K5, sv1, Av1, zv1⟩ := hQ5
  have N5 := Fr.app N4 N5q
  have Z0 := Nat.le_trans Z0 K5.1
  have K0 := K0.trans K5 all0
  have E_a1 := E_a1.keep K5
  have O := O.keep K5 all0
  have F0 := F0.keep K5 nin0
  have F1 := F1.keep K5 nin0
  have F2 := F2.keep K5 nin0
  have V_t0 := V_t0.keep K5 nin0
  refine own_st st5 ?_
  show Fin1 p e below s (rmCQ Z a1 vaM xM0 xM1 xM2 xM3 vcM vaJ xJ0 xJ1 xJ2 xJ3 vcJ h0 n0) ({ frames := 2, cells := 6, slots := 24, locals := 26 } : Room).cells ({ frames := 2, cells := 6, slots := 24, locals := 26 } : Room).slots (T5.setTop (mkF m 18 #[.val (.ref a1)] [(.ref bv1), (.ref a1)]))
  refine own_st (own_lenA (n := (4 : Int32)) X5 hx hZ e5 Av1 (by rw [zv1]; rfl) (g := (mkF m 18 #[.val (.ref a1)] [(.ref bv1), (.ref a1)])) rfl rfl (hb hby d1_18)) ?_
  show Fin1 p e below s (rmCQ Z a1 vaM xM0 xM1 xM2 xM3 vcM vaJ xJ0 xJ1 xJ2 xJ3 vcJ h0 n0) ({ frames := 2, cells := 6, slots := 24, locals := 26 } : Room).cells ({ frames := 2, cells := 6, slots := 24, locals := 26 } : Room).slots (T5.setTop (mkF m 19 #[.val (.ref a1)] [(.int (4 : Int32)), (.ref a1)]))
  obtain ⟨T6, h6, kc6, X6, e6, E6, A6, st6⟩ := newP X5 hx hZ (hw _ (List.mem_of_getElem? (i := 29) rfl)) e5 (g := (mkF m 19 #[.val (.ref a1)] [(.int (4 : Int32)), (.ref a1)])) rfl (hb hby d1_19) rfl (by decide) (cap := 4) (by decide) (by decide) (by decide) (by decide)
  obtain ⟨t1, gz_t1⟩ : ∃ z, z = h5.size := ⟨_, rfl⟩
  rw [← gz_t1] at A6 st6
  have ne_a1_t1 : a1 ≠ t1 := Nat.ne_of_lt (Nat.lt_of_lt_of_le E_a1.lt (Nat.le_of_eq gz_t1.symm))
  have ne_t0_t1 : t0 ≠ t1 := Nat.ne_of_lt (Nat.lt_of_lt_of_le V_t0.lt (Nat.le_of_eq gz_t1.symm))
  have sz_t1 : h0.size ≤ t1 := Nat.le_trans K0.1 (Nat.le_of_eq gz_t1.symm)
  have g_t1 : n0 ≤ t1 := Nat.le_trans Z0 (Nat.le_of_eq gz_t1.symm)
  have Z0 := Nat.le_trans Z0 E6.1
  have K0 := K0.ext E6
  have E_a1 := E_a1.ext E6
  have O := O.ext E6
  have F0 := F0.ext E6
  have F1 := F1.ext E6
  have F2 := F2.ext E6
  have V_t0 := V_t0.ext E6
  refine own_st st6 ?_
  have V_t1 : Arv Z h6 t1 kc6 .long (4 : Int32) [(.long (0 : Int64)), (.long (0 : Int64)), (.long (0 : Int64)), (.long (0 : Int64))] (.long (0 : Int64)) := (Arv.new A6 (by decide)).pad (pad_rep [] (.long (0 : Int64)) 4)
  show Fin1 p e below s (rmCQ Z a1 vaM xM0 xM1 xM2 xM3 vcM vaJ xJ0 xJ1 xJ2 xJ3 vcJ h0 n0) ({ frames := 2, cells := 6, slots := 24, locals := 26 } : Room).cells ({ frames := 2, cells := 6, slots := 24, locals := 26 } : Room).slots (T6.setTop (mkF m 21 #[.val (.ref a1)] [(.ref t1), (.ref a1)]))
  obtain ⟨T7, h7, X7, e7, W7, st7⟩ := putF X6 hx hZ hown (host := "") (Or.inl (hw _ (List.mem_of_getElem? (i := 32) rfl))) Via.refl e6 F1 E_a1 (Or.inr ⟨(hw _ (List.mem_of_getElem? (i := 33) rfl)), rfl, hnm⟩) (hw _ (List.mem_of_getElem? (i := 1) rfl)) (ty := (.array .long)) (by decide) rfl rfl (g := (mkF m 21 #[.val (.ref a1)] [(.ref t1), (.ref a1)])) rfl rfl (hb hby d1_21)
  refine own_st st7 ?_
  have N7 := Fr.snoc X7 N5 g_a1
  have Z0 := Nat.le_trans Z0 (Nat.le_of_eq W7.size.symm)
  have K0 := K0.wr W7 (Or.inl (List.mem_of_getElem? (i := 0) rfl))
  have E_a1 := E_a1.wr W7
  have O := O.wr W7 g_a1
  have F0 := F0.other W7 (Or.inr (slot_ne (Or.inr (hw _ (List.mem_of_getElem? (i := 31) rfl))) (Or.inr (hw _ (List.mem_of_getElem? (i := 33) rfl))) (by decide) (t := (.array .long)) (t' := (.array .long)) (by decide) (by decide)))
  have F1 := F1.same W7
  have F2 := F2.other W7 (Or.inr (slot_ne (Or.inr (hw _ (List.mem_of_getElem? (i := 52) rfl))) (Or.inr (hw _ (List.mem_of_getElem? (i := 33) rfl))) (by decide) (t := (.array .long)) (t' := (.array .long)) (by decide) (by decide)))
  have V_t0 := V_t0.other W7 (Ne.symm ne_a1_t0)
  have V_t1 := V_t1.other W7 (Ne.symm ne_a1_t1)
  show Fin1 p e below s (rmCQ Z a1 vaM xM0 xM1 xM2 xM3 vcM vaJ xJ0 xJ1 xJ2 xJ3 vcJ h0 n0) ({ frames := 2, cells := 6, slots := 24, locals := 26 } : Room).cells ({ frames := 2, cells := 6, slots := 24, locals := 26 } : Room).slots (T7.setTop (mkF m 24 #[.val (.ref a1)] []))
  refine own_st (fun wt wk => XS.aloadN X7.here hx rfl (hb hby d1_24) rfl rfl wk) ?_
  show Fin1 p e below s (rmCQ Z a1 vaM xM0 xM1 xM2 xM3 vcM vaJ xJ0 xJ1 xJ2 xJ3 vcJ h0 n0) ({ frames := 2, cells := 6, slots := 24, locals := 26 } : Room).cells ({ frames := 2, cells := 6, slots := 24, locals := 26 } : Room).slots (T7.setTop (mkF m 25 #[.val (.ref a1)] [(.ref a1)]))
  obtain ⟨v8, T8, h8, L8, X8, e8, hQ8, st8⟩ := own_static X7 hx hZ hown (hw _ (List.mem_of_getElem? (i := 34) rfl)) (hw _ (List.mem_of_getElem? (i := 35) rfl)) (hw _ (List.mem_of_getElem? (i := 36) rfl)) (hw _ (List.mem_of_getElem? (i := 37) rfl)) (by decide) (rmVJ l Z a0 hw vaJ xJ0 xJ1 xJ2 xJ3 vcJ h7 n0 Z0 O EJ) e7 (g := (mkF m 25 #[.val (.ref a1)] [(.ref a1)])) rfl (by rw [hml]; rfl) (argsL := []) (rest := [(.ref a1)]) (lenOf pd_5 rfl) rfl (W := 1) (by show 2 * 0 + _ ≤ _; exact Nat.le_of_eq rfl) (hb hby d1_25) (by decide) (by decide) (by decide) (by decide)
  obtain ⟨bv2, cv2, rfl, N8q, K8, sv2, Av2, zv2⟩ := hQ8
  have N8 := Fr.app N7 N8q
  have Z0 := Nat.le_trans Z0 K8.1
  have K0 := K0.trans K8 all0
  have E_a1 := E_a1.keep K8
  have O := O.keep K8 all0
  have F0 := F0.keep K8 nin0
  have F1 := F1.keep K8 nin0
  have F2 := F2.keep K8 nin0
  have V_t0 := V_t0.keep K8 nin0
  have V_t1 := V_t1.keep K8 nin0
  refine own_st st8 ?_
  show Fin1 p e below s (rmCQ Z a1 vaM xM0 xM1 xM2 xM3 vcM vaJ xJ0 xJ1 xJ2 xJ3 vcJ h0 n0) ({ frames := 2, cells := 6, slots := 24, locals := 26 } : Room).cells ({ frames := 2, cells := 6, slots := 24, locals := 26 } : Room).slots (T8.setTop (mkF m 28 #[.val (.ref a1)] [(.ref bv2), (.ref a1)]))
  refine own_st (own_lenA (n := (4 : Int32)) X8 hx hZ e8 Av2 (by rw [zv2]; rfl) (g := (mkF m 28 #[.val (.ref a1)] [(.ref bv2), (.ref a1)])) rfl rfl (hb hby d1_28)) ?_
  show Fin1 p e below s (rmCQ Z a1 vaM xM0 xM1 xM2 xM3 vcM vaJ xJ0 xJ1 xJ2 xJ3 vcJ h0 n0) ({ frames := 2, cells := 6, slots := 24, locals := 26 } : Room).cells ({ frames := 2, cells := 6, slots := 24, locals := 26 } : Room).slots (T8.setTop (mkF m 29 #[.val (.ref a1)] [(.int (4 : Int32)), (.ref a1)]))
  obtain ⟨T9, h9, kc9, X9, e9, E9, A9, st9⟩ := newP X8 hx hZ (hw _ (List.mem_of_getElem? (i := 29) rfl)) e8 (g := (mkF m 29 #[.val (.ref a1)] [(.int (4 : Int32)), (.ref a1)])) rfl (hb hby d1_29) rfl (by decide) (cap := 4) (by decide) (by decide) (by decide) (by decide)
  obtain ⟨t2, gz_t2⟩ : ∃ z, z = h8.size := ⟨_, rfl⟩
  rw [← gz_t2] at A9 st9
  have ne_a1_t2 : a1 ≠ t2 := Nat.ne_of_lt (Nat.lt_of_lt_of_le E_a1.lt (Nat.le_of_eq gz_t2.symm))
  have ne_t0_t2 : t0 ≠ t2 := Nat.ne_of_lt (Nat.lt_of_lt_of_le V_t0.lt (Nat.le_of_eq gz_t2.symm))
  have ne_t1_t2 : t1 ≠ t2 := Nat.ne_of_lt (Nat.lt_of_lt_of_le V_t1.lt (Nat.le_of_eq gz_t2.symm))
  have sz_t2 : h0.size ≤ t2 := Nat.le_trans K0.1 (Nat.le_of_eq gz_t2.symm)
  have g_t2 : n0 ≤ t2 := Nat.le_trans Z0 (Nat.le_of_eq gz_t2.symm)
  have Z0 := Nat.le_trans Z0 E9.1
  have K0 := K0.ext E9
  have E_a1 := E_a1.ext E9
  have O := O.ext E9
  have F0 := F0.ext E9
  have F1 := F1.ext E9
  have F2 := F2.ext E9
  have V_t0 := V_t0.ext E9
  have V_t1 := V_t1.ext E9
  refine own_st st9 ?_
  have V_t2 : Arv Z h9 t2 kc9 .long (4 : Int32) [(.long (0 : Int64)), (.long (0 : Int64)), (.long (0 : Int64)), (.long (0 : Int64))] (.long (0 : Int64)) := (Arv.new A9 (by decide)).pad (pad_rep [] (.long (0 : Int64)) 4)
  show Fin1 p e below s (rmCQ Z a1 vaM xM0 xM1 xM2 xM3 vcM vaJ xJ0 xJ1 xJ2 xJ3 vcJ h0 n0) ({ frames := 2, cells := 6, slots := 24, locals := 26 } : Room).cells ({ frames := 2, cells := 6, slots := 24, locals := 26 } : Room).slots (T9.setTop (mkF m 31 #[.val (.ref a1)] [(.ref t2), (.ref a1)]))
  obtain ⟨T10, h10, X10, e10, W10, st10⟩ := putF X9 hx hZ hown (host := "") (Or.inl (hw _ (List.mem_of_getElem? (i := 51) rfl))) Via.refl e9 F2 E_a1 (Or.inr ⟨(hw _ (List.mem_of_getElem? (i := 52) rfl)), rfl, hnm⟩) (hw _ (List.mem_of_getElem? (i := 1) rfl)) (ty := (.array .long)) (by decide) rfl rfl (g := (mkF m 31 #[.val (.ref a1)] [(.ref t2), (.ref a1)])) rfl rfl (hb hby d1_31)
  refine own_st st10 ?_
  have N10 := Fr.snoc X10 N8 g_a1
  have Z0 := Nat.le_trans Z0 (Nat.le_of_eq W10.size.symm)
  have K0 := K0.wr W10 (Or.inl (List.mem_of_getElem? (i := 0) rfl))
  have E_a1 := E_a1.wr W10
  have O := O.wr W10 g_a1
  have F0 := F0.other W10 (Or.inr (slot_ne (Or.inr (hw _ (List.mem_of_getElem? (i := 31) rfl))) (Or.inr (hw _ (List.mem_of_getElem? (i := 52) rfl))) (by decide) (t := (.array .long)) (t' := (.array .long)) (by decide) (by decide)))
  have F1 := F1.other W10 (Or.inr (slot_ne (Or.inr (hw _ (List.mem_of_getElem? (i := 33) rfl))) (Or.inr (hw _ (List.mem_of_getElem? (i := 52) rfl))) (by decide) (t := (.array .long)) (t' := (.array .long)) (by decide) (by decide)))
  have F2 := F2.same W10
  have V_t0 := V_t0.other W10 (Ne.symm ne_a1_t0)
  have V_t1 := V_t1.other W10 (Ne.symm ne_a1_t1)
  have V_t2 := V_t2.other W10 (Ne.symm ne_a1_t2)
  show Fin1 p e below s (rmCQ Z a1 vaM xM0 xM1 xM2 xM3 vcM vaJ xJ0 xJ1 xJ2 xJ3 vcJ h0 n0) ({ frames := 2, cells := 6, slots := 24, locals := 26 } : Room).cells ({ frames := 2, cells := 6, slots := 24, locals := 26 } : Room).slots (T10.setTop (mkF m 34 #[.val (.ref a1)] []))
  exact own_retV X10 hx hlk hret (hb hby d1_34) (by rw [e10]; exact ⟨rfl, N10, t0, t1, t2, kc3, kc6, kc9, K0, ⟨sz_t0, sz_t1, sz_t2⟩, ⟨ne_t0_t1, ne_t0_t2, ne_t1_t2⟩, F0, F1, F2, V_t0, V_t1, V_t2⟩) (by decide) (by decide)
theorem d6_0 : decode prog_25_method_4_code 0 = .ok (.aload_n 0, 1) := by decide +kernel
theorem d6_1 : decode prog_25_method_4_code 1 = .ok (.getfield 27, 3) := by decide +kernel
theorem d6_4 : decode prog_25_method_4_code 4 = .ok (.aload_n 1, 1) := by decide +kernel
theorem d6_5 : decode prog_25_method_4_code 5 = .ok (.invokevirtual 40, 3) := by decide +kernel
theorem d6_8 : decode prog_25_method_4_code 8 = .ok (.dup2, 1) := by decide +kernel
theorem d6_9 : decode prog_25_method_4_code 9 = .ok (.laload, 1) := by decide +kernel
theorem d6_10 : decode prog_25_method_4_code 10 = .ok (.lconst 1, 1) := by decide +kernel
theorem d6_11 : decode prog_25_method_4_code 11 = .ok (.ladd, 1) := by decide +kernel
theorem d6_12 : decode prog_25_method_4_code 12 = .ok (.lastore, 1) := by decide +kernel
theorem d6_13 : decode prog_25_method_4_code 13 = .ok (.return_, 1) := by decide +kernel
theorem pd_6 : parseMethodDescriptor "()I" = some ⟨[], some .int⟩ := by decide +kernel
def rmRejQ (Z : State) (a1 : Addr) (r : Addr) (o : Int32) (t : Addr) (kt : ClassId) (c0 : Int64) (c1 : Int64) (c2 : Int64) (c3 : Int64) (h0 : Heap) (n0 : Nat) (v : Option Value) (h : Heap) (L : List Loc) : Prop := v = none ∧ Fr n0 L ∧ Keep h0 h [t] ∧ Arv Z h t kt .long (4 : Int32) [(.long (c0 + own_hit (0 : Int32) o)), (.long (c1 + own_hit (1 : Int32) o)), (.long (c2 + own_hit (2 : Int32) o)), (.long (c3 + own_hit (3 : Int32) o))] (.long (0 : Int64))
set_option maxRecDepth 65536 in
set_option maxHeartbeats 40000000 in
theorem rmRej (l : Launch) (Z : State) (a0 : Array Value) (hw : ∀ d ∈ tables_1, d.before a0 Z = true) (a1 : Addr) (r : Addr) (o : Int32) (t : Addr) (kt : ClassId) (c0 : Int64) (c1 : Int64) (c2 : Int64) (c3 : Int64) (h0 : Heap) (n0 : Nat) (Z0 : n0 ≤ h0.size) (g_t : n0 ≤ t) (ho : ¬ o < (0 : Int32) ∧ o < (4 : Int32)) (F2 : Fld Z h0 a1 "com/example/electd/electd/service/DatagramCounts" "rejected" "[J" (.ref t)) (E_r : Exa Z h0 r "com/example/electd/electd/io/Rejection") (Fo : Fld Z h0 r "java/lang/Enum" "ordinal" "I" (.int o)) (V_t : Arv Z h0 t kt .long (4 : Int32) [(.long c0), (.long c1), (.long c2), (.long c3)] (.long (0 : Int64))) :
    Ct l Z [] (⟨"com/example/electd/electd/service/DatagramCounts", "rejected", "(Lcom/example/electd/electd/io/Rejection;)V"⟩ : MethodName) prog_25_method_4_code 2 none ({ frames := 1, cells := 0, slots := 0, locals := 13 } : Room) #[(.ref a1), (.ref r)] h0 (rmRejQ Z a1 r o t kt c0 c1 c2 c3 h0 n0) := by
  refine own_enter (plainFor_of_name pn_3) ?_
  intro p e s m below meth c T0 X0 hx hby hml hZ hown hnm hret hlk e0
  have hown : s.vm.findClass "com/example/electd/electd/service/DatagramCounts" = some m.cls := hown
  have N0 := Fr.nil n0
  have K0 := Keep.refl h0 [t]
  refine own_st (fun wt wk => castTop (g' := mkF m 0 #[.val (.ref a1), .val (.ref r)] []) (by first | (simp [entryFrame, mkF, argsToLocals, Value.category]; done) | rfl) wk) ?_
  show Fin1 p e below s (rmRejQ Z a1 r o t kt c0 c1 c2 c3 h0 n0) ({ frames := 1, cells := 0, slots := 0, locals := 13 } : Room).cells ({ frames := 1, cells := 0, slots := 0, locals := 13 } : Room).slots (T0.setTop (mkF m 0 #[.val (.ref a1), .val (.ref r)] []))
  rcases own_four o ho with rfl | rfl | rfl | rfl
  · show Fin1 p e below s (rmRejQ Z a1 r (0 : Int32) t kt c0 c1 c2 c3 h0 n0) ({ frames := 1, cells := 0, slots := 0, locals := 13 } : Room).cells ({ frames := 1, cells := 0, slots := 0, locals := 13 } : Room).slots (T0.setTop (mkF m 0 #[.val (.ref a1), .val (.ref r)] []))
    refine own_st (fun wt wk => XS.aloadN X0.here hx rfl (hb hby d6_0) rfl rfl wk) ?_
    show Fin1 p e below s (rmRejQ Z a1 r (0 : Int32) t kt c0 c1 c2 c3 h0 n0) ({ frames := 1, cells := 0, slots := 0, locals := 13 } : Room).cells ({ frames := 1, cells := 0, slots := 0, locals := 13 } : Room).slots (T0.setTop (mkF m 1 #[.val (.ref a1), .val (.ref r)] [(.ref a1)]))
    obtain ⟨T1, X1, e1, st1⟩ := getF X0 hx hZ hown (host := "") (Or.inl (hw _ (List.mem_of_getElem? (i := 51) rfl))) Via.refl e0 F2 (g := (mkF m 1 #[.val (.ref a1), .val (.ref r)] [(.ref a1)])) rfl rfl (hb hby d6_1)
    refine own_st st1 ?_
    show Fin1 p e below s (rmRejQ Z a1 r (0 : Int32) t kt c0 c1 c2 c3 h0 n0) ({ frames := 1, cells := 0, slots := 0, locals := 13 } : Room).cells ({ frames := 1, cells := 0, slots := 0, locals := 13 } : Room).slots (T1.setTop (mkF m 4 #[.val (.ref a1), .val (.ref r)] [(.ref t)]))
    refine own_st (fun wt wk => XS.aloadN X1.here hx rfl (hb hby d6_4) rfl rfl wk) ?_
    show Fin1 p e below s (rmRejQ Z a1 r (0 : Int32) t kt c0 c1 c2 c3 h0 n0) ({ frames := 1, cells := 0, slots := 0, locals := 13 } : Room).cells ({ frames := 1, cells := 0, slots := 0, locals := 13 } : Room).slots (T1.setTop (mkF m 5 #[.val (.ref a1), .val (.ref r)] [(.ref r), (.ref t)]))
    obtain ⟨v2, T2, h2, L2, X2, e2, hQ2, st2⟩ := own_virtualUp X1 hx hZ hown (hw _ (List.mem_of_getElem? (i := 63) rfl)) (hw _ (List.mem_of_getElem? (i := 64) rfl)) (hw _ (List.mem_of_getElem? (i := 65) rfl)) (hw _ (List.mem_of_getElem? (i := 67) rfl)) (hw _ (List.mem_of_getElem? (i := 66) rfl)) (hw _ (List.mem_of_getElem? (i := 69) rfl)) (hw _ (List.mem_of_getElem? (i := 68) rfl)) (by decide) (a := r) E_r (rmOrd l Z a0 hw r (0 : Int32) h0 n0 Z0 Fo) e1 (g := (mkF m 5 #[.val (.ref a1), .val (.ref r)] [(.ref r), (.ref t)])) rfl (by rw [hml]; rfl) (argsL := []) (rest := [(.ref t)]) (lenOf pd_6 rfl) rfl (W := 1) (by show 2 * 0 + _ ≤ _; exact Nat.le_of_eq rfl) (hb hby d6_5) (by decide) (by decide) (by decide) (by decide)
    obtain ⟨rfl, N2q, hh2⟩ := hQ2
    have N2 := Fr.app N0 N2q
    rw [hh2] at e2
    refine own_st st2 ?_
    show Fin1 p e below s (rmRejQ Z a1 r (0 : Int32) t kt c0 c1 c2 c3 h0 n0) ({ frames := 1, cells := 0, slots := 0, locals := 13 } : Room).cells ({ frames := 1, cells := 0, slots := 0, locals := 13 } : Room).slots (T2.setTop (mkF m 8 #[.val (.ref a1), .val (.ref r)] [(.int (0 : Int32)), (.ref t)]))
    refine own_st (fun wt wk => Jvm.Free.XT.dup2 X2.here hx rfl (hb hby d6_8) rfl rfl rfl wk) ?_
    show Fin1 p e below s (rmRejQ Z a1 r (0 : Int32) t kt c0 c1 c2 c3 h0 n0) ({ frames := 1, cells := 0, slots := 0, locals := 13 } : Room).cells ({ frames := 1, cells := 0, slots := 0, locals := 13 } : Room).slots (T2.setTop (mkF m 9 #[.val (.ref a1), .val (.ref r)] [(.int (0 : Int32)), (.ref t), (.int (0 : Int32)), (.ref t)]))
    refine own_st (own_ld (j := (0 : Int32)) (v := (.long c0)) X2 hx hZ e2 V_t ⟨by decide, by decide⟩ rfl (g := (mkF m 9 #[.val (.ref a1), .val (.ref r)] [(.int (0 : Int32)), (.ref t), (.int (0 : Int32)), (.ref t)])) rfl rfl (Or.inr (Or.inl ⟨rfl, rfl⟩)) (hb hby d6_9)) ?_
    show Fin1 p e below s (rmRejQ Z a1 r (0 : Int32) t kt c0 c1 c2 c3 h0 n0) ({ frames := 1, cells := 0, slots := 0, locals := 13 } : Room).cells ({ frames := 1, cells := 0, slots := 0, locals := 13 } : Room).slots (T2.setTop (mkF m 10 #[.val (.ref a1), .val (.ref r)] [(.long c0), (.int (0 : Int32)), (.ref t)]))
    refine own_st (fun wt wk => XS.lconst X2.here hx rfl (hb hby d6_10) wk) ?_
    show Fin1 p e below s (rmRejQ Z a1 r (0 : Int32) t kt c0 c1 c2 c3 h0 n0) ({ frames := 1, cells := 0, slots := 0, locals := 13 } : Room).cells ({ frames := 1, cells := 0, slots := 0, locals := 13 } : Room).slots (T2.setTop (mkF m 11 #[.val (.ref a1), .val (.ref r)] [(.long (1 : Int64)), (.long c0), (.int (0 : Int32)), (.ref t)]))
    refine own_st (fun wt wk => XS.ladd X2.here hx rfl (hb hby d6_11) rfl wk) ?_
    show Fin1 p e below s (rmRejQ Z a1 r (0 : Int32) t kt c0 c1 c2 c3 h0 n0) ({ frames := 1, cells := 0, slots := 0, locals := 13 } : Room).cells ({ frames := 1, cells := 0, slots := 0, locals := 13 } : Room).slots (T2.setTop (mkF m 12 #[.val (.ref a1), .val (.ref r)] [(.long (c0 + (1 : Int64))), (.int (0 : Int32)), (.ref t)]))
    obtain ⟨T3, h3, X3, e3, W3, U3, st3⟩ := own_stJ (j := (0 : Int32)) X2 hx hZ e2 V_t ⟨by decide, by decide⟩ 0 rfl (by simp) (g := (mkF m 12 #[.val (.ref a1), .val (.ref r)] [(.long (c0 + (1 : Int64))), (.int (0 : Int32)), (.ref t)])) rfl rfl (hb hby d6_12)
    have N3 := Fr.snoc X3 N2 g_t
    have Z0 := Nat.le_trans Z0 (Nat.le_of_eq W3.size.symm)
    have K0 := K0.wr W3 (Or.inl (List.mem_of_getElem? (i := 0) rfl))
    have V_t : Arv Z h3 t kt .long (4 : Int32) [(.long (c0 + (1 : Int64))), (.long c1), (.long c2), (.long c3)] (.long (0 : Int64)) := U3
    refine own_st st3 ?_
    show Fin1 p e below s (rmRejQ Z a1 r (0 : Int32) t kt c0 c1 c2 c3 h0 n0) ({ frames := 1, cells := 0, slots := 0, locals := 13 } : Room).cells ({ frames := 1, cells := 0, slots := 0, locals := 13 } : Room).slots (T3.setTop (mkF m 13 #[.val (.ref a1), .val (.ref r)] []))
    exact own_retV X3 hx hlk hret (hb hby d6_13) (by rw [e3]; exact ⟨rfl, N3, K0, (by simpa [own_hit] using V_t)⟩) (by decide) (by decide)
  · show Fin1 p e below s (rmRejQ Z a1 r (1 : Int32) t kt c0 c1 c2 c3 h0 n0) ({ frames := 1, cells := 0, slots := 0, locals := 13 } : Room).cells ({ frames := 1, cells := 0, slots := 0, locals := 13 } : Room).slots (T0.setTop (mkF m 0 #[.val (.ref a1), .val (.ref r)] []))
    refine own_st (fun wt wk => XS.aloadN X0.here hx rfl (hb hby d6_0) rfl rfl wk) ?_
    show Fin1 p e below s (rmRejQ Z a1 r (1 : Int32) t kt c0 c1 c2 c3 h0 n0) ({ frames := 1, cells := 0, slots := 0, locals := 13 } : Room).cells ({ frames := 1, cells := 0, slots := 0, locals := 13 } : Room).slots (T0.setTop (mkF m 1 #[.val (.ref a1), .val (.ref r)] [(.ref a1)]))
    obtain ⟨T4, X4, e4, st4⟩ := getF X0 hx hZ hown (host := "") (Or.inl (hw _ (List.mem_of_getElem? (i := 51) rfl))) Via.refl e0 F2 (g := (mkF m 1 #[.val (.ref a1), .val (.ref r)] [(.ref a1)])) rfl rfl (hb hby d6_1)
    refine own_st st4 ?_
    show Fin1 p e below s (rmRejQ Z a1 r (1 : Int32) t kt c0 c1 c2 c3 h0 n0) ({ frames := 1, cells := 0, slots := 0, locals := 13 } : Room).cells ({ frames := 1, cells := 0, slots := 0, locals := 13 } : Room).slots (T4.setTop (mkF m 4 #[.val (.ref a1), .val (.ref r)] [(.ref t)]))
    refine own_st (fun wt wk => XS.aloadN X4.here hx rfl (hb hby d6_4) rfl rfl wk) ?_
    show Fin1 p e below s (rmRejQ Z a1 r (1 : Int32) t kt c0 c1 c2 c3 h0 n0) ({ frames := 1, cells := 0, slots := 0, locals := 13 } : Room).cells ({ frames := 1, cells := 0, slots := 0, locals := 13 } : Room).slots (T4.setTop (mkF m 5 #[.val (.ref a1), .val (.ref r)] [(.ref r), (.ref t)]))
    obtain ⟨v5, T5, h5, L5, X5, e5, hQ5, st5⟩ := own_virtualUp X4 hx hZ hown (hw _ (List.mem_of_getElem? (i := 63) rfl)) (hw _ (List.mem_of_getElem? (i := 64) rfl)) (hw _ (List.mem_of_getElem? (i := 65) rfl)) (hw _ (List.mem_of_getElem? (i := 67) rfl)) (hw _ (List.mem_of_getElem? (i := 66) rfl)) (hw _ (List.mem_of_getElem? (i := 69) rfl)) (hw _ (List.mem_of_getElem? (i := 68) rfl)) (by decide) (a := r) E_r (rmOrd l Z a0 hw r (1 : Int32) h0 n0 Z0 Fo) e4 (g := (mkF m 5 #[.val (.ref a1), .val (.ref r)] [(.ref r), (.ref t)])) rfl (by rw [hml]; rfl) (argsL := []) (rest := [(.ref t)]) (lenOf pd_6 rfl) rfl (W := 1) (by show 2 * 0 + _ ≤ _; exact Nat.le_of_eq rfl) (hb hby d6_5) (by decide) (by decide) (by decide) (by decide)
    obtain ⟨rfl, N5q, hh5⟩ := hQ5
    have N5 := Fr.app N0 N5q
    rw [hh5] at e5
    refine own_st st5 ?_
    show Fin1 p e below s (rmRejQ Z a1 r (1 : Int32) t kt c0 c1 c2 c3 h0 n0) ({ frames := 1, cells := 0, slots := 0, locals := 13 } : Room).cells ({ frames := 1, cells := 0, slots := 0, locals := 13 } : Room).slots (T5.setTop (mkF m 8 #[.val (.ref a1), .val (.ref r)] [(.int (1 : Int32)), (.ref t)]))
    refine own_st (fun wt wk => Jvm.Free.XT.dup2 X5.here hx rfl (hb hby d6_8) rfl rfl rfl wk) ?_
    show Fin1 p e below s (rmRejQ Z a1 r (1 : Int32) t kt c0 c1 c2 c3 h0 n0) ({ frames := 1, cells := 0, slots := 0, locals := 13 } : Room).cells ({ frames := 1, cells := 0, slots := 0, locals := 13 } : Room).slots (T5.setTop (mkF m 9 #[.val (.ref a1), .val (.ref r)] [(.int (1 : Int32)), (.ref t), (.int (1 : Int32)), (.ref t)]))
    refine own_st (own_ld (j := (1 : Int32)) (v := (.long c1)) X5 hx hZ e5 V_t ⟨by decide, by decide⟩ rfl (g := (mkF m 9 #[.val (.ref a1), .val (.ref r)] [(.int (1 : Int32)), (.ref t), (.int (1 : Int32)), (.ref t)])) rfl rfl (Or.inr (Or.inl ⟨rfl, rfl⟩)) (hb hby d6_9)) ?_
    show Fin1 p e below s (rmRejQ Z a1 r (1 : Int32) t kt c0 c1 c2 c3 h0 n0) ({ frames := 1, cells := 0, slots := 0, locals := 13 } : Room).cells ({ frames := 1, cells := 0, slots := 0, locals := 13 } : Room).slots (T5.setTop (mkF m 10 #[.val (.ref a1), .val (.ref r)] [(.long c1), (.int (1 : Int32)), (.ref t)]))
    refine own_st (fun wt wk => XS.lconst X5.here hx rfl (hb hby d6_10) wk) ?_
    show Fin1 p e below s (rmRejQ Z a1 r (1 : Int32) t kt c0 c1 c2 c3 h0 n0) ({ frames := 1, cells := 0, slots := 0, locals := 13 } : Room).cells ({ frames := 1, cells := 0, slots := 0, locals := 13 } : Room).slots (T5.setTop (mkF m 11 #[.val (.ref a1), .val (.ref r)] [(.long (1 : Int64)), (.long c1), (.int (1 : Int32)), (.ref t)]))
    refine own_st (fun wt wk => XS.ladd X5.here hx rfl (hb hby d6_11) rfl wk) ?_
    show Fin1 p e below s (rmRejQ Z a1 r (1 : Int32) t kt c0 c1 c2 c3 h0 n0) ({ frames := 1, cells := 0, slots := 0, locals := 13 } : Room).cells ({ frames := 1, cells := 0, slots := 0, locals := 13 } : Room).slots (T5.setTop (mkF m 12 #[.val (.ref a1), .val (.ref r)] [(.long (c1 + (1 : Int64))), (.int (1 : Int32)), (.ref t)]))
    obtain ⟨T6, h6, X6, e6, W6, U6, st6⟩ := own_stJ (j := (1 : Int32)) X5 hx hZ e5 V_t ⟨by decide, by decide⟩ 1 rfl (by simp) (g := (mkF m 12 #[.val (.ref a1), .val (.ref r)] [(.long (c1 + (1 : Int64))), (.int (1 : Int32)), (.ref t)])) rfl rfl (hb hby d6_12)
    have N6 := Fr.snoc X6 N5 g_t
    have Z0 := Nat.le_trans Z0 (Nat.le_of_eq W6.size.symm)
    have K0 := K0.wr W6 (Or.inl (List.mem_of_getElem? (i := 0) rfl))
    have V_t : Arv Z h6 t kt .long (4 : Int32) [(.long c0), (.long (c1 + (1 : Int64))), (.long c2), (.long c3)] (.long (0 : Int64)) := U6
    refine own_st st6 ?_
    show Fin1 p e below s (rmRejQ Z a1 r (1 : Int32) t kt c0 c1 c2 c3 h0 n0) ({ frames := 1, cells := 0, slots := 0, locals := 13 } : Room).cells ({ frames := 1, cells := 0, slots := 0, locals := 13 } : Room).slots (T6.setTop (mkF m 13 #[.val (.ref a1), .val (.ref r)] []))
    exact own_retV X6 hx hlk hret (hb hby d6_13) (by rw [e6]; exact ⟨rfl, N6, K0, (by simpa [own_hit] using V_t)⟩) (by decide) (by decide)
  · show Fin1 p e below s (rmRejQ Z a1 r (2 : Int32) t kt c0 c1 c2 c3 h0 n0) ({ frames := 1, cells := 0, slots := 0, locals := 13 } : Room).cells ({ frames := 1, cells := 0, slots := 0, locals := 13 } : Room).slots (T0.setTop (mkF m 0 #[.val (.ref a1), .val (.ref r)] []))
    refine own_st (fun wt wk => XS.aloadN X0.here hx rfl (hb hby d6_0) rfl rfl wk) ?_
    show Fin1 p e below s (rmRejQ Z a1 r (2 : Int32) t kt c0 c1 c2 c3 h0 n0) ({ frames := 1, cells := 0, slots := 0, locals := 13 } : Room).cells ({ frames := 1, cells := 0, slots := 0, locals := 13 } : Room).slots (T0.setTop (mkF m 1 #[.val (.ref a1), .val (.ref r)] [(.ref a1)]))
    obtain ⟨T7, X7, e7, st7⟩ := getF X0 hx hZ hown (host := "") (Or.inl (hw _ (List.mem_of_getElem? (i := 51) rfl))) Via.refl e0 F2 (g := (mkF m 1 #[.val (.ref a1), .val (.ref r)] [(.ref a1)])) rfl rfl (hb hby d6_1)
    refine own_st st7 ?_
    show Fin1 p e below s (rmRejQ Z a1 r (2 : Int32) t kt c0 c1 c2 c3 h0 n0) ({ frames := 1, cells := 0, slots := 0, locals := 13 } : Room).cells ({ frames := 1, cells := 0, slots := 0, locals := 13 } : Room).slots (T7.setTop (mkF m 4 #[.val (.ref a1), .val (.ref r)] [(.ref t)]))
    refine own_st (fun wt wk => XS.aloadN X7.here hx rfl (hb hby d6_4) rfl rfl wk) ?_
    show Fin1 p e below s (rmRejQ Z a1 r (2 : Int32) t kt c0 c1 c2 c3 h0 n0) ({ frames := 1, cells := 0, slots := 0, locals := 13 } : Room).cells ({ frames := 1, cells := 0, slots := 0, locals := 13 } : Room).slots (T7.setTop (mkF m 5 #[.val (.ref a1), .val (.ref r)] [(.ref r), (.ref t)]))
    obtain ⟨v8, T8, h8, L8, X8, e8, hQ8, st8⟩ := own_virtualUp X7 hx hZ hown (hw _ (List.mem_of_getElem? (i := 63) rfl)) (hw _ (List.mem_of_getElem? (i := 64) rfl)) (hw _ (List.mem_of_getElem? (i := 65) rfl)) (hw _ (List.mem_of_getElem? (i := 67) rfl)) (hw _ (List.mem_of_getElem? (i := 66) rfl)) (hw _ (List.mem_of_getElem? (i := 69) rfl)) (hw _ (List.mem_of_getElem? (i := 68) rfl)) (by decide) (a := r) E_r (rmOrd l Z a0 hw r (2 : Int32) h0 n0 Z0 Fo) e7 (g := (mkF m 5 #[.val (.ref a1), .val (.ref r)] [(.ref r), (.ref t)])) rfl (by rw [hml]; rfl) (argsL := []) (rest := [(.ref t)]) (lenOf pd_6 rfl) rfl (W := 1) (by show 2 * 0 + _ ≤ _; exact Nat.le_of_eq rfl) (hb hby d6_5) (by decide) (by decide) (by decide) (by decide)
    obtain ⟨rfl, N8q, hh8⟩ := hQ8
    have N8 := Fr.app N0 N8q
    rw [hh8] at e8
    refine own_st st8 ?_
    show Fin1 p e below s (rmRejQ Z a1 r (2 : Int32) t kt c0 c1 c2 c3 h0 n0) ({ frames := 1, cells := 0, slots := 0, locals := 13 } : Room).cells ({ frames := 1, cells := 0, slots := 0, locals := 13 } : Room).slots (T8.setTop (mkF m 8 #[.val (.ref a1), .val (.ref r)] [(.int (2 : Int32)), (.ref t)]))
    refine own_st (fun wt wk => Jvm.Free.XT.dup2 X8.here hx rfl (hb hby d6_8) rfl rfl rfl wk) ?_
    show Fin1 p e below s (rmRejQ Z a1 r (2 : Int32) t kt c0 c1 c2 c3 h0 n0) ({ frames := 1, cells := 0, slots := 0, locals := 13 } : Room).cells ({ frames := 1, cells := 0, slots := 0, locals := 13 } : Room).slots (T8.setTop (mkF m 9 #[.val (.ref a1), .val (.ref r)] [(.int (2 : Int32)), (.ref t), (.int (2 : Int32)), (.ref t)]))
    refine own_st (own_ld (j := (2 : Int32)) (v := (.long c2)) X8 hx hZ e8 V_t ⟨by decide, by decide⟩ rfl (g := (mkF m 9 #[.val (.ref a1), .val (.ref r)] [(.int (2 : Int32)), (.ref t), (.int (2 : Int32)), (.ref t)])) rfl rfl (Or.inr (Or.inl ⟨rfl, rfl⟩)) (hb hby d6_9)) ?_
    show Fin1 p e below s (rmRejQ Z a1 r (2 : Int32) t kt c0 c1 c2 c3 h0 n0) ({ frames := 1, cells := 0, slots := 0, locals := 13 } : Room).cells ({ frames := 1, cells := 0, slots := 0, locals := 13 } : Room).slots (T8.setTop (mkF m 10 #[.val (.ref a1), .val (.ref r)] [(.long c2), (.int (2 : Int32)), (.ref t)]))
    refine own_st (fun wt wk => XS.lconst X8.here hx rfl (hb hby d6_10) wk) ?_
    show Fin1 p e below s (rmRejQ Z a1 r (2 : Int32) t kt c0 c1 c2 c3 h0 n0) ({ frames := 1, cells := 0, slots := 0, locals := 13 } : Room).cells ({ frames := 1, cells := 0, slots := 0, locals := 13 } : Room).slots (T8.setTop (mkF m 11 #[.val (.ref a1), .val (.ref r)] [(.long (1 : Int64)), (.long c2), (.int (2 : Int32)), (.ref t)]))
    refine own_st (fun wt wk => XS.ladd X8.here hx rfl (hb hby d6_11) rfl wk) ?_
    show Fin1 p e below s (rmRejQ Z a1 r (2 : Int32) t kt c0 c1 c2 c3 h0 n0) ({ frames := 1, cells := 0, slots := 0, locals := 13 } : Room).cells ({ frames := 1, cells := 0, slots := 0, locals := 13 } : Room).slots (T8.setTop (mkF m 12 #[.val (.ref a1), .val (.ref r)] [(.long (c2 + (1 : Int64))), (.int (2 : Int32)), (.ref t)]))
    obtain ⟨T9, h9, X9, e9, W9, U9, st9⟩ := own_stJ (j := (2 : Int32)) X8 hx hZ e8 V_t ⟨by decide, by decide⟩ 2 rfl (by simp) (g := (mkF m 12 #[.val (.ref a1), .val (.ref r)] [(.long (c2 + (1 : Int64))), (.int (2 : Int32)), (.ref t)])) rfl rfl (hb hby d6_12)
    have N9 := Fr.snoc X9 N8 g_t
    have Z0 := Nat.le_trans Z0 (Nat.le_of_eq W9.size.symm)
    have K0 := K0.wr W9 (Or.inl (List.mem_of_getElem? (i := 0) rfl))
    have V_t : Arv Z h9 t kt .long (4 : Int32) [(.long c0), (.long c1), (.long (c2 + (1 : Int64))), (.long c3)] (.long (0 : Int64)) := U9
    refine own_st st9 ?_
    show Fin1 p e below s (rmRejQ Z a1 r (2 : Int32) t kt c0 c1 c2 c3 h0 n0) ({ frames := 1, cells := 0, slots := 0, locals := 13 } : Room).cells ({ frames := 1, cells := 0, slots := 0, locals := 13 } : Room).slots (T9.setTop (mkF m 13 #[.val (.ref a1), .val (.ref r)] []))
    exact own_retV X9 hx hlk hret (hb hby d6_13) (by rw [e9]; exact ⟨rfl, N9, K0, (by simpa [own_hit] using V_t)⟩) (by decide) (by decide)
  · show Fin1 p e below s (rmRejQ Z a1 r (3 : Int32) t kt c0 c1 c2 c3 h0 n0) ({ frames := 1, cells := 0, slots := 0, locals := 13 } : Room).cells ({ frames := 1, cells := 0, slots := 0, locals := 13 } : Room).slots (T0.setTop (mkF m 0 #[.val (.ref a1), .val (.ref r)] []))
    refine own_st (fun wt wk => XS.aloadN X0.here hx rfl (hb hby d6_0) rfl rfl wk) ?_
    show Fin1 p e below s (rmRejQ Z a1 r (3 : Int32) t kt c0 c1 c2 c3 h0 n0) ({ frames := 1, cells := 0, slots := 0, locals := 13 } : Room).cells ({ frames := 1, cells := 0, slots := 0, locals := 13 } : Room).slots (T0.setTop (mkF m 1 #[.val (.ref a1), .val (.ref r)] [(.ref a1)]))
    obtain ⟨T10, X10, e10, st10⟩ := getF X0 hx hZ hown (host := "") (Or.inl (hw _ (List.mem_of_getElem? (i := 51) rfl))) Via.refl e0 F2 (g := (mkF m 1 #[.val (.ref a1), .val (.ref r)] [(.ref a1)])) rfl rfl (hb hby d6_1)
    refine own_st st10 ?_
    show Fin1 p e below s (rmRejQ Z a1 r (3 : Int32) t kt c0 c1 c2 c3 h0 n0) ({ frames := 1, cells := 0, slots := 0, locals := 13 } : Room).cells ({ frames := 1, cells := 0, slots := 0, locals := 13 } : Room).slots (T10.setTop (mkF m 4 #[.val (.ref a1), .val (.ref r)] [(.ref t)]))
    refine own_st (fun wt wk => XS.aloadN X10.here hx rfl (hb hby d6_4) rfl rfl wk) ?_
    show Fin1 p e below s (rmRejQ Z a1 r (3 : Int32) t kt c0 c1 c2 c3 h0 n0) ({ frames := 1, cells := 0, slots := 0, locals := 13 } : Room).cells ({ frames := 1, cells := 0, slots := 0, locals := 13 } : Room).slots (T10.setTop (mkF m 5 #[.val (.ref a1), .val (.ref r)] [(.ref r), (.ref t)]))
    obtain ⟨v11, T11, h11, L11, X11, e11, hQ11, st11⟩ := own_virtualUp X10 hx hZ hown (hw _ (List.mem_of_getElem? (i := 63) rfl)) (hw _ (List.mem_of_getElem? (i := 64) rfl)) (hw _ (List.mem_of_getElem? (i := 65) rfl)) (hw _ (List.mem_of_getElem? (i := 67) rfl)) (hw _ (List.mem_of_getElem? (i := 66) rfl)) (hw _ (List.mem_of_getElem? (i := 69) rfl)) (hw _ (List.mem_of_getElem? (i := 68) rfl)) (by decide) (a := r) E_r (rmOrd l Z a0 hw r (3 : Int32) h0 n0 Z0 Fo) e10 (g := (mkF m 5 #[.val (.ref a1), .val (.ref r)] [(.ref r), (.ref t)])) rfl (by rw [hml]; rfl) (argsL := []) (rest := [(.ref t)]) (lenOf pd_6 rfl) rfl (W := 1) (by show 2 * 0 + _ ≤ _; exact Nat.le_of_eq rfl) (hb hby d6_5) (by decide) (by decide) (by decide) (by decide)
    obtain ⟨rfl, N11q, hh11⟩ := hQ11
    have N11 := Fr.app N0 N11q
    rw [hh11] at e11
    refine own_st st11 ?_
    show Fin1 p e below s (rmRejQ Z a1 r (3 : Int32) t kt c0 c1 c2 c3 h0 n0) ({ frames := 1, cells := 0, slots := 0, locals := 13 } : Room).cells ({ frames := 1, cells := 0, slots := 0, locals := 13 } : Room).slots (T11.setTop (mkF m 8 #[.val (.ref a1), .val (.ref r)] [(.int (3 : Int32)), (.ref t)]))
    refine own_st (fun wt wk => Jvm.Free.XT.dup2 X11.here hx rfl (hb hby d6_8) rfl rfl rfl wk) ?_
    show Fin1 p e below s (rmRejQ Z a1 r (3 : Int32) t kt c0 c1 c2 c3 h0 n0) ({ frames := 1, cells := 0, slots := 0, locals := 13 } : Room).cells ({ frames := 1, cells := 0, slots := 0, locals := 13 } : Room).slots (T11.setTop (mkF m 9 #[.val (.ref a1), .val (.ref r)] [(.int (3 : Int32)), (.ref t), (.int (3 : Int32)), (.ref t)]))
    refine own_st (own_ld (j := (3 : Int32)) (v := (.long c3)) X11 hx hZ e11 V_t ⟨by decide, by decide⟩ rfl (g := (mkF m 9 #[.val (.ref a1), .val (.ref r)] [(.int (3 : Int32)), (.ref t), (.int (3 : Int32)), (.ref t)])) rfl rfl (Or.inr (Or.inl ⟨rfl, rfl⟩)) (hb hby d6_9)) ?_
    show Fin1 p e below s (rmRejQ Z a1 r (3 : Int32) t kt c0 c1 c2 c3 h0 n0) ({ frames := 1, cells := 0, slots := 0, locals := 13 } : Room).cells ({ frames := 1, cells := 0, slots := 0, locals := 13 } : Room).slots (T11.setTop (mkF m 10 #[.val (.ref a1), .val (.ref r)] [(.long c3), (.int (3 : Int32)), (.ref t)]))
    refine own_st (fun wt wk => XS.lconst X11.here hx rfl (hb hby d6_10) wk) ?_
    show Fin1 p e below s (rmRejQ Z a1 r (3 : Int32) t kt c0 c1 c2 c3 h0 n0) ({ frames := 1, cells := 0, slots := 0, locals := 13 } : Room).cells ({ frames := 1, cells := 0, slots := 0, locals := 13 } : Room).slots (T11.setTop (mkF m 11 #[.val (.ref a1), .val (.ref r)] [(.long (1 : Int64)), (.long c3), (.int (3 : Int32)), (.ref t)]))
    refine own_st (fun wt wk => XS.ladd X11.here hx rfl (hb hby d6_11) rfl wk) ?_
    show Fin1 p e below s (rmRejQ Z a1 r (3 : Int32) t kt c0 c1 c2 c3 h0 n0) ({ frames := 1, cells := 0, slots := 0, locals := 13 } : Room).cells ({ frames := 1, cells := 0, slots := 0, locals := 13 } : Room).slots (T11.setTop (mkF m 12 #[.val (.ref a1), .val (.ref r)] [(.long (c3 + (1 : Int64))), (.int (3 : Int32)), (.ref t)]))
    obtain ⟨T12, h12, X12, e12, W12, U12, st12⟩ := own_stJ (j := (3 : Int32)) X11 hx hZ e11 V_t ⟨by decide, by decide⟩ 3 rfl (by simp) (g := (mkF m 12 #[.val (.ref a1), .val (.ref r)] [(.long (c3 + (1 : Int64))), (.int (3 : Int32)), (.ref t)])) rfl rfl (hb hby d6_12)
    have N12 := Fr.snoc X12 N11 g_t
    have Z0 := Nat.le_trans Z0 (Nat.le_of_eq W12.size.symm)
    have K0 := K0.wr W12 (Or.inl (List.mem_of_getElem? (i := 0) rfl))
    have V_t : Arv Z h12 t kt .long (4 : Int32) [(.long c0), (.long c1), (.long c2), (.long (c3 + (1 : Int64)))] (.long (0 : Int64)) := U12
    refine own_st st12 ?_
    show Fin1 p e below s (rmRejQ Z a1 r (3 : Int32) t kt c0 c1 c2 c3 h0 n0) ({ frames := 1, cells := 0, slots := 0, locals := 13 } : Room).cells ({ frames := 1, cells := 0, slots := 0, locals := 13 } : Room).slots (T12.setTop (mkF m 13 #[.val (.ref a1), .val (.ref r)] []))
    exact own_retV X12 hx hlk hret (hb hby d6_13) (by rw [e12]; exact ⟨rfl, N12, K0, (by simpa [own_hit] using V_t)⟩) (by decide) (by decide)
theorem d8_0 : decode prog_25_method_8_code 0 = .ok (.aload_n 0, 1) := by decide +kernel
theorem d8_1 : decode prog_25_method_8_code 1 = .ok (.getfield 27, 3) := by decide +kernel
theorem d8_4 : decode prog_25_method_8_code 4 = .ok (.aload_n 1, 1) := by decide +kernel
theorem d8_5 : decode prog_25_method_8_code 5 = .ok (.invokevirtual 40, 3) := by decide +kernel
theorem d8_8 : decode prog_25_method_8_code 8 = .ok (.laload, 1) := by decide +kernel
theorem d8_9 : decode prog_25_method_8_code 9 = .ok (.lreturn, 1) := by decide +kernel
def rm_getRejectedQ (Z : State) (a1 : Addr) (r : Addr) (o : Int32) (t : Addr) (kt : ClassId) (vs : List Value) (x : Int64) (h0 : Heap) (n0 : Nat) (v : Option Value) (h : Heap) (L : List Loc) : Prop := v = some (.long x) ∧ Fr n0 L ∧ h = h0
set_option maxRecDepth 65536 in
set_option maxHeartbeats 40000000 in
theorem rm_getRejected (l : Launch) (Z : State) (a0 : Array Value) (hw : ∀ d ∈ tables_1, d.before a0 Z = true) (a1 : Addr) (r : Addr) (o : Int32) (t : Addr) (kt : ClassId) (vs : List Value) (x : Int64) (h0 : Heap) (n0 : Nat) (Z0 : n0 ≤ h0.size) (ho : ¬ o < (0 : Int32) ∧ o < (4 : Int32)) (F2 : Fld Z h0 a1 "com/example/electd/electd/service/DatagramCounts" "rejected" "[J" (.ref t)) (E_r : Exa Z h0 r "com/example/electd/electd/io/Rejection") (Fo : Fld Z h0 r "java/lang/Enum" "ordinal" "I" (.int o)) (V_t : Arv Z h0 t kt .long (4 : Int32) vs (.long (0 : Int64))) (hv : vs.getD o.toNatClampNeg (.long (0 : Int64)) = .long x) :
    Ct l Z [] (⟨"com/example/electd/electd/service/DatagramCounts", "getRejected", "(Lcom/example/electd/electd/io/Rejection;)J"⟩ : MethodName) prog_25_method_8_code 2 (some .long) ({ frames := 1, cells := 0, slots := 0, locals := 13 } : Room) #[(.ref a1), (.ref r)] h0 (rm_getRejectedQ Z a1 r o t kt vs x h0 n0) := by
  refine own_enter (plainFor_of_name pn_3) ?_
  intro p e s m below meth c T0 X0 hx hby hml hZ hown hnm hret hlk e0
  have hown : s.vm.findClass "com/example/electd/electd/service/DatagramCounts" = some m.cls := hown
  have N0 := Fr.nil n0
  have K0 := Keep.refl h0 []
  refine own_st (fun wt wk => castTop (g' := mkF m 0 #[.val (.ref a1), .val (.ref r)] []) (by first | (simp [entryFrame, mkF, argsToLocals, Value.category]; done) | rfl) wk) ?_
  show Fin1 p e below s (rm_getRejectedQ Z a1 r o t kt vs x h0 n0) ({ frames := 1, cells := 0, slots := 0, locals := 13 } : Room).cells ({ frames := 1, cells := 0, slots := 0, locals := 13 } : Room).slots (T0.setTop (mkF m 0 #[.val (.ref a1), .val (.ref r)] []))
  refine own_st (fun wt wk => XS.aloadN X0.here hx rfl (hb hby d8_0) rfl rfl wk) ?_
  show Fin1 p e below s (rm_getRejectedQ Z a1 r o t kt vs x h0 n0) ({ frames := 1, cells := 0, slots := 0, locals := 13 } : Room).cells ({ frames := 1, cells := 0, slots := 0, locals := 13 } : Room).slots (T0.setTop (mkF m 1 #[.val (.ref a1), .val (.ref r)] [(.ref a1)]))
  obtain ⟨T1, X1, e1, st1⟩ := getF X0 hx hZ hown (host := "") (Or.inl (hw _ (List.mem_of_getElem? (i := 51) rfl))) Via.refl e0 F2 (g := (mkF m 1 #[.val (.ref a1), .val (.ref r)] [(.ref a1)])) rfl rfl (hb hby d8_1)
  refine own_st st1 ?_
  show Fin1 p e below s (rm_getRejectedQ Z a1 r o t kt vs x h0 n0) ({ frames := 1, cells := 0, slots := 0, locals := 13 } : Room).cells ({ frames := 1, cells := 0, slots := 0, locals := 13 } : Room).slots (T1.setTop (mkF m 4 #[.val (.ref a1), .val (.ref r)] [(.ref t)]))
  refine own_st (fun wt wk => XS.aloadN X1.here hx rfl (hb hby d8_4) rfl rfl wk) ?_
  show Fin1 p e below s (rm_getRejectedQ Z a1 r o t kt vs x h0 n0) ({ frames := 1, cells := 0, slots := 0, locals := 13 } : Room).cells ({ frames := 1, cells := 0, slots := 0, locals := 13 } : Room).slots (T1.setTop (mkF m 5 #[.val (.ref a1), .val (.ref r)] [(.ref r), (.ref t)]))
  obtain ⟨v2, T2, h2, L2, X2, e2, hQ2, st2⟩ := own_virtualUp X1 hx hZ hown (hw _ (List.mem_of_getElem? (i := 63) rfl)) (hw _ (List.mem_of_getElem? (i := 64) rfl)) (hw _ (List.mem_of_getElem? (i := 65) rfl)) (hw _ (List.mem_of_getElem? (i := 67) rfl)) (hw _ (List.mem_of_getElem? (i := 66) rfl)) (hw _ (List.mem_of_getElem? (i := 69) rfl)) (hw _ (List.mem_of_getElem? (i := 68) rfl)) (by decide) (a := r) E_r (rmOrd l Z a0 hw r o h0 n0 Z0 Fo) e1 (g := (mkF m 5 #[.val (.ref a1), .val (.ref r)] [(.ref r), (.ref t)])) rfl (by rw [hml]; rfl) (argsL := []) (rest := [(.ref t)]) (lenOf pd_6 rfl) rfl (W := 1) (by show 2 * 0 + _ ≤ _; exact Nat.le_of_eq rfl) (hb hby d8_5) (by decide) (by decide) (by decide) (by decide)
  obtain ⟨rfl, N2q, hh2⟩ := hQ2
  have N2 := Fr.app N0 N2q
  rw [hh2] at e2
  refine own_st st2 ?_
  show Fin1 p e below s (rm_getRejectedQ Z a1 r o t kt vs x h0 n0) ({ frames := 1, cells := 0, slots := 0, locals := 13 } : Room).cells ({ frames := 1, cells := 0, slots := 0, locals := 13 } : Room).slots (T2.setTop (mkF m 8 #[.val (.ref a1), .val (.ref r)] [(.int o), (.ref t)]))
  refine own_st (own_ld (j := o) (v := (.long x)) X2 hx hZ e2 V_t ho hv (g := (mkF m 8 #[.val (.ref a1), .val (.ref r)] [(.int o), (.ref t)])) rfl rfl (Or.inr (Or.inl ⟨rfl, rfl⟩)) (hb hby d8_8)) ?_
  show Fin1 p e below s (rm_getRejectedQ Z a1 r o t kt vs x h0 n0) ({ frames := 1, cells := 0, slots := 0, locals := 13 } : Room).cells ({ frames := 1, cells := 0, slots := 0, locals := 13 } : Room).slots (T2.setTop (mkF m 9 #[.val (.ref a1), .val (.ref r)] [(.long x)]))
  exact own_retJ X2 hx hlk hret (hb hby d8_9) (by rw [e2]; exact ⟨rfl, N2, rfl⟩) (by decide) (by decide)
theorem d11_0 : decode prog_25_method_6_code 0 = .ok (.aload_n 0, 1) := by decide +kernel
theorem d11_1 : decode prog_25_method_6_code 1 = .ok (.getfield 13, 3) := by decide +kernel
theorem d11_4 : decode prog_25_method_6_code 4 = .ok (.aload_n 1, 1) := by decide +kernel
theorem d11_5 : decode prog_25_method_6_code 5 = .ok (.invokevirtual 36, 3) := by decide +kernel
theorem d11_8 : decode prog_25_method_6_code 8 = .ok (.laload, 1) := by decide +kernel
theorem d11_9 : decode prog_25_method_6_code 9 = .ok (.lreturn, 1) := by decide +kernel
def rm_getSentQ (Z : State) (a1 : Addr) (r : Addr) (o : Int32) (t : Addr) (kt : ClassId) (vs : List Value) (x : Int64) (h0 : Heap) (n0 : Nat) (v : Option Value) (h : Heap) (L : List Loc) : Prop := v = some (.long x) ∧ Fr n0 L ∧ h = h0
set_option maxRecDepth 65536 in
set_option maxHeartbeats 40000000 in
theorem rm_getSent (l : Launch) (Z : State) (a0 : Array Value) (hw : ∀ d ∈ tables_1, d.before a0 Z = true) (a1 : Addr) (r : Addr) (o : Int32) (t : Addr) (kt : ClassId) (vs : List Value) (x : Int64) (h0 : Heap) (n0 : Nat) (Z0 : n0 ≤ h0.size) (ho : ¬ o < (0 : Int32) ∧ o < (4 : Int32)) (F2 : Fld Z h0 a1 "com/example/electd/electd/service/DatagramCounts" "sent" "[J" (.ref t)) (E_r : Exa Z h0 r "com/example/electd/electd/model/MessageKind") (Fo : Fld Z h0 r "java/lang/Enum" "ordinal" "I" (.int o)) (V_t : Arv Z h0 t kt .long (4 : Int32) vs (.long (0 : Int64))) (hv : vs.getD o.toNatClampNeg (.long (0 : Int64)) = .long x) :
    Ct l Z [] (⟨"com/example/electd/electd/service/DatagramCounts", "getSent", "(Lcom/example/electd/electd/model/MessageKind;)J"⟩ : MethodName) prog_25_method_6_code 2 (some .long) ({ frames := 1, cells := 0, slots := 0, locals := 13 } : Room) #[(.ref a1), (.ref r)] h0 (rm_getSentQ Z a1 r o t kt vs x h0 n0) := by
  refine own_enter (plainFor_of_name pn_3) ?_
  intro p e s m below meth c T0 X0 hx hby hml hZ hown hnm hret hlk e0
  have hown : s.vm.findClass "com/example/electd/electd/service/DatagramCounts" = some m.cls := hown
  have N0 := Fr.nil n0
  have K0 := Keep.refl h0 []
  refine own_st (fun wt wk => castTop (g' := mkF m 0 #[.val (.ref a1), .val (.ref r)] []) (by first | (simp [entryFrame, mkF, argsToLocals, Value.category]; done) | rfl) wk) ?_
  show Fin1 p e below s (rm_getSentQ Z a1 r o t kt vs x h0 n0) ({ frames := 1, cells := 0, slots := 0, locals := 13 } : Room).cells ({ frames := 1, cells := 0, slots := 0, locals := 13 } : Room).slots (T0.setTop (mkF m 0 #[.val (.ref a1), .val (.ref r)] []))
  refine own_st (fun wt wk => XS.aloadN X0.here hx rfl (hb hby d11_0) rfl rfl wk) ?_
  show Fin1 p e below s (rm_getSentQ Z a1 r o t kt vs x h0 n0) ({ frames := 1, cells := 0, slots := 0, locals := 13 } : Room).cells ({ frames := 1, cells := 0, slots := 0, locals := 13 } : Room).slots (T0.setTop (mkF m 1 #[.val (.ref a1), .val (.ref r)] [(.ref a1)]))
  obtain ⟨T1, X1, e1, st1⟩ := getF X0 hx hZ hown (host := "") (Or.inl (hw _ (List.mem_of_getElem? (i := 30) rfl))) Via.refl e0 F2 (g := (mkF m 1 #[.val (.ref a1), .val (.ref r)] [(.ref a1)])) rfl rfl (hb hby d11_1)
  refine own_st st1 ?_
  show Fin1 p e below s (rm_getSentQ Z a1 r o t kt vs x h0 n0) ({ frames := 1, cells := 0, slots := 0, locals := 13 } : Room).cells ({ frames := 1, cells := 0, slots := 0, locals := 13 } : Room).slots (T1.setTop (mkF m 4 #[.val (.ref a1), .val (.ref r)] [(.ref t)]))
  refine own_st (fun wt wk => XS.aloadN X1.here hx rfl (hb hby d11_4) rfl rfl wk) ?_
  show Fin1 p e below s (rm_getSentQ Z a1 r o t kt vs x h0 n0) ({ frames := 1, cells := 0, slots := 0, locals := 13 } : Room).cells ({ frames := 1, cells := 0, slots := 0, locals := 13 } : Room).slots (T1.setTop (mkF m 5 #[.val (.ref a1), .val (.ref r)] [(.ref r), (.ref t)]))
  obtain ⟨v2, T2, h2, L2, X2, e2, hQ2, st2⟩ := own_virtualUp X1 hx hZ hown (hw _ (List.mem_of_getElem? (i := 92) rfl)) (hw _ (List.mem_of_getElem? (i := 93) rfl)) (hw _ (List.mem_of_getElem? (i := 65) rfl)) (hw _ (List.mem_of_getElem? (i := 94) rfl)) (hw _ (List.mem_of_getElem? (i := 66) rfl)) (hw _ (List.mem_of_getElem? (i := 69) rfl)) (hw _ (List.mem_of_getElem? (i := 68) rfl)) (by decide) (a := r) E_r (rmOrd l Z a0 hw r o h0 n0 Z0 Fo) e1 (g := (mkF m 5 #[.val (.ref a1), .val (.ref r)] [(.ref r), (.ref t)])) rfl (by rw [hml]; rfl) (argsL := []) (rest := [(.ref t)]) (lenOf pd_6 rfl) rfl (W := 1) (by show 2 * 0 + _ ≤ _; exact Nat.le_of_eq rfl) (hb hby d11_5) (by decide) (by decide) (by decide) (by decide)
  obtain ⟨rfl, N2q, hh2⟩ := hQ2
  have N2 := Fr.app N0 N2q
  rw [hh2] at e2
  refine own_st st2 ?_
  show Fin1 p e below s (rm_getSentQ Z a1 r o t kt vs x h0 n0) ({ frames := 1, cells := 0, slots := 0, locals := 13 } : Room).cells ({ frames := 1, cells := 0, slots := 0, locals := 13 } : Room).slots (T2.setTop (mkF m 8 #[.val (.ref a1), .val (.ref r)] [(.int o), (.ref t)]))
  refine own_st (own_ld (j := o) (v := (.long x)) X2 hx hZ e2 V_t ho hv (g := (mkF m 8 #[.val (.ref a1), .val (.ref r)] [(.int o), (.ref t)])) rfl rfl (Or.inr (Or.inl ⟨rfl, rfl⟩)) (hb hby d11_8)) ?_
  show Fin1 p e below s (rm_getSentQ Z a1 r o t kt vs x h0 n0) ({ frames := 1, cells := 0, slots := 0, locals := 13 } : Room).cells ({ frames := 1, cells := 0, slots := 0, locals := 13 } : Room).slots (T2.setTop (mkF m 9 #[.val (.ref a1), .val (.ref r)] [(.long x)]))
  exact own_retJ X2 hx hlk hret (hb hby d11_9) (by rw [e2]; exact ⟨rfl, N2, rfl⟩) (by decide) (by decide)
theorem d12_0 : decode prog_25_method_7_code 0 = .ok (.aload_n 0, 1) := by decide +kernel
theorem d12_1 : decode prog_25_method_7_code 1 = .ok (.getfield 19, 3) := by decide +kernel
theorem d12_4 : decode prog_25_method_7_code 4 = .ok (.aload_n 1, 1) := by decide +kernel
theorem d12_5 : decode prog_25_method_7_code 5 = .ok (.invokevirtual 36, 3) := by decide +kernel
theorem d12_8 : decode prog_25_method_7_code 8 = .ok (.laload, 1) := by decide +kernel
theorem d12_9 : decode prog_25_method_7_code 9 = .ok (.lreturn, 1) := by decide +kernel
def rm_getReceivedQ (Z : State) (a1 : Addr) (r : Addr) (o : Int32) (t : Addr) (kt : ClassId) (vs : List Value) (x : Int64) (h0 : Heap) (n0 : Nat) (v : Option Value) (h : Heap) (L : List Loc) : Prop := v = some (.long x) ∧ Fr n0 L ∧ h = h0
set_option maxRecDepth 65536 in
set_option maxHeartbeats 40000000 in
theorem rm_getReceived (l : Launch) (Z : State) (a0 : Array Value) (hw : ∀ d ∈ tables_1, d.before a0 Z = true) (a1 : Addr) (r : Addr) (o : Int32) (t : Addr) (kt : ClassId) (vs : List Value) (x : Int64) (h0 : Heap) (n0 : Nat) (Z0 : n0 ≤ h0.size) (ho : ¬ o < (0 : Int32) ∧ o < (4 : Int32)) (F2 : Fld Z h0 a1 "com/example/electd/electd/service/DatagramCounts" "received" "[J" (.ref t)) (E_r : Exa Z h0 r "com/example/electd/electd/model/MessageKind") (Fo : Fld Z h0 r "java/lang/Enum" "ordinal" "I" (.int o)) (V_t : Arv Z h0 t kt .long (4 : Int32) vs (.long (0 : Int64))) (hv : vs.getD o.toNatClampNeg (.long (0 : Int64)) = .long x) :
    Ct l Z [] (⟨"com/example/electd/electd/service/DatagramCounts", "getReceived", "(Lcom/example/electd/electd/model/MessageKind;)J"⟩ : MethodName) prog_25_method_7_code 2 (some .long) ({ frames := 1, cells := 0, slots := 0, locals := 13 } : Room) #[(.ref a1), (.ref r)] h0 (rm_getReceivedQ Z a1 r o t kt vs x h0 n0) := by
  refine own_enter (plainFor_of_name pn_3) ?_
  intro p e s m below meth c T0 X0 hx hby hml hZ hown hnm hret hlk e0
  have hown : s.vm.findClass "com/example/electd/electd/service/DatagramCounts" = some m.cls := hown
  have N0 := Fr.nil n0
  have K0 := Keep.refl h0 []
  refine own_st (fun wt wk => castTop (g' := mkF m 0 #[.val (.ref a1), .val (.ref r)] []) (by first | (simp [entryFrame, mkF, argsToLocals, Value.category]; done) | rfl) wk) ?_
  show Fin1 p e below s (rm_getReceivedQ Z a1 r o t kt vs x h0 n0) ({ frames := 1, cells := 0, slots := 0, locals := 13 } : Room).cells ({ frames := 1, cells := 0, slots := 0, locals := 13 } : Room).slots (T0.setTop (mkF m 0 #[.val (.ref a1), .val (.ref r)] []))
  refine own_st (fun wt wk => XS.aloadN X0.here hx rfl (hb hby d12_0) rfl rfl wk) ?_
  show Fin1 p e below s (rm_getReceivedQ Z a1 r o t kt vs x h0 n0) ({ frames := 1, cells := 0, slots := 0, locals := 13 } : Room).cells ({ frames := 1, cells := 0, slots := 0, locals := 13 } : Room).slots (T0.setTop (mkF m 1 #[.val (.ref a1), .val (.ref r)] [(.ref a1)]))
  obtain ⟨T1, X1, e1, st1⟩ := getF X0 hx hZ hown (host := "") (Or.inl (hw _ (List.mem_of_getElem? (i := 32) rfl))) Via.refl e0 F2 (g := (mkF m 1 #[.val (.ref a1), .val (.ref r)] [(.ref a1)])) rfl rfl (hb hby d12_1)
  refine own_st st1 ?_
  show Fin1 p e below s (rm_getReceivedQ Z a1 r o t kt vs x h0 n0) ({ frames := 1, cells := 0, slots := 0, locals := 13 } : Room).cells ({ frames := 1, cells := 0, slots := 0, locals := 13 } : Room).slots (T1.setTop (mkF m 4 #[.val (.ref a1), .val (.ref r)] [(.ref t)]))
  refine own_st (fun wt wk => XS.aloadN X1.here hx rfl (hb hby d12_4) rfl rfl wk) ?_
  show Fin1 p e below s (rm_getReceivedQ Z a1 r o t kt vs x h0 n0) ({ frames := 1, cells := 0, slots := 0, locals := 13 } : Room).cells ({ frames := 1, cells := 0, slots := 0, locals := 13 } : Room).slots (T1.setTop (mkF m 5 #[.val (.ref a1), .val (.ref r)] [(.ref r), (.ref t)]))
  obtain ⟨v2, T2, h2, L2, X2, e2, hQ2, st2⟩ := own_virtualUp X1 hx hZ hown (hw _ (List.mem_of_getElem? (i := 92) rfl)) (hw _ (List.mem_of_getElem? (i := 93) rfl)) (hw _ (List.mem_of_getElem? (i := 65) rfl)) (hw _ (List.mem_of_getElem? (i := 94) rfl)) (hw _ (List.mem_of_getElem? (i := 66) rfl)) (hw _ (List.mem_of_getElem? (i := 69) rfl)) (hw _ (List.mem_of_getElem? (i := 68) rfl)) (by decide) (a := r) E_r (rmOrd l Z a0 hw r o h0 n0 Z0 Fo) e1 (g := (mkF m 5 #[.val (.ref a1), .val (.ref r)] [(.ref r), (.ref t)])) rfl (by rw [hml]; rfl) (argsL := []) (rest := [(.ref t)]) (lenOf pd_6 rfl) rfl (W := 1) (by show 2 * 0 + _ ≤ _; exact Nat.le_of_eq rfl) (hb hby d12_5) (by decide) (by decide) (by decide) (by decide)
  obtain ⟨rfl, N2q, hh2⟩ := hQ2
  have N2 := Fr.app N0 N2q
  rw [hh2] at e2
  refine own_st st2 ?_
  show Fin1 p e below s (rm_getReceivedQ Z a1 r o t kt vs x h0 n0) ({ frames := 1, cells := 0, slots := 0, locals := 13 } : Room).cells ({ frames := 1, cells := 0, slots := 0, locals := 13 } : Room).slots (T2.setTop (mkF m 8 #[.val (.ref a1), .val (.ref r)] [(.int o), (.ref t)]))
  refine own_st (own_ld (j := o) (v := (.long x)) X2 hx hZ e2 V_t ho hv (g := (mkF m 8 #[.val (.ref a1), .val (.ref r)] [(.int o), (.ref t)])) rfl rfl (Or.inr (Or.inl ⟨rfl, rfl⟩)) (hb hby d12_8)) ?_
  show Fin1 p e below s (rm_getReceivedQ Z a1 r o t kt vs x h0 n0) ({ frames := 1, cells := 0, slots := 0, locals := 13 } : Room).cells ({ frames := 1, cells := 0, slots := 0, locals := 13 } : Room).slots (T2.setTop (mkF m 9 #[.val (.ref a1), .val (.ref r)] [(.long x)]))
  exact own_retJ X2 hx hlk hret (hb hby d12_9) (by rw [e2]; exact ⟨rfl, N2, rfl⟩) (by decide) (by decide)
theorem d5_0 : decode method_2_code 0 = .ok (.iload_n 0, 1) := by decide +kernel
theorem d5_1 : decode method_2_code 1 = .ok (.iconst 3, 1) := by decide +kernel
theorem d5_2 : decode method_2_code 2 = .ok (.iand, 1) := by decide +kernel
theorem d5_3 : decode method_2_code 3 = .ok (.istore_n 1, 1) := by decide +kernel
theorem d5_4 : decode method_2_code 4 = .ok (.iload_n 1, 1) := by decide +kernel
theorem d5_5 : decode method_2_code 5 = .ok (.ifCond .ne 7, 3) := by decide +kernel
theorem d5_8 : decode method_2_code 8 = .ok (.getstatic 7, 3) := by decide +kernel
theorem d5_11 : decode method_2_code 11 = .ok (.areturn, 1) := by decide +kernel
theorem d5_12 : decode method_2_code 12 = .ok (.iload_n 1, 1) := by decide +kernel
theorem d5_13 : decode method_2_code 13 = .ok (.iconst 1, 1) := by decide +kernel
theorem d5_14 : decode method_2_code 14 = .ok (.if_icmp .ne 7, 3) := by decide +kernel
theorem d5_17 : decode method_2_code 17 = .ok (.getstatic 13, 3) := by decide +kernel
theorem d5_20 : decode method_2_code 20 = .ok (.areturn, 1) := by decide +kernel
theorem d5_21 : decode method_2_code 21 = .ok (.iload_n 1, 1) := by decide +kernel
theorem d5_22 : decode method_2_code 22 = .ok (.iconst 2, 1) := by decide +kernel
theorem d5_23 : decode method_2_code 23 = .ok (.if_icmp .ne 7, 3) := by decide +kernel
theorem d5_26 : decode method_2_code 26 = .ok (.getstatic 16, 3) := by decide +kernel
theorem d5_29 : decode method_2_code 29 = .ok (.areturn, 1) := by decide +kernel
theorem d5_30 : decode method_2_code 30 = .ok (.getstatic 19, 3) := by decide +kernel
theorem d5_33 : decode method_2_code 33 = .ok (.areturn, 1) := by decide +kernel
theorem pn_7 : plainName "com/example/electd/electd/service/DatagramCountsRejectedPinLaw" = true := by first | (simp [plainName, overriddenIn]; done) | decide +kernel
def rm_reasonQ (Z : State) (x : Int32) (vaJ : Addr) (xJ0 : Addr) (xJ1 : Addr) (xJ2 : Addr) (xJ3 : Addr) (vcJ : Cell) (h0 : Heap) (n0 : Nat) (v : Option Value) (h : Heap) (L : List Loc) : Prop := ∃ r : Addr, v = some (.ref r) ∧ Fr n0 L ∧ h = h0 ∧ Exa Z h0 r "com/example/electd/electd/io/Rejection" ∧ Fld Z h0 r "java/lang/Enum" "ordinal" "I" (.int (x &&& (3 : Int32)))
set_option maxRecDepth 65536 in
set_option maxHeartbeats 40000000 in
theorem rm_reason (l : Launch) (Z : State) (a0 : Array Value) (hw : ∀ d ∈ tables_1, d.before a0 Z = true) (x : Int32) (vaJ : Addr) (xJ0 : Addr) (xJ1 : Addr) (xJ2 : Addr) (xJ3 : Addr) (vcJ : Cell) (h0 : Heap) (n0 : Nat) (Z0 : n0 ≤ h0.size) (O : Old Z n0 h0) (EJ : own_J Z vaJ xJ0 xJ1 xJ2 xJ3 vcJ) :
    Ct l Z [] (⟨"com/example/electd/electd/service/DatagramCountsRejectedPinLaw", "reason", "(I)Lcom/example/electd/electd/io/Rejection;"⟩ : MethodName) method_2_code 2 (some (.object "com/example/electd/electd/io/Rejection")) ({ frames := 0, cells := 0, slots := 0, locals := 0 } : Room) #[(.int x)] h0 (rm_reasonQ Z x vaJ xJ0 xJ1 xJ2 xJ3 vcJ h0 n0) := by
  refine own_enter (plainFor_of_name pn_7) ?_
  intro p e s m below meth c T0 X0 hx hby hml hZ hown hnm hret hlk e0
  have hown : s.vm.findClass "com/example/electd/electd/service/DatagramCountsRejectedPinLaw" = some m.cls := hown
  have N0 := Fr.nil n0
  have K0 := Keep.refl h0 []
  refine own_st (fun wt wk => castTop (g' := mkF m 0 #[.val (.int x), .unset] []) (by first | (simp [entryFrame, mkF, argsToLocals, Value.category]; done) | rfl) wk) ?_
  show Fin1 p e below s (rm_reasonQ Z x vaJ xJ0 xJ1 xJ2 xJ3 vcJ h0 n0) ({ frames := 0, cells := 0, slots := 0, locals := 0 } : Room).cells ({ frames := 0, cells := 0, slots := 0, locals := 0 } : Room).slots (T0.setTop (mkF m 0 #[.val (.int x), .unset] []))
  obtain ⟨SJv, AJv, XJv, zJv, FJv, ⟨SJ0, QJ0, OJ0⟩, ⟨SJ1, QJ1, OJ1⟩, ⟨SJ2, QJ2, OJ2⟩, ⟨SJ3, QJ3, OJ3⟩⟩ := EJ
  refine own_st (fun wt wk => XS.iloadN X0.here hx rfl (hb hby d5_0) rfl wk) ?_
  show Fin1 p e below s (rm_reasonQ Z x vaJ xJ0 xJ1 xJ2 xJ3 vcJ h0 n0) ({ frames := 0, cells := 0, slots := 0, locals := 0 } : Room).cells ({ frames := 0, cells := 0, slots := 0, locals := 0 } : Room).slots (T0.setTop (mkF m 1 #[.val (.int x), .unset] [(.int x)]))
  refine own_st (fun wt wk => XS.iconst X0.here hx rfl (hb hby d5_1) wk) ?_
  show Fin1 p e below s (rm_reasonQ Z x vaJ xJ0 xJ1 xJ2 xJ3 vcJ h0 n0) ({ frames := 0, cells := 0, slots := 0, locals := 0 } : Room).cells ({ frames := 0, cells := 0, slots := 0, locals := 0 } : Room).slots (T0.setTop (mkF m 2 #[.val (.int x), .unset] [(.int (3 : Int32)), (.int x)]))
  refine own_st (fun wt wk => XS.iand X0.here hx rfl (hb hby d5_2) rfl wk) ?_
  show Fin1 p e below s (rm_reasonQ Z x vaJ xJ0 xJ1 xJ2 xJ3 vcJ h0 n0) ({ frames := 0, cells := 0, slots := 0, locals := 0 } : Room).cells ({ frames := 0, cells := 0, slots := 0, locals := 0 } : Room).slots (T0.setTop (mkF m 3 #[.val (.int x), .unset] [(.int (x &&& (3 : Int32)))]))
  refine own_st (fun wt wk => XS.istoreN X0.here hx rfl (hb hby d5_3) rfl (l' := #[.val (.int x), .val (.int (x &&& (3 : Int32)))]) rfl wk) ?_
  show Fin1 p e below s (rm_reasonQ Z x vaJ xJ0 xJ1 xJ2 xJ3 vcJ h0 n0) ({ frames := 0, cells := 0, slots := 0, locals := 0 } : Room).cells ({ frames := 0, cells := 0, slots := 0, locals := 0 } : Room).slots (T0.setTop (mkF m 4 #[.val (.int x), .val (.int (x &&& (3 : Int32)))] []))
  refine own_st (fun wt wk => XS.iloadN X0.here hx rfl (hb hby d5_4) rfl wk) ?_
  show Fin1 p e below s (rm_reasonQ Z x vaJ xJ0 xJ1 xJ2 xJ3 vcJ h0 n0) ({ frames := 0, cells := 0, slots := 0, locals := 0 } : Room).cells ({ frames := 0, cells := 0, slots := 0, locals := 0 } : Room).slots (T0.setTop (mkF m 5 #[.val (.int x), .val (.int (x &&& (3 : Int32)))] [(.int (x &&& (3 : Int32)))]))
  by_cases c5 : (x &&& (3 : Int32)) = (0 : Int32)
  · refine own_st (fun wt wk => XS.ifNo X0.here hx rfl (hb hby d5_5) rfl ((if0 _ _).trans (teq c5).2) wk) ?_
    show Fin1 p e below s (rm_reasonQ Z x vaJ xJ0 xJ1 xJ2 xJ3 vcJ h0 n0) ({ frames := 0, cells := 0, slots := 0, locals := 0 } : Room).cells ({ frames := 0, cells := 0, slots := 0, locals := 0 } : Room).slots (T0.setTop (mkF m 8 #[.val (.int x), .val (.int (x &&& (3 : Int32)))] []))
    obtain ⟨T1, X1, e1, st1⟩ := getS2 X0 hx hZ hown (host := "") (Or.inl (hw _ (List.mem_of_getElem? (i := 57) rfl))) Via.refl e0 (SJ0.ext O.2) (g := (mkF m 8 #[.val (.int x), .val (.int (x &&& (3 : Int32)))] [])) rfl (hb hby d5_8)
    refine own_st st1 ?_
    show Fin1 p e below s (rm_reasonQ Z x vaJ xJ0 xJ1 xJ2 xJ3 vcJ h0 n0) ({ frames := 0, cells := 0, slots := 0, locals := 0 } : Room).cells ({ frames := 0, cells := 0, slots := 0, locals := 0 } : Room).slots (T1.setTop (mkF m 11 #[.val (.int x), .val (.int (x &&& (3 : Int32)))] [(.ref xJ0)]))
    have hm : (x &&& (3 : Int32)) = (0 : Int32) := c5
    have Of := OJ0.ext O.2
    rw [← hm] at Of
    exact own_retA X1 hx hlk hret rfl rfl (hb hby d5_11) (by rw [e1]; exact ⟨_, rfl, N0, rfl, QJ0.ext O.2, Of⟩) (by decide) (by decide)
  · refine own_st (fun wt wk => XS.ifYes X0.here hx rfl (pc0 := 5) (pc' := 12) rfl (hb hby d5_5) rfl ((if0 _ _).trans (feq c5).2) (by decide) (by decide) wk) ?_
    show Fin1 p e below s (rm_reasonQ Z x vaJ xJ0 xJ1 xJ2 xJ3 vcJ h0 n0) ({ frames := 0, cells := 0, slots := 0, locals := 0 } : Room).cells ({ frames := 0, cells := 0, slots := 0, locals := 0 } : Room).slots (T0.setTop (mkF m 12 #[.val (.int x), .val (.int (x &&& (3 : Int32)))] []))
    refine own_st (fun wt wk => XS.iloadN X0.here hx rfl (hb hby d5_12) rfl wk) ?_
    show Fin1 p e below s (rm_reasonQ Z x vaJ xJ0 xJ1 xJ2 xJ3 vcJ h0 n0) ({ frames := 0, cells := 0, slots := 0, locals := 0 } : Room).cells ({ frames := 0, cells := 0, slots := 0, locals := 0 } : Room).slots (T0.setTop (mkF m 13 #[.val (.int x), .val (.int (x &&& (3 : Int32)))] [(.int (x &&& (3 : Int32)))]))
    refine own_st (fun wt wk => XS.iconst X0.here hx rfl (hb hby d5_13) wk) ?_
    show Fin1 p e below s (rm_reasonQ Z x vaJ xJ0 xJ1 xJ2 xJ3 vcJ h0 n0) ({ frames := 0, cells := 0, slots := 0, locals := 0 } : Room).cells ({ frames := 0, cells := 0, slots := 0, locals := 0 } : Room).slots (T0.setTop (mkF m 14 #[.val (.int x), .val (.int (x &&& (3 : Int32)))] [(.int (1 : Int32)), (.int (x &&& (3 : Int32)))]))
    by_cases c14 : (x &&& (3 : Int32)) = (1 : Int32)
    · refine own_st (fun wt wk => XS.icmpNo X0.here hx rfl (hb hby d5_14) rfl (teq c14).2 wk) ?_
      show Fin1 p e below s (rm_reasonQ Z x vaJ xJ0 xJ1 xJ2 xJ3 vcJ h0 n0) ({ frames := 0, cells := 0, slots := 0, locals := 0 } : Room).cells ({ frames := 0, cells := 0, slots := 0, locals := 0 } : Room).slots (T0.setTop (mkF m 17 #[.val (.int x), .val (.int (x &&& (3 : Int32)))] []))
      obtain ⟨T2, X2, e2, st2⟩ := getS2 X0 hx hZ hown (host := "") (Or.inl (hw _ (List.mem_of_getElem? (i := 80) rfl))) Via.refl e0 (SJ1.ext O.2) (g := (mkF m 17 #[.val (.int x), .val (.int (x &&& (3 : Int32)))] [])) rfl (hb hby d5_17)
      refine own_st st2 ?_
      show Fin1 p e below s (rm_reasonQ Z x vaJ xJ0 xJ1 xJ2 xJ3 vcJ h0 n0) ({ frames := 0, cells := 0, slots := 0, locals := 0 } : Room).cells ({ frames := 0, cells := 0, slots := 0, locals := 0 } : Room).slots (T2.setTop (mkF m 20 #[.val (.int x), .val (.int (x &&& (3 : Int32)))] [(.ref xJ1)]))
      have hm : (x &&& (3 : Int32)) = (1 : Int32) := c14
      have Of := OJ1.ext O.2
      rw [← hm] at Of
      exact own_retA X2 hx hlk hret rfl rfl (hb hby d5_20) (by rw [e2]; exact ⟨_, rfl, N0, rfl, QJ1.ext O.2, Of⟩) (by decide) (by decide)
    · refine own_st (fun wt wk => XS.icmpYes X0.here hx rfl (pc0 := 14) (pc' := 21) rfl (hb hby d5_14) rfl (feq c14).2 (by decide) (by decide) wk) ?_
      show Fin1 p e below s (rm_reasonQ Z x vaJ xJ0 xJ1 xJ2 xJ3 vcJ h0 n0) ({ frames := 0, cells := 0, slots := 0, locals := 0 } : Room).cells ({ frames := 0, cells := 0, slots := 0, locals := 0 } : Room).slots (T0.setTop (mkF m 21 #[.val (.int x), .val (.int (x &&& (3 : Int32)))] []))
      refine own_st (fun wt wk => XS.iloadN X0.here hx rfl (hb hby d5_21) rfl wk) ?_
      show Fin1 p e below s (rm_reasonQ Z x vaJ xJ0 xJ1 xJ2 xJ3 vcJ h0 n0) ({ frames := 0, cells := 0, slots := 0, locals := 0 } : Room).cells ({ frames := 0, cells := 0, slots := 0, locals := 0 } : Room).slots (T0.setTop (mkF m 22 #[.val (.int x), .val (.int (x &&& (3 : Int32)))] [(.int (x &&& (3 : Int32)))]))
      refine own_st (fun wt wk => XS.iconst X0.here hx rfl (hb hby d5_22) wk) ?_
      show Fin1 p e below s (rm_reasonQ Z x vaJ xJ0 xJ1 xJ2 xJ3 vcJ h0 n0) ({ frames := 0, cells := 0, slots := 0, locals := 0 } : Room).cells ({ frames := 0, cells := 0, slots := 0, locals := 0 } : Room).slots (T0.setTop (mkF m 23 #[.val (.int x), .val (.int (x &&& (3 : Int32)))] [(.int (2 : Int32)), (.int (x &&& (3 : Int32)))]))
      by_cases c23 : (x &&& (3 : Int32)) = (2 : Int32)
      · refine own_st (fun wt wk => XS.icmpNo X0.here hx rfl (hb hby d5_23) rfl (teq c23).2 wk) ?_
        show Fin1 p e below s (rm_reasonQ Z x vaJ xJ0 xJ1 xJ2 xJ3 vcJ h0 n0) ({ frames := 0, cells := 0, slots := 0, locals := 0 } : Room).cells ({ frames := 0, cells := 0, slots := 0, locals := 0 } : Room).slots (T0.setTop (mkF m 26 #[.val (.int x), .val (.int (x &&& (3 : Int32)))] []))
        obtain ⟨T3, X3, e3, st3⟩ := getS2 X0 hx hZ hown (host := "") (Or.inl (hw _ (List.mem_of_getElem? (i := 81) rfl))) Via.refl e0 (SJ2.ext O.2) (g := (mkF m 26 #[.val (.int x), .val (.int (x &&& (3 : Int32)))] [])) rfl (hb hby d5_26)
        refine own_st st3 ?_
        show Fin1 p e below s (rm_reasonQ Z x vaJ xJ0 xJ1 xJ2 xJ3 vcJ h0 n0) ({ frames := 0, cells := 0, slots := 0, locals := 0 } : Room).cells ({ frames := 0, cells := 0, slots := 0, locals := 0 } : Room).slots (T3.setTop (mkF m 29 #[.val (.int x), .val (.int (x &&& (3 : Int32)))] [(.ref xJ2)]))
        have hm : (x &&& (3 : Int32)) = (2 : Int32) := c23
        have Of := OJ2.ext O.2
        rw [← hm] at Of
        exact own_retA X3 hx hlk hret rfl rfl (hb hby d5_29) (by rw [e3]; exact ⟨_, rfl, N0, rfl, QJ2.ext O.2, Of⟩) (by decide) (by decide)
      · refine own_st (fun wt wk => XS.icmpYes X0.here hx rfl (pc0 := 23) (pc' := 30) rfl (hb hby d5_23) rfl (feq c23).2 (by decide) (by decide) wk) ?_
        show Fin1 p e below s (rm_reasonQ Z x vaJ xJ0 xJ1 xJ2 xJ3 vcJ h0 n0) ({ frames := 0, cells := 0, slots := 0, locals := 0 } : Room).cells ({ frames := 0, cells := 0, slots := 0, locals := 0 } : Room).slots (T0.setTop (mkF m 30 #[.val (.int x), .val (.int (x &&& (3 : Int32)))] []))
        obtain ⟨T4, X4, e4, st4⟩ := getS2 X0 hx hZ hown (host := "") (Or.inl (hw _ (List.mem_of_getElem? (i := 82) rfl))) Via.refl e0 (SJ3.ext O.2) (g := (mkF m 30 #[.val (.int x), .val (.int (x &&& (3 : Int32)))] [])) rfl (hb hby d5_30)
        refine own_st st4 ?_
        show Fin1 p e below s (rm_reasonQ Z x vaJ xJ0 xJ1 xJ2 xJ3 vcJ h0 n0) ({ frames := 0, cells := 0, slots := 0, locals := 0 } : Room).cells ({ frames := 0, cells := 0, slots := 0, locals := 0 } : Room).slots (T4.setTop (mkF m 33 #[.val (.int x), .val (.int (x &&& (3 : Int32)))] [(.ref xJ3)]))
        have hm : (x &&& (3 : Int32)) = (3 : Int32) := (own_four _ (own_rng x)).elim (fun q => absurd q c5) (fun q => q.elim (fun q => absurd q c14) (fun q => q.elim (fun q => absurd q c23) id))
        have Of := OJ3.ext O.2
        rw [← hm] at Of
        exact own_retA X4 hx hlk hret rfl rfl (hb hby d5_33) (by rw [e4]; exact ⟨_, rfl, N0, rfl, QJ3.ext O.2, Of⟩) (by decide) (by decide)
theorem d10_0 : decode method_3_code 0 = .ok (.iload_n 0, 1) := by decide +kernel
theorem d10_1 : decode method_3_code 1 = .ok (.iconst 3, 1) := by decide +kernel
theorem d10_2 : decode method_3_code 2 = .ok (.iand, 1) := by decide +kernel
theorem d10_3 : decode method_3_code 3 = .ok (.istore_n 1, 1) := by decide +kernel
theorem d10_4 : decode method_3_code 4 = .ok (.iload_n 1, 1) := by decide +kernel
theorem d10_5 : decode method_3_code 5 = .ok (.ifCond .ne 7, 3) := by decide +kernel
theorem d10_8 : decode method_3_code 8 = .ok (.getstatic 22, 3) := by decide +kernel
theorem d10_11 : decode method_3_code 11 = .ok (.areturn, 1) := by decide +kernel
theorem d10_12 : decode method_3_code 12 = .ok (.iload_n 1, 1) := by decide +kernel
theorem d10_13 : decode method_3_code 13 = .ok (.iconst 1, 1) := by decide +kernel
theorem d10_14 : decode method_3_code 14 = .ok (.if_icmp .ne 7, 3) := by decide +kernel
theorem d10_17 : decode method_3_code 17 = .ok (.getstatic 28, 3) := by decide +kernel
theorem d10_20 : decode method_3_code 20 = .ok (.areturn, 1) := by decide +kernel
theorem d10_21 : decode method_3_code 21 = .ok (.iload_n 1, 1) := by decide +kernel
theorem d10_22 : decode method_3_code 22 = .ok (.iconst 2, 1) := by decide +kernel
theorem d10_23 : decode method_3_code 23 = .ok (.if_icmp .ne 7, 3) := by decide +kernel
theorem d10_26 : decode method_3_code 26 = .ok (.getstatic 31, 3) := by decide +kernel
theorem d10_29 : decode method_3_code 29 = .ok (.areturn, 1) := by decide +kernel
theorem d10_30 : decode method_3_code 30 = .ok (.getstatic 34, 3) := by decide +kernel
theorem d10_33 : decode method_3_code 33 = .ok (.areturn, 1) := by decide +kernel
def rm_kindQ (Z : State) (x : Int32) (vaM : Addr) (xM0 : Addr) (xM1 : Addr) (xM2 : Addr) (xM3 : Addr) (vcM : Cell) (h0 : Heap) (n0 : Nat) (v : Option Value) (h : Heap) (L : List Loc) : Prop := ∃ r : Addr, v = some (.ref r) ∧ Fr n0 L ∧ h = h0 ∧ Exa Z h0 r "com/example/electd/electd/model/MessageKind" ∧ Fld Z h0 r "java/lang/Enum" "ordinal" "I" (.int (x &&& (3 : Int32)))
set_option maxRecDepth 65536 in
set_option maxHeartbeats 40000000 in
theorem rm_kind (l : Launch) (Z : State) (a0 : Array Value) (hw : ∀ d ∈ tables_1, d.before a0 Z = true) (x : Int32) (vaM : Addr) (xM0 : Addr) (xM1 : Addr) (xM2 : Addr) (xM3 : Addr) (vcM : Cell) (h0 : Heap) (n0 : Nat) (Z0 : n0 ≤ h0.size) (O : Old Z n0 h0) (EM : own_M Z vaM xM0 xM1 xM2 xM3 vcM) :
    Ct l Z [] (⟨"com/example/electd/electd/service/DatagramCountsRejectedPinLaw", "kind", "(I)Lcom/example/electd/electd/model/MessageKind;"⟩ : MethodName) method_3_code 2 (some (.object "com/example/electd/electd/model/MessageKind")) ({ frames := 0, cells := 0, slots := 0, locals := 0 } : Room) #[(.int x)] h0 (rm_kindQ Z x vaM xM0 xM1 xM2 xM3 vcM h0 n0) := by
  refine own_enter (plainFor_of_name pn_7) ?_
  intro p e s m below meth c T0 X0 hx hby hml hZ hown hnm hret hlk e0
  have hown : s.vm.findClass "com/example/electd/electd/service/DatagramCountsRejectedPinLaw" = some m.cls := hown
  have N0 := Fr.nil n0
  have K0 := Keep.refl h0 []
  refine own_st (fun wt wk => castTop (g' := mkF m 0 #[.val (.int x), .unset] []) (by first | (simp [entryFrame, mkF, argsToLocals, Value.category]; done) | rfl) wk) ?_
  show Fin1 p e below s (rm_kindQ Z x vaM xM0 xM1 xM2 xM3 vcM h0 n0) ({ frames := 0, cells := 0, slots := 0, locals := 0 } : Room).cells ({ frames := 0, cells := 0, slots := 0, locals := 0 } : Room).slots (T0.setTop (mkF m 0 #[.val (.int x), .unset] []))
  obtain ⟨SMv, AMv, XMv, zMv, FMv, ⟨SM0, QM0, OM0⟩, ⟨SM1, QM1, OM1⟩, ⟨SM2, QM2, OM2⟩, ⟨SM3, QM3, OM3⟩⟩ := EM
  refine own_st (fun wt wk => XS.iloadN X0.here hx rfl (hb hby d10_0) rfl wk) ?_
  show Fin1 p e below s (rm_kindQ Z x vaM xM0 xM1 xM2 xM3 vcM h0 n0) ({ frames := 0, cells := 0, slots := 0, locals := 0 } : Room).cells ({ frames := 0, cells := 0, slots := 0, locals := 0 } : Room).slots (T0.setTop (mkF m 1 #[.val (.int x), .unset] [(.int x)]))
  refine own_st (fun wt wk => XS.iconst X0.here hx rfl (hb hby d10_1) wk) ?_
  show Fin1 p e below s (rm_kindQ Z x vaM xM0 xM1 xM2 xM3 vcM h0 n0) ({ frames := 0, cells := 0, slots := 0, locals := 0 } : Room).cells ({ frames := 0, cells := 0, slots := 0, locals := 0 } : Room).slots (T0.setTop (mkF m 2 #[.val (.int x), .unset] [(.int (3 : Int32)), (.int x)]))
  refine own_st (fun wt wk => XS.iand X0.here hx rfl (hb hby d10_2) rfl wk) ?_
  show Fin1 p e below s (rm_kindQ Z x vaM xM0 xM1 xM2 xM3 vcM h0 n0) ({ frames := 0, cells := 0, slots := 0, locals := 0 } : Room).cells ({ frames := 0, cells := 0, slots := 0, locals := 0 } : Room).slots (T0.setTop (mkF m 3 #[.val (.int x), .unset] [(.int (x &&& (3 : Int32)))]))
  refine own_st (fun wt wk => XS.istoreN X0.here hx rfl (hb hby d10_3) rfl (l' := #[.val (.int x), .val (.int (x &&& (3 : Int32)))]) rfl wk) ?_
  show Fin1 p e below s (rm_kindQ Z x vaM xM0 xM1 xM2 xM3 vcM h0 n0) ({ frames := 0, cells := 0, slots := 0, locals := 0 } : Room).cells ({ frames := 0, cells := 0, slots := 0, locals := 0 } : Room).slots (T0.setTop (mkF m 4 #[.val (.int x), .val (.int (x &&& (3 : Int32)))] []))
  refine own_st (fun wt wk => XS.iloadN X0.here hx rfl (hb hby d10_4) rfl wk) ?_
  show Fin1 p e below s (rm_kindQ Z x vaM xM0 xM1 xM2 xM3 vcM h0 n0) ({ frames := 0, cells := 0, slots := 0, locals := 0 } : Room).cells ({ frames := 0, cells := 0, slots := 0, locals := 0 } : Room).slots (T0.setTop (mkF m 5 #[.val (.int x), .val (.int (x &&& (3 : Int32)))] [(.int (x &&& (3 : Int32)))]))
  by_cases c5 : (x &&& (3 : Int32)) = (0 : Int32)
  · refine own_st (fun wt wk => XS.ifNo X0.here hx rfl (hb hby d10_5) rfl ((if0 _ _).trans (teq c5).2) wk) ?_
    show Fin1 p e below s (rm_kindQ Z x vaM xM0 xM1 xM2 xM3 vcM h0 n0) ({ frames := 0, cells := 0, slots := 0, locals := 0 } : Room).cells ({ frames := 0, cells := 0, slots := 0, locals := 0 } : Room).slots (T0.setTop (mkF m 8 #[.val (.int x), .val (.int (x &&& (3 : Int32)))] []))
    obtain ⟨T1, X1, e1, st1⟩ := getS2 X0 hx hZ hown (host := "") (Or.inl (hw _ (List.mem_of_getElem? (i := 86) rfl))) Via.refl e0 (SM0.ext O.2) (g := (mkF m 8 #[.val (.int x), .val (.int (x &&& (3 : Int32)))] [])) rfl (hb hby d10_8)
    refine own_st st1 ?_
    show Fin1 p e below s (rm_kindQ Z x vaM xM0 xM1 xM2 xM3 vcM h0 n0) ({ frames := 0, cells := 0, slots := 0, locals := 0 } : Room).cells ({ frames := 0, cells := 0, slots := 0, locals := 0 } : Room).slots (T1.setTop (mkF m 11 #[.val (.int x), .val (.int (x &&& (3 : Int32)))] [(.ref xM0)]))
    have hm : (x &&& (3 : Int32)) = (0 : Int32) := c5
    have Of := OM0.ext O.2
    rw [← hm] at Of
    exact own_retA X1 hx hlk hret rfl rfl (hb hby d10_11) (by rw [e1]; exact ⟨_, rfl, N0, rfl, QM0.ext O.2, Of⟩) (by decide) (by decide)
  · refine own_st (fun wt wk => XS.ifYes X0.here hx rfl (pc0 := 5) (pc' := 12) rfl (hb hby d10_5) rfl ((if0 _ _).trans (feq c5).2) (by decide) (by decide) wk) ?_
    show Fin1 p e below s (rm_kindQ Z x vaM xM0 xM1 xM2 xM3 vcM h0 n0) ({ frames := 0, cells := 0, slots := 0, locals := 0 } : Room).cells ({ frames := 0, cells := 0, slots := 0, locals := 0 } : Room).slots (T0.setTop (mkF m 12 #[.val (.int x), .val (.int (x &&& (3 : Int32)))] []))
    refine own_st (fun wt wk => XS.iloadN X0.here hx rfl (hb hby d10_12) rfl wk) ?_
    show Fin1 p e below s (rm_kindQ Z x vaM xM0 xM1 xM2 xM3 vcM h0 n0) ({ frames := 0, cells := 0, slots := 0, locals := 0 } : Room).cells ({ frames := 0, cells := 0, slots := 0, locals := 0 } : Room).slots (T0.setTop (mkF m 13 #[.val (.int x), .val (.int (x &&& (3 : Int32)))] [(.int (x &&& (3 : Int32)))]))
    refine own_st (fun wt wk => XS.iconst X0.here hx rfl (hb hby d10_13) wk) ?_
    show Fin1 p e below s (rm_kindQ Z x vaM xM0 xM1 xM2 xM3 vcM h0 n0) ({ frames := 0, cells := 0, slots := 0, locals := 0 } : Room).cells ({ frames := 0, cells := 0, slots := 0, locals := 0 } : Room).slots (T0.setTop (mkF m 14 #[.val (.int x), .val (.int (x &&& (3 : Int32)))] [(.int (1 : Int32)), (.int (x &&& (3 : Int32)))]))
    by_cases c14 : (x &&& (3 : Int32)) = (1 : Int32)
    · refine own_st (fun wt wk => XS.icmpNo X0.here hx rfl (hb hby d10_14) rfl (teq c14).2 wk) ?_
      show Fin1 p e below s (rm_kindQ Z x vaM xM0 xM1 xM2 xM3 vcM h0 n0) ({ frames := 0, cells := 0, slots := 0, locals := 0 } : Room).cells ({ frames := 0, cells := 0, slots := 0, locals := 0 } : Room).slots (T0.setTop (mkF m 17 #[.val (.int x), .val (.int (x &&& (3 : Int32)))] []))
      obtain ⟨T2, X2, e2, st2⟩ := getS2 X0 hx hZ hown (host := "") (Or.inl (hw _ (List.mem_of_getElem? (i := 102) rfl))) Via.refl e0 (SM1.ext O.2) (g := (mkF m 17 #[.val (.int x), .val (.int (x &&& (3 : Int32)))] [])) rfl (hb hby d10_17)
      refine own_st st2 ?_
      show Fin1 p e below s (rm_kindQ Z x vaM xM0 xM1 xM2 xM3 vcM h0 n0) ({ frames := 0, cells := 0, slots := 0, locals := 0 } : Room).cells ({ frames := 0, cells := 0, slots := 0, locals := 0 } : Room).slots (T2.setTop (mkF m 20 #[.val (.int x), .val (.int (x &&& (3 : Int32)))] [(.ref xM1)]))
      have hm : (x &&& (3 : Int32)) = (1 : Int32) := c14
      have Of := OM1.ext O.2
      rw [← hm] at Of
      exact own_retA X2 hx hlk hret rfl rfl (hb hby d10_20) (by rw [e2]; exact ⟨_, rfl, N0, rfl, QM1.ext O.2, Of⟩) (by decide) (by decide)
    · refine own_st (fun wt wk => XS.icmpYes X0.here hx rfl (pc0 := 14) (pc' := 21) rfl (hb hby d10_14) rfl (feq c14).2 (by decide) (by decide) wk) ?_
      show Fin1 p e below s (rm_kindQ Z x vaM xM0 xM1 xM2 xM3 vcM h0 n0) ({ frames := 0, cells := 0, slots := 0, locals := 0 } : Room).cells ({ frames := 0, cells := 0, slots := 0, locals := 0 } : Room).slots (T0.setTop (mkF m 21 #[.val (.int x), .val (.int (x &&& (3 : Int32)))] []))
      refine own_st (fun wt wk => XS.iloadN X0.here hx rfl (hb hby d10_21) rfl wk) ?_
      show Fin1 p e below s (rm_kindQ Z x vaM xM0 xM1 xM2 xM3 vcM h0 n0) ({ frames := 0, cells := 0, slots := 0, locals := 0 } : Room).cells ({ frames := 0, cells := 0, slots := 0, locals := 0 } : Room).slots (T0.setTop (mkF m 22 #[.val (.int x), .val (.int (x &&& (3 : Int32)))] [(.int (x &&& (3 : Int32)))]))
      refine own_st (fun wt wk => XS.iconst X0.here hx rfl (hb hby d10_22) wk) ?_
      show Fin1 p e below s (rm_kindQ Z x vaM xM0 xM1 xM2 xM3 vcM h0 n0) ({ frames := 0, cells := 0, slots := 0, locals := 0 } : Room).cells ({ frames := 0, cells := 0, slots := 0, locals := 0 } : Room).slots (T0.setTop (mkF m 23 #[.val (.int x), .val (.int (x &&& (3 : Int32)))] [(.int (2 : Int32)), (.int (x &&& (3 : Int32)))]))
      by_cases c23 : (x &&& (3 : Int32)) = (2 : Int32)
      · refine own_st (fun wt wk => XS.icmpNo X0.here hx rfl (hb hby d10_23) rfl (teq c23).2 wk) ?_
        show Fin1 p e below s (rm_kindQ Z x vaM xM0 xM1 xM2 xM3 vcM h0 n0) ({ frames := 0, cells := 0, slots := 0, locals := 0 } : Room).cells ({ frames := 0, cells := 0, slots := 0, locals := 0 } : Room).slots (T0.setTop (mkF m 26 #[.val (.int x), .val (.int (x &&& (3 : Int32)))] []))
        obtain ⟨T3, X3, e3, st3⟩ := getS2 X0 hx hZ hown (host := "") (Or.inl (hw _ (List.mem_of_getElem? (i := 103) rfl))) Via.refl e0 (SM2.ext O.2) (g := (mkF m 26 #[.val (.int x), .val (.int (x &&& (3 : Int32)))] [])) rfl (hb hby d10_26)
        refine own_st st3 ?_
        show Fin1 p e below s (rm_kindQ Z x vaM xM0 xM1 xM2 xM3 vcM h0 n0) ({ frames := 0, cells := 0, slots := 0, locals := 0 } : Room).cells ({ frames := 0, cells := 0, slots := 0, locals := 0 } : Room).slots (T3.setTop (mkF m 29 #[.val (.int x), .val (.int (x &&& (3 : Int32)))] [(.ref xM2)]))
        have hm : (x &&& (3 : Int32)) = (2 : Int32) := c23
        have Of := OM2.ext O.2
        rw [← hm] at Of
        exact own_retA X3 hx hlk hret rfl rfl (hb hby d10_29) (by rw [e3]; exact ⟨_, rfl, N0, rfl, QM2.ext O.2, Of⟩) (by decide) (by decide)
      · refine own_st (fun wt wk => XS.icmpYes X0.here hx rfl (pc0 := 23) (pc' := 30) rfl (hb hby d10_23) rfl (feq c23).2 (by decide) (by decide) wk) ?_
        show Fin1 p e below s (rm_kindQ Z x vaM xM0 xM1 xM2 xM3 vcM h0 n0) ({ frames := 0, cells := 0, slots := 0, locals := 0 } : Room).cells ({ frames := 0, cells := 0, slots := 0, locals := 0 } : Room).slots (T0.setTop (mkF m 30 #[.val (.int x), .val (.int (x &&& (3 : Int32)))] []))
        obtain ⟨T4, X4, e4, st4⟩ := getS2 X0 hx hZ hown (host := "") (Or.inl (hw _ (List.mem_of_getElem? (i := 101) rfl))) Via.refl e0 (SM3.ext O.2) (g := (mkF m 30 #[.val (.int x), .val (.int (x &&& (3 : Int32)))] [])) rfl (hb hby d10_30)
        refine own_st st4 ?_
        show Fin1 p e below s (rm_kindQ Z x vaM xM0 xM1 xM2 xM3 vcM h0 n0) ({ frames := 0, cells := 0, slots := 0, locals := 0 } : Room).cells ({ frames := 0, cells := 0, slots := 0, locals := 0 } : Room).slots (T4.setTop (mkF m 33 #[.val (.int x), .val (.int (x &&& (3 : Int32)))] [(.ref xM3)]))
        have hm : (x &&& (3 : Int32)) = (3 : Int32) := (own_four _ (own_rng x)).elim (fun q => absurd q c5) (fun q => q.elim (fun q => absurd q c14) (fun q => q.elim (fun q => absurd q c23) id))
        have Of := OM3.ext O.2
        rw [← hm] at Of
        exact own_retA X4 hx hlk hret rfl rfl (hb hby d10_33) (by rw [e4]; exact ⟨_, rfl, N0, rfl, QM3.ext O.2, Of⟩) (by decide) (by decide)
def own_exp (n a b c i : Int32) : Int64 := let e0 : Int64 := 0; let e1 := if n < (1 : Int32) then e0 else if (a &&& (3 : Int32)) = i then e0 + 1 else e0; let e2 := if n < (2 : Int32) then e1 else if (b &&& (3 : Int32)) = i then e1 + 1 else e1; if n < (3 : Int32) then e2 else if (c &&& (3 : Int32)) = i then e2 + 1 else e2
theorem d9_0 : decode method_4_code 0 = .ok (.lconst 0, 1) := by decide +kernel
theorem d9_1 : decode method_4_code 1 = .ok (.lstore 5, 2) := by decide +kernel
theorem d9_3 : decode method_4_code 3 = .ok (.iload_n 0, 1) := by decide +kernel
theorem d9_4 : decode method_4_code 4 = .ok (.iconst 1, 1) := by decide +kernel
theorem d9_5 : decode method_4_code 5 = .ok (.if_icmp .lt 17, 3) := by decide +kernel
theorem d9_8 : decode method_4_code 8 = .ok (.iload_n 1, 1) := by decide +kernel
theorem d9_9 : decode method_4_code 9 = .ok (.iconst 3, 1) := by decide +kernel
theorem d9_10 : decode method_4_code 10 = .ok (.iand, 1) := by decide +kernel
theorem d9_11 : decode method_4_code 11 = .ok (.iload 4, 2) := by decide +kernel
theorem d9_13 : decode method_4_code 13 = .ok (.if_icmp .ne 9, 3) := by decide +kernel
theorem d9_16 : decode method_4_code 16 = .ok (.lload 5, 2) := by decide +kernel
theorem d9_18 : decode method_4_code 18 = .ok (.lconst 1, 1) := by decide +kernel
theorem d9_19 : decode method_4_code 19 = .ok (.ladd, 1) := by decide +kernel
theorem d9_20 : decode method_4_code 20 = .ok (.lstore 5, 2) := by decide +kernel
theorem d9_22 : decode method_4_code 22 = .ok (.iload_n 0, 1) := by decide +kernel
theorem d9_23 : decode method_4_code 23 = .ok (.iconst 2, 1) := by decide +kernel
theorem d9_24 : decode method_4_code 24 = .ok (.if_icmp .lt 17, 3) := by decide +kernel
theorem d9_27 : decode method_4_code 27 = .ok (.iload_n 2, 1) := by decide +kernel
theorem d9_28 : decode method_4_code 28 = .ok (.iconst 3, 1) := by decide +kernel
theorem d9_29 : decode method_4_code 29 = .ok (.iand, 1) := by decide +kernel
theorem d9_30 : decode method_4_code 30 = .ok (.iload 4, 2) := by decide +kernel
theorem d9_32 : decode method_4_code 32 = .ok (.if_icmp .ne 9, 3) := by decide +kernel
theorem d9_35 : decode method_4_code 35 = .ok (.lload 5, 2) := by decide +kernel
theorem d9_37 : decode method_4_code 37 = .ok (.lconst 1, 1) := by decide +kernel
theorem d9_38 : decode method_4_code 38 = .ok (.ladd, 1) := by decide +kernel
theorem d9_39 : decode method_4_code 39 = .ok (.lstore 5, 2) := by decide +kernel
theorem d9_41 : decode method_4_code 41 = .ok (.iload_n 0, 1) := by decide +kernel
theorem d9_42 : decode method_4_code 42 = .ok (.iconst 3, 1) := by decide +kernel
theorem d9_43 : decode method_4_code 43 = .ok (.if_icmp .lt 17, 3) := by decide +kernel
theorem d9_46 : decode method_4_code 46 = .ok (.iload_n 3, 1) := by decide +kernel
theorem d9_47 : decode method_4_code 47 = .ok (.iconst 3, 1) := by decide +kernel
theorem d9_48 : decode method_4_code 48 = .ok (.iand, 1) := by decide +kernel
theorem d9_49 : decode method_4_code 49 = .ok (.iload 4, 2) := by decide +kernel
theorem d9_51 : decode method_4_code 51 = .ok (.if_icmp .ne 9, 3) := by decide +kernel
theorem d9_54 : decode method_4_code 54 = .ok (.lload 5, 2) := by decide +kernel
theorem d9_56 : decode method_4_code 56 = .ok (.lconst 1, 1) := by decide +kernel
theorem d9_57 : decode method_4_code 57 = .ok (.ladd, 1) := by decide +kernel
theorem d9_58 : decode method_4_code 58 = .ok (.lstore 5, 2) := by decide +kernel
theorem d9_60 : decode method_4_code 60 = .ok (.lload 5, 2) := by decide +kernel
theorem d9_62 : decode method_4_code 62 = .ok (.lreturn, 1) := by decide +kernel
def rmXQ (Z : State) (nn : Int32) (xa : Int32) (xb : Int32) (xc : Int32) (xi : Int32) (h0 : Heap) (n0 : Nat) (v : Option Value) (h : Heap) (L : List Loc) : Prop := v = some (.long (own_exp nn xa xb xc xi)) ∧ Fr n0 L ∧ h = h0
set_option maxRecDepth 65536 in
set_option maxHeartbeats 40000000 in
theorem rmX (l : Launch) (Z : State) (a0 : Array Value) (hw : ∀ d ∈ tables_1, d.before a0 Z = true) (nn : Int32) (xa : Int32) (xb : Int32) (xc : Int32) (xi : Int32) (h0 : Heap) (n0 : Nat) (Z0 : n0 ≤ h0.size) :
    Ct l Z [] (⟨"com/example/electd/electd/service/DatagramCountsRejectedPinLaw", "expected", "(IIIII)J"⟩ : MethodName) method_4_code 7 (some .long) ({ frames := 0, cells := 0, slots := 0, locals := 0 } : Room) #[(.int nn), (.int xa), (.int xb), (.int xc), (.int xi)] h0 (rmXQ Z nn xa xb xc xi h0 n0) := by
  refine own_enter (plainFor_of_name pn_7) ?_
  intro p e s m below meth c T0 X0 hx hby hml hZ hown hnm hret hlk e0
  have hown : s.vm.findClass "com/example/electd/electd/service/DatagramCountsRejectedPinLaw" = some m.cls := hown
  have N0 := Fr.nil n0
  have K0 := Keep.refl h0 []
  refine own_st (fun wt wk => castTop (g' := mkF m 0 #[.val (.int nn), .val (.int xa), .val (.int xb), .val (.int xc), .val (.int xi), .unset, .unset] []) (by first | (simp [entryFrame, mkF, argsToLocals, Value.category]; done) | rfl) wk) ?_
  show Fin1 p e below s (rmXQ Z nn xa xb xc xi h0 n0) ({ frames := 0, cells := 0, slots := 0, locals := 0 } : Room).cells ({ frames := 0, cells := 0, slots := 0, locals := 0 } : Room).slots (T0.setTop (mkF m 0 #[.val (.int nn), .val (.int xa), .val (.int xb), .val (.int xc), .val (.int xi), .unset, .unset] []))
  refine own_st (fun wt wk => XS.lconst X0.here hx rfl (hb hby d9_0) wk) ?_
  show Fin1 p e below s (rmXQ Z nn xa xb xc xi h0 n0) ({ frames := 0, cells := 0, slots := 0, locals := 0 } : Room).cells ({ frames := 0, cells := 0, slots := 0, locals := 0 } : Room).slots (T0.setTop (mkF m 1 #[.val (.int nn), .val (.int xa), .val (.int xb), .val (.int xc), .val (.int xi), .unset, .unset] [(.long (0 : Int64))]))
  refine own_st (fun wt wk => XS.lstore X0.here hx rfl (hb hby d9_1) rfl (l' := #[.val (.int nn), .val (.int xa), .val (.int xb), .val (.int xc), .val (.int xi), .val (.long (0 : Int64)), .second]) rfl wk) ?_
  show Fin1 p e below s (rmXQ Z nn xa xb xc xi h0 n0) ({ frames := 0, cells := 0, slots := 0, locals := 0 } : Room).cells ({ frames := 0, cells := 0, slots := 0, locals := 0 } : Room).slots (T0.setTop (mkF m 3 #[.val (.int nn), .val (.int xa), .val (.int xb), .val (.int xc), .val (.int xi), .val (.long (0 : Int64)), .second] []))
  suffices K22 : ∀ (e1 : Int64), (e1 = if nn < (1 : Int32) then (0 : Int64) else if (xa &&& (3 : Int32)) = xi then (0 : Int64) + (1 : Int64) else (0 : Int64)) → Fin1 p e below s (rmXQ Z nn xa xb xc xi h0 n0) ({ frames := 0, cells := 0, slots := 0, locals := 0 } : Room).cells ({ frames := 0, cells := 0, slots := 0, locals := 0 } : Room).slots (T0.setTop (mkF m 22 #[.val (.int nn), .val (.int xa), .val (.int xb), .val (.int xc), .val (.int xi), .val (.long e1), .second] [])) by
    refine own_st (fun wt wk => XS.iloadN X0.here hx rfl (hb hby d9_3) rfl wk) ?_
    show Fin1 p e below s (rmXQ Z nn xa xb xc xi h0 n0) ({ frames := 0, cells := 0, slots := 0, locals := 0 } : Room).cells ({ frames := 0, cells := 0, slots := 0, locals := 0 } : Room).slots (T0.setTop (mkF m 4 #[.val (.int nn), .val (.int xa), .val (.int xb), .val (.int xc), .val (.int xi), .val (.long (0 : Int64)), .second] [(.int nn)]))
    refine own_st (fun wt wk => XS.iconst X0.here hx rfl (hb hby d9_4) wk) ?_
    show Fin1 p e below s (rmXQ Z nn xa xb xc xi h0 n0) ({ frames := 0, cells := 0, slots := 0, locals := 0 } : Room).cells ({ frames := 0, cells := 0, slots := 0, locals := 0 } : Room).slots (T0.setTop (mkF m 5 #[.val (.int nn), .val (.int xa), .val (.int xb), .val (.int xc), .val (.int xi), .val (.long (0 : Int64)), .second] [(.int (1 : Int32)), (.int nn)]))
    by_cases s0 : nn < (1 : Int32)
    · refine own_st (fun wt wk => XS.icmpYes X0.here hx rfl (pc0 := 5) (pc' := 22) rfl (hb hby d9_5) rfl (tlt s0).1 (by decide) (by decide) wk) ?_
      show Fin1 p e below s (rmXQ Z nn xa xb xc xi h0 n0) ({ frames := 0, cells := 0, slots := 0, locals := 0 } : Room).cells ({ frames := 0, cells := 0, slots := 0, locals := 0 } : Room).slots (T0.setTop (mkF m 22 #[.val (.int nn), .val (.int xa), .val (.int xb), .val (.int xc), .val (.int xi), .val (.long (0 : Int64)), .second] []))
      exact K22 _ (by simp [s0])
    · refine own_st (fun wt wk => XS.icmpNo X0.here hx rfl (hb hby d9_5) rfl (flt s0).1 wk) ?_
      show Fin1 p e below s (rmXQ Z nn xa xb xc xi h0 n0) ({ frames := 0, cells := 0, slots := 0, locals := 0 } : Room).cells ({ frames := 0, cells := 0, slots := 0, locals := 0 } : Room).slots (T0.setTop (mkF m 8 #[.val (.int nn), .val (.int xa), .val (.int xb), .val (.int xc), .val (.int xi), .val (.long (0 : Int64)), .second] []))
      refine own_st (fun wt wk => XS.iloadN X0.here hx rfl (hb hby d9_8) rfl wk) ?_
      show Fin1 p e below s (rmXQ Z nn xa xb xc xi h0 n0) ({ frames := 0, cells := 0, slots := 0, locals := 0 } : Room).cells ({ frames := 0, cells := 0, slots := 0, locals := 0 } : Room).slots (T0.setTop (mkF m 9 #[.val (.int nn), .val (.int xa), .val (.int xb), .val (.int xc), .val (.int xi), .val (.long (0 : Int64)), .second] [(.int xa)]))
      refine own_st (fun wt wk => XS.iconst X0.here hx rfl (hb hby d9_9) wk) ?_
      show Fin1 p e below s (rmXQ Z nn xa xb xc xi h0 n0) ({ frames := 0, cells := 0, slots := 0, locals := 0 } : Room).cells ({ frames := 0, cells := 0, slots := 0, locals := 0 } : Room).slots (T0.setTop (mkF m 10 #[.val (.int nn), .val (.int xa), .val (.int xb), .val (.int xc), .val (.int xi), .val (.long (0 : Int64)), .second] [(.int (3 : Int32)), (.int xa)]))
      refine own_st (fun wt wk => XS.iand X0.here hx rfl (hb hby d9_10) rfl wk) ?_
      show Fin1 p e below s (rmXQ Z nn xa xb xc xi h0 n0) ({ frames := 0, cells := 0, slots := 0, locals := 0 } : Room).cells ({ frames := 0, cells := 0, slots := 0, locals := 0 } : Room).slots (T0.setTop (mkF m 11 #[.val (.int nn), .val (.int xa), .val (.int xb), .val (.int xc), .val (.int xi), .val (.long (0 : Int64)), .second] [(.int (xa &&& (3 : Int32)))]))
      refine own_st (fun wt wk => XS.iload X0.here hx rfl (hb hby d9_11) rfl wk) ?_
      show Fin1 p e below s (rmXQ Z nn xa xb xc xi h0 n0) ({ frames := 0, cells := 0, slots := 0, locals := 0 } : Room).cells ({ frames := 0, cells := 0, slots := 0, locals := 0 } : Room).slots (T0.setTop (mkF m 13 #[.val (.int nn), .val (.int xa), .val (.int xb), .val (.int xc), .val (.int xi), .val (.long (0 : Int64)), .second] [(.int xi), (.int (xa &&& (3 : Int32)))]))
      by_cases u0 : (xa &&& (3 : Int32)) = xi
      · refine own_st (fun wt wk => XS.icmpNo X0.here hx rfl (hb hby d9_13) rfl (teq u0).2 wk) ?_
        show Fin1 p e below s (rmXQ Z nn xa xb xc xi h0 n0) ({ frames := 0, cells := 0, slots := 0, locals := 0 } : Room).cells ({ frames := 0, cells := 0, slots := 0, locals := 0 } : Room).slots (T0.setTop (mkF m 16 #[.val (.int nn), .val (.int xa), .val (.int xb), .val (.int xc), .val (.int xi), .val (.long (0 : Int64)), .second] []))
        refine own_st (fun wt wk => XS.lload X0.here hx rfl (hb hby d9_16) rfl wk) ?_
        show Fin1 p e below s (rmXQ Z nn xa xb xc xi h0 n0) ({ frames := 0, cells := 0, slots := 0, locals := 0 } : Room).cells ({ frames := 0, cells := 0, slots := 0, locals := 0 } : Room).slots (T0.setTop (mkF m 18 #[.val (.int nn), .val (.int xa), .val (.int xb), .val (.int xc), .val (.int xi), .val (.long (0 : Int64)), .second] [(.long (0 : Int64))]))
        refine own_st (fun wt wk => XS.lconst X0.here hx rfl (hb hby d9_18) wk) ?_
        show Fin1 p e below s (rmXQ Z nn xa xb xc xi h0 n0) ({ frames := 0, cells := 0, slots := 0, locals := 0 } : Room).cells ({ frames := 0, cells := 0, slots := 0, locals := 0 } : Room).slots (T0.setTop (mkF m 19 #[.val (.int nn), .val (.int xa), .val (.int xb), .val (.int xc), .val (.int xi), .val (.long (0 : Int64)), .second] [(.long (1 : Int64)), (.long (0 : Int64))]))
        refine own_st (fun wt wk => XS.ladd X0.here hx rfl (hb hby d9_19) rfl wk) ?_
        show Fin1 p e below s (rmXQ Z nn xa xb xc xi h0 n0) ({ frames := 0, cells := 0, slots := 0, locals := 0 } : Room).cells ({ frames := 0, cells := 0, slots := 0, locals := 0 } : Room).slots (T0.setTop (mkF m 20 #[.val (.int nn), .val (.int xa), .val (.int xb), .val (.int xc), .val (.int xi), .val (.long (0 : Int64)), .second] [(.long ((0 : Int64) + (1 : Int64)))]))
        refine own_st (fun wt wk => XS.lstore X0.here hx rfl (hb hby d9_20) rfl (l' := #[.val (.int nn), .val (.int xa), .val (.int xb), .val (.int xc), .val (.int xi), .val (.long ((0 : Int64) + (1 : Int64))), .second]) rfl wk) ?_
        show Fin1 p e below s (rmXQ Z nn xa xb xc xi h0 n0) ({ frames := 0, cells := 0, slots := 0, locals := 0 } : Room).cells ({ frames := 0, cells := 0, slots := 0, locals := 0 } : Room).slots (T0.setTop (mkF m 22 #[.val (.int nn), .val (.int xa), .val (.int xb), .val (.int xc), .val (.int xi), .val (.long ((0 : Int64) + (1 : Int64))), .second] []))
        exact K22 _ (by simp [s0, u0])
      · refine own_st (fun wt wk => XS.icmpYes X0.here hx rfl (pc0 := 13) (pc' := 22) rfl (hb hby d9_13) rfl (feq u0).2 (by decide) (by decide) wk) ?_
        show Fin1 p e below s (rmXQ Z nn xa xb xc xi h0 n0) ({ frames := 0, cells := 0, slots := 0, locals := 0 } : Room).cells ({ frames := 0, cells := 0, slots := 0, locals := 0 } : Room).slots (T0.setTop (mkF m 22 #[.val (.int nn), .val (.int xa), .val (.int xb), .val (.int xc), .val (.int xi), .val (.long (0 : Int64)), .second] []))
        exact K22 _ (by simp [s0, u0])
  intro e1 he1
  suffices K41 : ∀ (e2 : Int64), (e2 = if nn < (2 : Int32) then e1 else if (xb &&& (3 : Int32)) = xi then e1 + (1 : Int64) else e1) → Fin1 p e below s (rmXQ Z nn xa xb xc xi h0 n0) ({ frames := 0, cells := 0, slots := 0, locals := 0 } : Room).cells ({ frames := 0, cells := 0, slots := 0, locals := 0 } : Room).slots (T0.setTop (mkF m 41 #[.val (.int nn), .val (.int xa), .val (.int xb), .val (.int xc), .val (.int xi), .val (.long e2), .second] [])) by
    refine own_st (fun wt wk => XS.iloadN X0.here hx rfl (hb hby d9_22) rfl wk) ?_
    show Fin1 p e below s (rmXQ Z nn xa xb xc xi h0 n0) ({ frames := 0, cells := 0, slots := 0, locals := 0 } : Room).cells ({ frames := 0, cells := 0, slots := 0, locals := 0 } : Room).slots (T0.setTop (mkF m 23 #[.val (.int nn), .val (.int xa), .val (.int xb), .val (.int xc), .val (.int xi), .val (.long e1), .second] [(.int nn)]))
    refine own_st (fun wt wk => XS.iconst X0.here hx rfl (hb hby d9_23) wk) ?_
    show Fin1 p e below s (rmXQ Z nn xa xb xc xi h0 n0) ({ frames := 0, cells := 0, slots := 0, locals := 0 } : Room).cells ({ frames := 0, cells := 0, slots := 0, locals := 0 } : Room).slots (T0.setTop (mkF m 24 #[.val (.int nn), .val (.int xa), .val (.int xb), .val (.int xc), .val (.int xi), .val (.long e1), .second] [(.int (2 : Int32)), (.int nn)]))
    by_cases s1 : nn < (2 : Int32)
    · refine own_st (fun wt wk => XS.icmpYes X0.here hx rfl (pc0 := 24) (pc' := 41) rfl (hb hby d9_24) rfl (tlt s1).1 (by decide) (by decide) wk) ?_
      show Fin1 p e below s (rmXQ Z nn xa xb xc xi h0 n0) ({ frames := 0, cells := 0, slots := 0, locals := 0 } : Room).cells ({ frames := 0, cells := 0, slots := 0, locals := 0 } : Room).slots (T0.setTop (mkF m 41 #[.val (.int nn), .val (.int xa), .val (.int xb), .val (.int xc), .val (.int xi), .val (.long e1), .second] []))
      exact K41 _ (by simp [s1])
    · refine own_st (fun wt wk => XS.icmpNo X0.here hx rfl (hb hby d9_24) rfl (flt s1).1 wk) ?_
      show Fin1 p e below s (rmXQ Z nn xa xb xc xi h0 n0) ({ frames := 0, cells := 0, slots := 0, locals := 0 } : Room).cells ({ frames := 0, cells := 0, slots := 0, locals := 0 } : Room).slots (T0.setTop (mkF m 27 #[.val (.int nn), .val (.int xa), .val (.int xb), .val (.int xc), .val (.int xi), .val (.long e1), .second] []))
      refine own_st (fun wt wk => XS.iloadN X0.here hx rfl (hb hby d9_27) rfl wk) ?_
      show Fin1 p e below s (rmXQ Z nn xa xb xc xi h0 n0) ({ frames := 0, cells := 0, slots := 0, locals := 0 } : Room).cells ({ frames := 0, cells := 0, slots := 0, locals := 0 } : Room).slots (T0.setTop (mkF m 28 #[.val (.int nn), .val (.int xa), .val (.int xb), .val (.int xc), .val (.int xi), .val (.long e1), .second] [(.int xb)]))
      refine own_st (fun wt wk => XS.iconst X0.here hx rfl (hb hby d9_28) wk) ?_
      show Fin1 p e below s (rmXQ Z nn xa xb xc xi h0 n0) ({ frames := 0, cells := 0, slots := 0, locals := 0 } : Room).cells ({ frames := 0, cells := 0, slots := 0, locals := 0 } : Room).slots (T0.setTop (mkF m 29 #[.val (.int nn), .val (.int xa), .val (.int xb), .val (.int xc), .val (.int xi), .val (.long e1), .second] [(.int (3 : Int32)), (.int xb)]))
      refine own_st (fun wt wk => XS.iand X0.here hx rfl (hb hby d9_29) rfl wk) ?_
      show Fin1 p e below s (rmXQ Z nn xa xb xc xi h0 n0) ({ frames := 0, cells := 0, slots := 0, locals := 0 } : Room).cells ({ frames := 0, cells := 0, slots := 0, locals := 0 } : Room).slots (T0.setTop (mkF m 30 #[.val (.int nn), .val (.int xa), .val (.int xb), .val (.int xc), .val (.int xi), .val (.long e1), .second] [(.int (xb &&& (3 : Int32)))]))
      refine own_st (fun wt wk => XS.iload X0.here hx rfl (hb hby d9_30) rfl wk) ?_
      show Fin1 p e below s (rmXQ Z nn xa xb xc xi h0 n0) ({ frames := 0, cells := 0, slots := 0, locals := 0 } : Room).cells ({ frames := 0, cells := 0, slots := 0, locals := 0 } : Room).slots (T0.setTop (mkF m 32 #[.val (.int nn), .val (.int xa), .val (.int xb), .val (.int xc), .val (.int xi), .val (.long e1), .second] [(.int xi), (.int (xb &&& (3 : Int32)))]))
      by_cases u1 : (xb &&& (3 : Int32)) = xi
      · refine own_st (fun wt wk => XS.icmpNo X0.here hx rfl (hb hby d9_32) rfl (teq u1).2 wk) ?_
        show Fin1 p e below s (rmXQ Z nn xa xb xc xi h0 n0) ({ frames := 0, cells := 0, slots := 0, locals := 0 } : Room).cells ({ frames := 0, cells := 0, slots := 0, locals := 0 } : Room).slots (T0.setTop (mkF m 35 #[.val (.int nn), .val (.int xa), .val (.int xb), .val (.int xc), .val (.int xi), .val (.long e1), .second] []))
        refine own_st (fun wt wk => XS.lload X0.here hx rfl (hb hby d9_35) rfl wk) ?_
        show Fin1 p e below s (rmXQ Z nn xa xb xc xi h0 n0) ({ frames := 0, cells := 0, slots := 0, locals := 0 } : Room).cells ({ frames := 0, cells := 0, slots := 0, locals := 0 } : Room).slots (T0.setTop (mkF m 37 #[.val (.int nn), .val (.int xa), .val (.int xb), .val (.int xc), .val (.int xi), .val (.long e1), .second] [(.long e1)]))
        refine own_st (fun wt wk => XS.lconst X0.here hx rfl (hb hby d9_37) wk) ?_
        show Fin1 p e below s (rmXQ Z nn xa xb xc xi h0 n0) ({ frames := 0, cells := 0, slots := 0, locals := 0 } : Room).cells ({ frames := 0, cells := 0, slots := 0, locals := 0 } : Room).slots (T0.setTop (mkF m 38 #[.val (.int nn), .val (.int xa), .val (.int xb), .val (.int xc), .val (.int xi), .val (.long e1), .second] [(.long (1 : Int64)), (.long e1)]))
        refine own_st (fun wt wk => XS.ladd X0.here hx rfl (hb hby d9_38) rfl wk) ?_
        show Fin1 p e below s (rmXQ Z nn xa xb xc xi h0 n0) ({ frames := 0, cells := 0, slots := 0, locals := 0 } : Room).cells ({ frames := 0, cells := 0, slots := 0, locals := 0 } : Room).slots (T0.setTop (mkF m 39 #[.val (.int nn), .val (.int xa), .val (.int xb), .val (.int xc), .val (.int xi), .val (.long e1), .second] [(.long (e1 + (1 : Int64)))]))
        refine own_st (fun wt wk => XS.lstore X0.here hx rfl (hb hby d9_39) rfl (l' := #[.val (.int nn), .val (.int xa), .val (.int xb), .val (.int xc), .val (.int xi), .val (.long (e1 + (1 : Int64))), .second]) rfl wk) ?_
        show Fin1 p e below s (rmXQ Z nn xa xb xc xi h0 n0) ({ frames := 0, cells := 0, slots := 0, locals := 0 } : Room).cells ({ frames := 0, cells := 0, slots := 0, locals := 0 } : Room).slots (T0.setTop (mkF m 41 #[.val (.int nn), .val (.int xa), .val (.int xb), .val (.int xc), .val (.int xi), .val (.long (e1 + (1 : Int64))), .second] []))
        exact K41 _ (by simp [s1, u1])
      · refine own_st (fun wt wk => XS.icmpYes X0.here hx rfl (pc0 := 32) (pc' := 41) rfl (hb hby d9_32) rfl (feq u1).2 (by decide) (by decide) wk) ?_
        show Fin1 p e below s (rmXQ Z nn xa xb xc xi h0 n0) ({ frames := 0, cells := 0, slots := 0, locals := 0 } : Room).cells ({ frames := 0, cells := 0, slots := 0, locals := 0 } : Room).slots (T0.setTop (mkF m 41 #[.val (.int nn), .val (.int xa), .val (.int xb), .val (.int xc), .val (.int xi), .val (.long e1), .second] []))
        exact K41 _ (by simp [s1, u1])
  intro e2 he2
  suffices K60 : ∀ (e3 : Int64), (e3 = if nn < (3 : Int32) then e2 else if (xc &&& (3 : Int32)) = xi then e2 + (1 : Int64) else e2) → Fin1 p e below s (rmXQ Z nn xa xb xc xi h0 n0) ({ frames := 0, cells := 0, slots := 0, locals := 0 } : Room).cells ({ frames := 0, cells := 0, slots := 0, locals := 0 } : Room).slots (T0.setTop (mkF m 60 #[.val (.int nn), .val (.int xa), .val (.int xb), .val (.int xc), .val (.int xi), .val (.long e3), .second] [])) by
    refine own_st (fun wt wk => XS.iloadN X0.here hx rfl (hb hby d9_41) rfl wk) ?_
    show Fin1 p e below s (rmXQ Z nn xa xb xc xi h0 n0) ({ frames := 0, cells := 0, slots := 0, locals := 0 } : Room).cells ({ frames := 0, cells := 0, slots := 0, locals := 0 } : Room).slots (T0.setTop (mkF m 42 #[.val (.int nn), .val (.int xa), .val (.int xb), .val (.int xc), .val (.int xi), .val (.long e2), .second] [(.int nn)]))
    refine own_st (fun wt wk => XS.iconst X0.here hx rfl (hb hby d9_42) wk) ?_
    show Fin1 p e below s (rmXQ Z nn xa xb xc xi h0 n0) ({ frames := 0, cells := 0, slots := 0, locals := 0 } : Room).cells ({ frames := 0, cells := 0, slots := 0, locals := 0 } : Room).slots (T0.setTop (mkF m 43 #[.val (.int nn), .val (.int xa), .val (.int xb), .val (.int xc), .val (.int xi), .val (.long e2), .second] [(.int (3 : Int32)), (.int nn)]))
    by_cases s2 : nn < (3 : Int32)
    · refine own_st (fun wt wk => XS.icmpYes X0.here hx rfl (pc0 := 43) (pc' := 60) rfl (hb hby d9_43) rfl (tlt s2).1 (by decide) (by decide) wk) ?_
      show Fin1 p e below s (rmXQ Z nn xa xb xc xi h0 n0) ({ frames := 0, cells := 0, slots := 0, locals := 0 } : Room).cells ({ frames := 0, cells := 0, slots := 0, locals := 0 } : Room).slots (T0.setTop (mkF m 60 #[.val (.int nn), .val (.int xa), .val (.int xb), .val (.int xc), .val (.int xi), .val (.long e2), .second] []))
      exact K60 _ (by simp [s2])
    · refine own_st (fun wt wk => XS.icmpNo X0.here hx rfl (hb hby d9_43) rfl (flt s2).1 wk) ?_
      show Fin1 p e below s (rmXQ Z nn xa xb xc xi h0 n0) ({ frames := 0, cells := 0, slots := 0, locals := 0 } : Room).cells ({ frames := 0, cells := 0, slots := 0, locals := 0 } : Room).slots (T0.setTop (mkF m 46 #[.val (.int nn), .val (.int xa), .val (.int xb), .val (.int xc), .val (.int xi), .val (.long e2), .second] []))
      refine own_st (fun wt wk => XS.iloadN X0.here hx rfl (hb hby d9_46) rfl wk) ?_
      show Fin1 p e below s (rmXQ Z nn xa xb xc xi h0 n0) ({ frames := 0, cells := 0, slots := 0, locals := 0 } : Room).cells ({ frames := 0, cells := 0, slots := 0, locals := 0 } : Room).slots (T0.setTop (mkF m 47 #[.val (.int nn), .val (.int xa), .val (.int xb), .val (.int xc), .val (.int xi), .val (.long e2), .second] [(.int xc)]))
      refine own_st (fun wt wk => XS.iconst X0.here hx rfl (hb hby d9_47) wk) ?_
      show Fin1 p e below s (rmXQ Z nn xa xb xc xi h0 n0) ({ frames := 0, cells := 0, slots := 0, locals := 0 } : Room).cells ({ frames := 0, cells := 0, slots := 0, locals := 0 } : Room).slots (T0.setTop (mkF m 48 #[.val (.int nn), .val (.int xa), .val (.int xb), .val (.int xc), .val (.int xi), .val (.long e2), .second] [(.int (3 : Int32)), (.int xc)]))
      refine own_st (fun wt wk => XS.iand X0.here hx rfl (hb hby d9_48) rfl wk) ?_
      show Fin1 p e below s (rmXQ Z nn xa xb xc xi h0 n0) ({ frames := 0, cells := 0, slots := 0, locals := 0 } : Room).cells ({ frames := 0, cells := 0, slots := 0, locals := 0 } : Room).slots (T0.setTop (mkF m 49 #[.val (.int nn), .val (.int xa), .val (.int xb), .val (.int xc), .val (.int xi), .val (.long e2), .second] [(.int (xc &&& (3 : Int32)))]))
      refine own_st (fun wt wk => XS.iload X0.here hx rfl (hb hby d9_49) rfl wk) ?_
      show Fin1 p e below s (rmXQ Z nn xa xb xc xi h0 n0) ({ frames := 0, cells := 0, slots := 0, locals := 0 } : Room).cells ({ frames := 0, cells := 0, slots := 0, locals := 0 } : Room).slots (T0.setTop (mkF m 51 #[.val (.int nn), .val (.int xa), .val (.int xb), .val (.int xc), .val (.int xi), .val (.long e2), .second] [(.int xi), (.int (xc &&& (3 : Int32)))]))
      by_cases u2 : (xc &&& (3 : Int32)) = xi
      · refine own_st (fun wt wk => XS.icmpNo X0.here hx rfl (hb hby d9_51) rfl (teq u2).2 wk) ?_
        show Fin1 p e below s (rmXQ Z nn xa xb xc xi h0 n0) ({ frames := 0, cells := 0, slots := 0, locals := 0 } : Room).cells ({ frames := 0, cells := 0, slots := 0, locals := 0 } : Room).slots (T0.setTop (mkF m 54 #[.val (.int nn), .val (.int xa), .val (.int xb), .val (.int xc), .val (.int xi), .val (.long e2), .second] []))
        refine own_st (fun wt wk => XS.lload X0.here hx rfl (hb hby d9_54) rfl wk) ?_
        show Fin1 p e below s (rmXQ Z nn xa xb xc xi h0 n0) ({ frames := 0, cells := 0, slots := 0, locals := 0 } : Room).cells ({ frames := 0, cells := 0, slots := 0, locals := 0 } : Room).slots (T0.setTop (mkF m 56 #[.val (.int nn), .val (.int xa), .val (.int xb), .val (.int xc), .val (.int xi), .val (.long e2), .second] [(.long e2)]))
        refine own_st (fun wt wk => XS.lconst X0.here hx rfl (hb hby d9_56) wk) ?_
        show Fin1 p e below s (rmXQ Z nn xa xb xc xi h0 n0) ({ frames := 0, cells := 0, slots := 0, locals := 0 } : Room).cells ({ frames := 0, cells := 0, slots := 0, locals := 0 } : Room).slots (T0.setTop (mkF m 57 #[.val (.int nn), .val (.int xa), .val (.int xb), .val (.int xc), .val (.int xi), .val (.long e2), .second] [(.long (1 : Int64)), (.long e2)]))
        refine own_st (fun wt wk => XS.ladd X0.here hx rfl (hb hby d9_57) rfl wk) ?_
        show Fin1 p e below s (rmXQ Z nn xa xb xc xi h0 n0) ({ frames := 0, cells := 0, slots := 0, locals := 0 } : Room).cells ({ frames := 0, cells := 0, slots := 0, locals := 0 } : Room).slots (T0.setTop (mkF m 58 #[.val (.int nn), .val (.int xa), .val (.int xb), .val (.int xc), .val (.int xi), .val (.long e2), .second] [(.long (e2 + (1 : Int64)))]))
        refine own_st (fun wt wk => XS.lstore X0.here hx rfl (hb hby d9_58) rfl (l' := #[.val (.int nn), .val (.int xa), .val (.int xb), .val (.int xc), .val (.int xi), .val (.long (e2 + (1 : Int64))), .second]) rfl wk) ?_
        show Fin1 p e below s (rmXQ Z nn xa xb xc xi h0 n0) ({ frames := 0, cells := 0, slots := 0, locals := 0 } : Room).cells ({ frames := 0, cells := 0, slots := 0, locals := 0 } : Room).slots (T0.setTop (mkF m 60 #[.val (.int nn), .val (.int xa), .val (.int xb), .val (.int xc), .val (.int xi), .val (.long (e2 + (1 : Int64))), .second] []))
        exact K60 _ (by simp [s2, u2])
      · refine own_st (fun wt wk => XS.icmpYes X0.here hx rfl (pc0 := 51) (pc' := 60) rfl (hb hby d9_51) rfl (feq u2).2 (by decide) (by decide) wk) ?_
        show Fin1 p e below s (rmXQ Z nn xa xb xc xi h0 n0) ({ frames := 0, cells := 0, slots := 0, locals := 0 } : Room).cells ({ frames := 0, cells := 0, slots := 0, locals := 0 } : Room).slots (T0.setTop (mkF m 60 #[.val (.int nn), .val (.int xa), .val (.int xb), .val (.int xc), .val (.int xi), .val (.long e2), .second] []))
        exact K60 _ (by simp [s2, u2])
  intro e3 he3
  refine own_st (fun wt wk => XS.lload X0.here hx rfl (hb hby d9_60) rfl wk) ?_
  show Fin1 p e below s (rmXQ Z nn xa xb xc xi h0 n0) ({ frames := 0, cells := 0, slots := 0, locals := 0 } : Room).cells ({ frames := 0, cells := 0, slots := 0, locals := 0 } : Room).slots (T0.setTop (mkF m 62 #[.val (.int nn), .val (.int xa), .val (.int xb), .val (.int xc), .val (.int xi), .val (.long e3), .second] [(.long e3)]))
  exact own_retJ X0 hx hlk hret (hb hby d9_62) (by rw [e0]; exact ⟨(by rw [he3, he2, he1]; rfl), N0, rfl⟩) (by decide) (by decide)
theorem pd_8 : parseMethodDescriptor "()V" = some ⟨[], none⟩ := by decide +kernel
theorem own_same0 (a0 a1 a2 i : Int32) : (0 : Int64) = own_exp (0 : Int32) a0 a1 a2 i := by
  simp only [own_exp, own_hit]
  by_cases q0 : (a0 &&& (3 : Int32)) = i <;> by_cases q1 : (a1 &&& (3 : Int32)) = i <;> by_cases q2 : (a2 &&& (3 : Int32)) = i <;> simp [q0, q1, q2]
theorem own_same1 (a0 a1 a2 i : Int32) : ((0 : Int64) + own_hit i (a0 &&& (3 : Int32))) = own_exp (1 : Int32) a0 a1 a2 i := by
  simp only [own_exp, own_hit]
  by_cases q0 : (a0 &&& (3 : Int32)) = i <;> by_cases q1 : (a1 &&& (3 : Int32)) = i <;> by_cases q2 : (a2 &&& (3 : Int32)) = i <;> simp [q0, q1, q2]
theorem own_same2 (a0 a1 a2 i : Int32) : (((0 : Int64) + own_hit i (a0 &&& (3 : Int32))) + own_hit i (a1 &&& (3 : Int32))) = own_exp (2 : Int32) a0 a1 a2 i := by
  simp only [own_exp, own_hit]
  by_cases q0 : (a0 &&& (3 : Int32)) = i <;> by_cases q1 : (a1 &&& (3 : Int32)) = i <;> by_cases q2 : (a2 &&& (3 : Int32)) = i <;> simp [q0, q1, q2]
theorem own_same3 (a0 a1 a2 i : Int32) : ((((0 : Int64) + own_hit i (a0 &&& (3 : Int32))) + own_hit i (a1 &&& (3 : Int32))) + own_hit i (a2 &&& (3 : Int32))) = own_exp (3 : Int32) a0 a1 a2 i := by
  simp only [own_exp, own_hit]
  by_cases q0 : (a0 &&& (3 : Int32)) = i <;> by_cases q1 : (a1 &&& (3 : Int32)) = i <;> by_cases q2 : (a2 &&& (3 : Int32)) = i <;> simp [q0, q1, q2]
theorem pd_9 : parseMethodDescriptor "(Lcom/example/electd/electd/io/Rejection;)J" = some ⟨[(.object "com/example/electd/electd/io/Rejection")], some .long⟩ := by decide +kernel
theorem pd_10 : parseMethodDescriptor "(IIIII)J" = some ⟨[.int, .int, .int, .int, .int], some .long⟩ := by decide +kernel
theorem pd_11 : parseMethodDescriptor "(I)Lcom/example/electd/electd/model/MessageKind;" = some ⟨[.int], some (.object "com/example/electd/electd/model/MessageKind")⟩ := by decide +kernel
theorem pd_12 : parseMethodDescriptor "(Lcom/example/electd/electd/model/MessageKind;)J" = some ⟨[(.object "com/example/electd/electd/model/MessageKind")], some .long⟩ := by decide +kernel
theorem pd_13 : parseMethodDescriptor "(I)Lcom/example/electd/electd/io/Rejection;" = some ⟨[.int], some (.object "com/example/electd/electd/io/Rejection")⟩ := by decide +kernel
theorem pd_14 : parseMethodDescriptor "(Lcom/example/electd/electd/io/Rejection;)V" = some ⟨[(.object "com/example/electd/electd/io/Rejection")], none⟩ := by decide +kernel
def rm0Q (Z : State) (i0 : Int32) (i1 : Int32) (i2 : Int32) (i3 : Int32) (i4 : Int32) (vaM : Addr) (xM0 : Addr) (xM1 : Addr) (xM2 : Addr) (xM3 : Addr) (vcM : Cell) (vaJ : Addr) (xJ0 : Addr) (xJ1 : Addr) (xJ2 : Addr) (xJ3 : Addr) (vcJ : Cell) (h0 : Heap) (n0 : Nat) (v : Option Value) (h : Heap) (L : List Loc) : Prop := v = some (.int (1 : Int32)) ∧ Fr n0 L
set_option maxRecDepth 65536 in
set_option maxHeartbeats 40000000 in
theorem rm0 (l : Launch) (Z : State) (a0 : Array Value) (hw : ∀ d ∈ tables_1, d.before a0 Z = true) (i0 : Int32) (i1 : Int32) (i2 : Int32) (i3 : Int32) (i4 : Int32) (vaM : Addr) (xM0 : Addr) (xM1 : Addr) (xM2 : Addr) (xM3 : Addr) (vcM : Cell) (vaJ : Addr) (xJ0 : Addr) (xJ1 : Addr) (xJ2 : Addr) (xJ3 : Addr) (vcJ : Cell) (h0 : Heap) (n0 : Nat) (Z0 : n0 ≤ h0.size) (O : Old Z n0 h0) (EM : own_M Z vaM xM0 xM1 xM2 xM3 vcM) (EJ : own_J Z vaJ xJ0 xJ1 xJ2 xJ3 vcJ) :
    Ct l Z tables_1 x code maxLocals ret room_1 #[(.int i0), (.int i1), (.int i2), (.int i3), (.int i4)] h0 (rm0Q Z i0 i1 i2 i3 i4 vaM xM0 xM1 xM2 xM3 vcM vaJ xJ0 xJ1 xJ2 xJ3 vcJ h0 n0) := by
  refine own_enter (plainFor_of_name pn_7) ?_
  intro p e s m below meth c T0 X0 hx hby hml hZ hown hnm hret hlk e0
  have hown : s.vm.findClass "com/example/electd/electd/service/DatagramCountsRejectedPinLaw" = some m.cls := hown
  have N0 := Fr.nil n0
  have K0 := Keep.refl h0 []
  refine own_st (fun wt wk => castTop (g' := mkF m 0 #[.val (.int i0), .val (.int i1), .val (.int i2), .val (.int i3), .val (.int i4), .unset, .unset, .unset, .unset] []) (by first | (simp [entryFrame, mkF, argsToLocals, Value.category, maxLocals]; done) | rfl) wk) ?_
  show Fin1 p e below s (rm0Q Z i0 i1 i2 i3 i4 vaM xM0 xM1 xM2 xM3 vcM vaJ xJ0 xJ1 xJ2 xJ3 vcJ h0 n0) room_1.cells room_1.slots (T0.setTop (mkF m 0 #[.val (.int i0), .val (.int i1), .val (.int i2), .val (.int i3), .val (.int i4), .unset, .unset, .unset, .unset] []))
  refine own_st (fun wt wk => XS.iloadN X0.here hx rfl (hb hby at_0) rfl wk) ?_
  show Fin1 p e below s (rm0Q Z i0 i1 i2 i3 i4 vaM xM0 xM1 xM2 xM3 vcM vaJ xJ0 xJ1 xJ2 xJ3 vcJ h0 n0) room_1.cells room_1.slots (T0.setTop (mkF m 1 #[.val (.int i0), .val (.int i1), .val (.int i2), .val (.int i3), .val (.int i4), .unset, .unset, .unset, .unset] [(.int i3)]))
  refine own_st (fun wt wk => XS.iconst X0.here hx rfl (hb hby at_1) wk) ?_
  show Fin1 p e below s (rm0Q Z i0 i1 i2 i3 i4 vaM xM0 xM1 xM2 xM3 vcM vaJ xJ0 xJ1 xJ2 xJ3 vcJ h0 n0) room_1.cells room_1.slots (T0.setTop (mkF m 2 #[.val (.int i0), .val (.int i1), .val (.int i2), .val (.int i3), .val (.int i4), .unset, .unset, .unset, .unset] [(.int (3 : Int32)), (.int i3)]))
  refine own_st (fun wt wk => XS.iand X0.here hx rfl (hb hby at_2) rfl wk) ?_
  show Fin1 p e below s (rm0Q Z i0 i1 i2 i3 i4 vaM xM0 xM1 xM2 xM3 vcM vaJ xJ0 xJ1 xJ2 xJ3 vcJ h0 n0) room_1.cells room_1.slots (T0.setTop (mkF m 3 #[.val (.int i0), .val (.int i1), .val (.int i2), .val (.int i3), .val (.int i4), .unset, .unset, .unset, .unset] [(.int (i3 &&& (3 : Int32)))]))
  suffices K3 : ∀ (k5 : Int32), (k5 = 0 ∨ k5 = 1 ∨ k5 = 2 ∨ k5 = 3) → Fin1 p e below s (rm0Q Z i0 i1 i2 i3 i4 vaM xM0 xM1 xM2 xM3 vcM vaJ xJ0 xJ1 xJ2 xJ3 vcJ h0 n0) room_1.cells room_1.slots (T0.setTop (mkF m 3 #[.val (.int i0), .val (.int i1), .val (.int i2), .val (.int i3), .val (.int i4), .unset, .unset, .unset, .unset] [(.int k5)])) by
    exact K3 _ (own_four _ (own_rng _))
  intro k5 hk5
  refine own_st (fun wt wk => XS.istore X0.here hx rfl (hb hby at_3) rfl (l' := #[.val (.int i0), .val (.int i1), .val (.int i2), .val (.int i3), .val (.int i4), .val (.int k5), .unset, .unset, .unset]) rfl wk) ?_
  show Fin1 p e below s (rm0Q Z i0 i1 i2 i3 i4 vaM xM0 xM1 xM2 xM3 vcM vaJ xJ0 xJ1 xJ2 xJ3 vcJ h0 n0) room_1.cells room_1.slots (T0.setTop (mkF m 5 #[.val (.int i0), .val (.int i1), .val (.int i2), .val (.int i3), .val (.int i4), .val (.int k5), .unset, .unset, .unset] []))
  obtain ⟨T1, h1, X1, e1, E1, A1, D1, -, st1⟩ := newO X0 hx hZ hown (hw _ (List.mem_of_getElem? (i := 0) rfl)) (hw _ (List.mem_of_getElem? (i := 1) rfl)) (hw _ (List.mem_of_getElem? (i := 2) rfl)) e0 (g := (mkF m 5 #[.val (.int i0), .val (.int i1), .val (.int i2), .val (.int i3), .val (.int i4), .val (.int k5), .unset, .unset, .unset] [])) rfl (hb hby at_5) (by decide) (by decide)
  obtain ⟨b1, gz_b1⟩ : ∃ z, z = h0.size := ⟨_, rfl⟩
  rw [← gz_b1] at A1 D1 st1
  have g_b1 : n0 ≤ b1 := Nat.le_trans Z0 (Nat.le_of_eq gz_b1.symm)
  have Z0 := Nat.le_trans Z0 E1.1
  have O := O.ext E1
  refine own_st st1 ?_
  have E_b1 := A1
  have F_sent_b1 : Fld Z h1 b1 "com/example/electd/electd/service/DatagramCounts" "sent" "[J" .null := D1 (Or.inr (hw _ (List.mem_of_getElem? (i := 31) rfl))) (ty := (.array .long)) (by decide)
  have F_received_b1 : Fld Z h1 b1 "com/example/electd/electd/service/DatagramCounts" "received" "[J" .null := D1 (Or.inr (hw _ (List.mem_of_getElem? (i := 33) rfl))) (ty := (.array .long)) (by decide)
  have F_rejected_b1 : Fld Z h1 b1 "com/example/electd/electd/service/DatagramCounts" "rejected" "[J" .null := D1 (Or.inr (hw _ (List.mem_of_getElem? (i := 52) rfl))) (ty := (.array .long)) (by decide)
  show Fin1 p e below s (rm0Q Z i0 i1 i2 i3 i4 vaM xM0 xM1 xM2 xM3 vcM vaJ xJ0 xJ1 xJ2 xJ3 vcJ h0 n0) room_1.cells room_1.slots (T1.setTop (mkF m 8 #[.val (.int i0), .val (.int i1), .val (.int i2), .val (.int i3), .val (.int i4), .val (.int k5), .unset, .unset, .unset] [(.ref b1)]))
  refine own_st (fun wt wk => XS.dup X1.here hx rfl (hb hby at_8) rfl rfl wk) ?_
  show Fin1 p e below s (rm0Q Z i0 i1 i2 i3 i4 vaM xM0 xM1 xM2 xM3 vcM vaJ xJ0 xJ1 xJ2 xJ3 vcJ h0 n0) room_1.cells room_1.slots (T1.setTop (mkF m 9 #[.val (.int i0), .val (.int i1), .val (.int i2), .val (.int i3), .val (.int i4), .val (.int k5), .unset, .unset, .unset] [(.ref b1), (.ref b1)]))
  obtain ⟨v2, T2, h2, L2, X2, e2, hQ2, st2⟩ := own_special X1 hx hZ hown rfl (hw _ (List.mem_of_getElem? (i := 3) rfl)) (hw _ (List.mem_of_getElem? (i := 4) rfl)) (hw _ (List.mem_of_getElem? (i := 5) rfl)) (hw _ (List.mem_of_getElem? (i := 2) rfl)) (by decide) (a := b1) (rmC l Z a0 hw b1 vaM xM0 xM1 xM2 xM3 vcM vaJ xJ0 xJ1 xJ2 xJ3 vcJ h1 n0 Z0 g_b1 E_b1 F_sent_b1 F_received_b1 F_rejected_b1 O EM EJ) e1 (g := (mkF m 9 #[.val (.int i0), .val (.int i1), .val (.int i2), .val (.int i3), .val (.int i4), .val (.int k5), .unset, .unset, .unset] [(.ref b1), (.ref b1)])) rfl (by rw [hml]; rfl) (argsL := []) (rest := [(.ref b1)]) (lenOf pd_8 rfl) rfl (W := 1) (by show 2 * 0 + _ ≤ _; exact Nat.le_of_eq rfl) (hb hby at_9) (by decide) (by decide) (by decide) (by decide)
  obtain ⟨rfl, N2q, t0, t1, t2, k0, k1, k2, K2, ⟨s0, s1, s2⟩, ⟨ne_t0_t1, ne_t0_t2, ne_t1_t2⟩, F0, F1, F2, V_t0, V_t1, V_t2⟩ := hQ2
  have N2 := Fr.app N0 N2q
  have ne_b1_t0 : b1 ≠ t0 := Nat.ne_of_lt (Nat.lt_of_lt_of_le E_b1.lt s0)
  have g_t0 : n0 ≤ t0 := Nat.le_trans Z0 s0
  have ne_b1_t1 : b1 ≠ t1 := Nat.ne_of_lt (Nat.lt_of_lt_of_le E_b1.lt s1)
  have g_t1 : n0 ≤ t1 := Nat.le_trans Z0 s1
  have ne_b1_t2 : b1 ≠ t2 := Nat.ne_of_lt (Nat.lt_of_lt_of_le E_b1.lt s2)
  have g_t2 : n0 ≤ t2 := Nat.le_trans Z0 s2
  have Z0 := Nat.le_trans Z0 K2.1
  have O := O.keep K2 (allS (P := fun x => n0 ≤ x) g_b1 all0)
  have E_b1 := E_b1.keep K2
  refine own_st st2 ?_
  show Fin1 p e below s (rm0Q Z i0 i1 i2 i3 i4 vaM xM0 xM1 xM2 xM3 vcM vaJ xJ0 xJ1 xJ2 xJ3 vcJ h0 n0) room_1.cells room_1.slots (T2.setTop (mkF m 12 #[.val (.int i0), .val (.int i1), .val (.int i2), .val (.int i3), .val (.int i4), .val (.int k5), .unset, .unset, .unset] [(.ref b1)]))
  refine own_st (fun wt wk => XS.astore X2.here hx rfl (hb hby at_12) rfl rfl (l' := #[.val (.int i0), .val (.int i1), .val (.int i2), .val (.int i3), .val (.int i4), .val (.int k5), .val (.ref b1), .unset, .unset]) rfl wk) ?_
  show Fin1 p e below s (rm0Q Z i0 i1 i2 i3 i4 vaM xM0 xM1 xM2 xM3 vcM vaJ xJ0 xJ1 xJ2 xJ3 vcJ h0 n0) room_1.cells room_1.slots (T2.setTop (mkF m 14 #[.val (.int i0), .val (.int i1), .val (.int i2), .val (.int i3), .val (.int i4), .val (.int k5), .val (.ref b1), .unset, .unset] []))
  refine own_st (fun wt wk => XS.iload X2.here hx rfl (hb hby at_14) rfl wk) ?_
  show Fin1 p e below s (rm0Q Z i0 i1 i2 i3 i4 vaM xM0 xM1 xM2 xM3 vcM vaJ xJ0 xJ1 xJ2 xJ3 vcJ h0 n0) room_1.cells room_1.slots (T2.setTop (mkF m 16 #[.val (.int i0), .val (.int i1), .val (.int i2), .val (.int i3), .val (.int i4), .val (.int k5), .val (.ref b1), .unset, .unset] [(.int k5)]))
  refine own_st (fun wt wk => XS.iconst X2.here hx rfl (hb hby at_16) wk) ?_
  show Fin1 p e below s (rm0Q Z i0 i1 i2 i3 i4 vaM xM0 xM1 xM2 xM3 vcM vaJ xJ0 xJ1 xJ2 xJ3 vcJ h0 n0) room_1.cells room_1.slots (T2.setTop (mkF m 17 #[.val (.int i0), .val (.int i1), .val (.int i2), .val (.int i3), .val (.int i4), .val (.int k5), .val (.ref b1), .unset, .unset] [(.int (1 : Int32)), (.int k5)]))
  rcases hk5 with rfl | rfl | rfl | rfl
  · show Fin1 p e below s (rm0Q Z i0 i1 i2 i3 i4 vaM xM0 xM1 xM2 xM3 vcM vaJ xJ0 xJ1 xJ2 xJ3 vcJ h0 n0) room_1.cells room_1.slots (T2.setTop (mkF m 17 #[.val (.int i0), .val (.int i1), .val (.int i2), .val (.int i3), .val (.int i4), .val (.int (0 : Int32)), .val (.ref b1), .unset, .unset] [(.int (1 : Int32)), (.int (0 : Int32))]))
    refine own_st (fun wt wk => XS.icmpYes X2.here hx rfl (pc0 := 17) (pc' := 29) rfl (hb hby at_17) rfl (tlt (by decide)).1 (by decide) (by decide) wk) ?_
    show Fin1 p e below s (rm0Q Z i0 i1 i2 i3 i4 vaM xM0 xM1 xM2 xM3 vcM vaJ xJ0 xJ1 xJ2 xJ3 vcJ h0 n0) room_1.cells room_1.slots (T2.setTop (mkF m 29 #[.val (.int i0), .val (.int i1), .val (.int i2), .val (.int i3), .val (.int i4), .val (.int (0 : Int32)), .val (.ref b1), .unset, .unset] []))
    refine own_st (fun wt wk => XS.iload X2.here hx rfl (hb hby at_29) rfl wk) ?_
    show Fin1 p e below s (rm0Q Z i0 i1 i2 i3 i4 vaM xM0 xM1 xM2 xM3 vcM vaJ xJ0 xJ1 xJ2 xJ3 vcJ h0 n0) room_1.cells room_1.slots (T2.setTop (mkF m 31 #[.val (.int i0), .val (.int i1), .val (.int i2), .val (.int i3), .val (.int i4), .val (.int (0 : Int32)), .val (.ref b1), .unset, .unset] [(.int (0 : Int32))]))
    refine own_st (fun wt wk => XS.iconst X2.here hx rfl (hb hby at_31) wk) ?_
    show Fin1 p e below s (rm0Q Z i0 i1 i2 i3 i4 vaM xM0 xM1 xM2 xM3 vcM vaJ xJ0 xJ1 xJ2 xJ3 vcJ h0 n0) room_1.cells room_1.slots (T2.setTop (mkF m 32 #[.val (.int i0), .val (.int i1), .val (.int i2), .val (.int i3), .val (.int i4), .val (.int (0 : Int32)), .val (.ref b1), .unset, .unset] [(.int (2 : Int32)), (.int (0 : Int32))]))
    refine own_st (fun wt wk => XS.icmpYes X2.here hx rfl (pc0 := 32) (pc' := 44) rfl (hb hby at_32) rfl (tlt (by decide)).1 (by decide) (by decide) wk) ?_
    show Fin1 p e below s (rm0Q Z i0 i1 i2 i3 i4 vaM xM0 xM1 xM2 xM3 vcM vaJ xJ0 xJ1 xJ2 xJ3 vcJ h0 n0) room_1.cells room_1.slots (T2.setTop (mkF m 44 #[.val (.int i0), .val (.int i1), .val (.int i2), .val (.int i3), .val (.int i4), .val (.int (0 : Int32)), .val (.ref b1), .unset, .unset] []))
    refine own_st (fun wt wk => XS.iload X2.here hx rfl (hb hby at_44) rfl wk) ?_
    show Fin1 p e below s (rm0Q Z i0 i1 i2 i3 i4 vaM xM0 xM1 xM2 xM3 vcM vaJ xJ0 xJ1 xJ2 xJ3 vcJ h0 n0) room_1.cells room_1.slots (T2.setTop (mkF m 46 #[.val (.int i0), .val (.int i1), .val (.int i2), .val (.int i3), .val (.int i4), .val (.int (0 : Int32)), .val (.ref b1), .unset, .unset] [(.int (0 : Int32))]))
    refine own_st (fun wt wk => XS.iconst X2.here hx rfl (hb hby at_46) wk) ?_
    show Fin1 p e below s (rm0Q Z i0 i1 i2 i3 i4 vaM xM0 xM1 xM2 xM3 vcM vaJ xJ0 xJ1 xJ2 xJ3 vcJ h0 n0) room_1.cells room_1.slots (T2.setTop (mkF m 47 #[.val (.int i0), .val (.int i1), .val (.int i2), .val (.int i3), .val (.int i4), .val (.int (0 : Int32)), .val (.ref b1), .unset, .unset] [(.int (3 : Int32)), (.int (0 : Int32))]))
    refine own_st (fun wt wk => XS.icmpYes X2.here hx rfl (pc0 := 47) (pc' := 59) rfl (hb hby at_47) rfl (tlt (by decide)).1 (by decide) (by decide) wk) ?_
    show Fin1 p e below s (rm0Q Z i0 i1 i2 i3 i4 vaM xM0 xM1 xM2 xM3 vcM vaJ xJ0 xJ1 xJ2 xJ3 vcJ h0 n0) room_1.cells room_1.slots (T2.setTop (mkF m 59 #[.val (.int i0), .val (.int i1), .val (.int i2), .val (.int i3), .val (.int i4), .val (.int (0 : Int32)), .val (.ref b1), .unset, .unset] []))
    refine own_st (fun wt wk => XS.aload X2.here hx rfl (hb hby at_59) rfl rfl wk) ?_
    show Fin1 p e below s (rm0Q Z i0 i1 i2 i3 i4 vaM xM0 xM1 xM2 xM3 vcM vaJ xJ0 xJ1 xJ2 xJ3 vcJ h0 n0) room_1.cells room_1.slots (T2.setTop (mkF m 61 #[.val (.int i0), .val (.int i1), .val (.int i2), .val (.int i3), .val (.int i4), .val (.int (0 : Int32)), .val (.ref b1), .unset, .unset] [(.ref b1)]))
    have EJ' := EJ
    obtain ⟨SJv, AJv, XJv, zJv, FJv, ⟨SJ0, QJ0, OJ0⟩, ⟨SJ1, QJ1, OJ1⟩, ⟨SJ2, QJ2, OJ2⟩, ⟨SJ3, QJ3, OJ3⟩⟩ := EJ'
    obtain ⟨T3, X3, e3, st3⟩ := getS2 X2 hx hZ hown (host := "") (Or.inl (hw _ (List.mem_of_getElem? (i := 57) rfl))) Via.refl e2 (SJ0.ext O.2) (g := (mkF m 61 #[.val (.int i0), .val (.int i1), .val (.int i2), .val (.int i3), .val (.int i4), .val (.int (0 : Int32)), .val (.ref b1), .unset, .unset] [(.ref b1)])) rfl (hb hby at_61)
    refine own_st st3 ?_
    show Fin1 p e below s (rm0Q Z i0 i1 i2 i3 i4 vaM xM0 xM1 xM2 xM3 vcM vaJ xJ0 xJ1 xJ2 xJ3 vcJ h0 n0) room_1.cells room_1.slots (T3.setTop (mkF m 64 #[.val (.int i0), .val (.int i1), .val (.int i2), .val (.int i3), .val (.int i4), .val (.int (0 : Int32)), .val (.ref b1), .unset, .unset] [(.ref xJ0), (.ref b1)]))
    obtain ⟨v4, T4, h4, L4, X4, e4, hQ4, st4⟩ := own_virtual X3 hx hZ hown (hw _ (List.mem_of_getElem? (i := 72) rfl)) (hw _ (List.mem_of_getElem? (i := 73) rfl)) (hw _ (List.mem_of_getElem? (i := 75) rfl)) (hw _ (List.mem_of_getElem? (i := 74) rfl)) (hw _ (List.mem_of_getElem? (i := 76) rfl)) (hw _ (List.mem_of_getElem? (i := 2) rfl)) (by decide) (a := b1) E_b1 (rm_getRejected l Z a0 hw b1 xJ0 (0 : Int32) t2 k2 [(.long (0 : Int64)), (.long (0 : Int64)), (.long (0 : Int64)), (.long (0 : Int64))] (0 : Int64) h2 n0 Z0 (by decide) F2 (QJ0.ext O.2) (OJ0.ext O.2) V_t2 rfl) e3 (g := (mkF m 64 #[.val (.int i0), .val (.int i1), .val (.int i2), .val (.int i3), .val (.int i4), .val (.int (0 : Int32)), .val (.ref b1), .unset, .unset] [(.ref xJ0), (.ref b1)])) rfl (by rw [hml]; rfl) (argsL := [(.ref xJ0)]) (rest := []) (lenOf pd_9 rfl) rfl (W := 0) (by show 2 * 0 + _ ≤ _; exact Nat.le_of_eq rfl) (hb hby at_64) (by decide) (by decide) (by decide) (by decide)
    obtain ⟨rfl, N4q, hh4⟩ := hQ4
    have N4 := Fr.app N2 N4q
    rw [hh4] at e4
    refine own_st st4 ?_
    show Fin1 p e below s (rm0Q Z i0 i1 i2 i3 i4 vaM xM0 xM1 xM2 xM3 vcM vaJ xJ0 xJ1 xJ2 xJ3 vcJ h0 n0) room_1.cells room_1.slots (T4.setTop (mkF m 67 #[.val (.int i0), .val (.int i1), .val (.int i2), .val (.int i3), .val (.int i4), .val (.int (0 : Int32)), .val (.ref b1), .unset, .unset] [(.long (0 : Int64))]))
    refine own_st (fun wt wk => XS.iload X4.here hx rfl (hb hby at_67) rfl wk) ?_
    show Fin1 p e below s (rm0Q Z i0 i1 i2 i3 i4 vaM xM0 xM1 xM2 xM3 vcM vaJ xJ0 xJ1 xJ2 xJ3 vcJ h0 n0) room_1.cells room_1.slots (T4.setTop (mkF m 69 #[.val (.int i0), .val (.int i1), .val (.int i2), .val (.int i3), .val (.int i4), .val (.int (0 : Int32)), .val (.ref b1), .unset, .unset] [(.int (0 : Int32)), (.long (0 : Int64))]))
    refine own_st (fun wt wk => XS.iloadN X4.here hx rfl (hb hby at_69) rfl wk) ?_
    show Fin1 p e below s (rm0Q Z i0 i1 i2 i3 i4 vaM xM0 xM1 xM2 xM3 vcM vaJ xJ0 xJ1 xJ2 xJ3 vcJ h0 n0) room_1.cells room_1.slots (T4.setTop (mkF m 70 #[.val (.int i0), .val (.int i1), .val (.int i2), .val (.int i3), .val (.int i4), .val (.int (0 : Int32)), .val (.ref b1), .unset, .unset] [(.int i0), (.int (0 : Int32)), (.long (0 : Int64))]))
    refine own_st (fun wt wk => XS.iloadN X4.here hx rfl (hb hby at_70) rfl wk) ?_
    show Fin1 p e below s (rm0Q Z i0 i1 i2 i3 i4 vaM xM0 xM1 xM2 xM3 vcM vaJ xJ0 xJ1 xJ2 xJ3 vcJ h0 n0) room_1.cells room_1.slots (T4.setTop (mkF m 71 #[.val (.int i0), .val (.int i1), .val (.int i2), .val (.int i3), .val (.int i4), .val (.int (0 : Int32)), .val (.ref b1), .unset, .unset] [(.int i1), (.int i0), (.int (0 : Int32)), (.long (0 : Int64))]))
    refine own_st (fun wt wk => XS.iloadN X4.here hx rfl (hb hby at_71) rfl wk) ?_
    show Fin1 p e below s (rm0Q Z i0 i1 i2 i3 i4 vaM xM0 xM1 xM2 xM3 vcM vaJ xJ0 xJ1 xJ2 xJ3 vcJ h0 n0) room_1.cells room_1.slots (T4.setTop (mkF m 72 #[.val (.int i0), .val (.int i1), .val (.int i2), .val (.int i3), .val (.int i4), .val (.int (0 : Int32)), .val (.ref b1), .unset, .unset] [(.int i2), (.int i1), (.int i0), (.int (0 : Int32)), (.long (0 : Int64))]))
    refine own_st (fun wt wk => XS.iconst X4.here hx rfl (hb hby at_72) wk) ?_
    show Fin1 p e below s (rm0Q Z i0 i1 i2 i3 i4 vaM xM0 xM1 xM2 xM3 vcM vaJ xJ0 xJ1 xJ2 xJ3 vcJ h0 n0) room_1.cells room_1.slots (T4.setTop (mkF m 73 #[.val (.int i0), .val (.int i1), .val (.int i2), .val (.int i3), .val (.int i4), .val (.int (0 : Int32)), .val (.ref b1), .unset, .unset] [(.int (0 : Int32)), (.int i2), (.int i1), (.int i0), (.int (0 : Int32)), (.long (0 : Int64))]))
    obtain ⟨v5, T5, h5, L5, X5, e5, hQ5, st5⟩ := own_static X4 hx hZ hown (hw _ (List.mem_of_getElem? (i := 77) rfl)) (hw _ (List.mem_of_getElem? (i := 78) rfl)) (hw _ (List.mem_of_getElem? (i := 55) rfl)) (hw _ (List.mem_of_getElem? (i := 79) rfl)) (by decide) (rmX l Z a0 hw (0 : Int32) i0 i1 i2 (0 : Int32) h2 n0 Z0) e4 (g := (mkF m 73 #[.val (.int i0), .val (.int i1), .val (.int i2), .val (.int i3), .val (.int i4), .val (.int (0 : Int32)), .val (.ref b1), .unset, .unset] [(.int (0 : Int32)), (.int i2), (.int i1), (.int i0), (.int (0 : Int32)), (.long (0 : Int64))])) rfl (by rw [hml]; rfl) (argsL := [(.int (0 : Int32)), (.int i0), (.int i1), (.int i2), (.int (0 : Int32))]) (rest := [(.long (0 : Int64))]) (lenOf pd_10 rfl) rfl (W := 2) (by show 2 * 0 + _ ≤ _; exact Nat.le_of_eq rfl) (hb hby at_73) (by decide) (by decide) (by decide) (by decide)
    obtain ⟨rfl, N5q, hh5⟩ := hQ5
    have N5 := Fr.app N4 N5q
    rw [hh5] at e5
    refine own_st st5 ?_
    show Fin1 p e below s (rm0Q Z i0 i1 i2 i3 i4 vaM xM0 xM1 xM2 xM3 vcM vaJ xJ0 xJ1 xJ2 xJ3 vcJ h0 n0) room_1.cells room_1.slots (T5.setTop (mkF m 76 #[.val (.int i0), .val (.int i1), .val (.int i2), .val (.int i3), .val (.int i4), .val (.int (0 : Int32)), .val (.ref b1), .unset, .unset] [(.long (own_exp (0 : Int32) i0 i1 i2 (0 : Int32))), (.long (0 : Int64))]))
    refine own_st (fun wt wk => XS.lcmp X5.here hx rfl (hb hby at_76) rfl wk) ?_
    show Fin1 p e below s (rm0Q Z i0 i1 i2 i3 i4 vaM xM0 xM1 xM2 xM3 vcM vaJ xJ0 xJ1 xJ2 xJ3 vcJ h0 n0) room_1.cells room_1.slots (T5.setTop (mkF m 77 #[.val (.int i0), .val (.int i1), .val (.int i2), .val (.int i3), .val (.int i4), .val (.int (0 : Int32)), .val (.ref b1), .unset, .unset] [(.int (lcmpW (0 : Int64) (own_exp (0 : Int32) i0 i1 i2 (0 : Int32))))]))
    refine own_st (fun wt wk => XS.ifNo X5.here hx rfl (hb hby at_77) rfl ((if0 _ _).trans (teq ((lw_eq _ _).mpr (own_same0 i0 i1 i2 (0 : Int32)) : (lcmpW (0 : Int64) (own_exp (0 : Int32) i0 i1 i2 (0 : Int32))) = (0 : Int32))).2) wk) ?_
    show Fin1 p e below s (rm0Q Z i0 i1 i2 i3 i4 vaM xM0 xM1 xM2 xM3 vcM vaJ xJ0 xJ1 xJ2 xJ3 vcJ h0 n0) room_1.cells room_1.slots (T5.setTop (mkF m 80 #[.val (.int i0), .val (.int i1), .val (.int i2), .val (.int i3), .val (.int i4), .val (.int (0 : Int32)), .val (.ref b1), .unset, .unset] []))
    refine own_st (fun wt wk => XS.aload X5.here hx rfl (hb hby at_80) rfl rfl wk) ?_
    show Fin1 p e below s (rm0Q Z i0 i1 i2 i3 i4 vaM xM0 xM1 xM2 xM3 vcM vaJ xJ0 xJ1 xJ2 xJ3 vcJ h0 n0) room_1.cells room_1.slots (T5.setTop (mkF m 82 #[.val (.int i0), .val (.int i1), .val (.int i2), .val (.int i3), .val (.int i4), .val (.int (0 : Int32)), .val (.ref b1), .unset, .unset] [(.ref b1)]))
    obtain ⟨T6, X6, e6, st6⟩ := getS2 X5 hx hZ hown (host := "") (Or.inl (hw _ (List.mem_of_getElem? (i := 80) rfl))) Via.refl e5 (SJ1.ext O.2) (g := (mkF m 82 #[.val (.int i0), .val (.int i1), .val (.int i2), .val (.int i3), .val (.int i4), .val (.int (0 : Int32)), .val (.ref b1), .unset, .unset] [(.ref b1)])) rfl (hb hby at_82)
    refine own_st st6 ?_
    show Fin1 p e below s (rm0Q Z i0 i1 i2 i3 i4 vaM xM0 xM1 xM2 xM3 vcM vaJ xJ0 xJ1 xJ2 xJ3 vcJ h0 n0) room_1.cells room_1.slots (T6.setTop (mkF m 85 #[.val (.int i0), .val (.int i1), .val (.int i2), .val (.int i3), .val (.int i4), .val (.int (0 : Int32)), .val (.ref b1), .unset, .unset] [(.ref xJ1), (.ref b1)]))
    obtain ⟨v7, T7, h7, L7, X7, e7, hQ7, st7⟩ := own_virtual X6 hx hZ hown (hw _ (List.mem_of_getElem? (i := 72) rfl)) (hw _ (List.mem_of_getElem? (i := 73) rfl)) (hw _ (List.mem_of_getElem? (i := 75) rfl)) (hw _ (List.mem_of_getElem? (i := 74) rfl)) (hw _ (List.mem_of_getElem? (i := 76) rfl)) (hw _ (List.mem_of_getElem? (i := 2) rfl)) (by decide) (a := b1) E_b1 (rm_getRejected l Z a0 hw b1 xJ1 (1 : Int32) t2 k2 [(.long (0 : Int64)), (.long (0 : Int64)), (.long (0 : Int64)), (.long (0 : Int64))] (0 : Int64) h2 n0 Z0 (by decide) F2 (QJ1.ext O.2) (OJ1.ext O.2) V_t2 rfl) e6 (g := (mkF m 85 #[.val (.int i0), .val (.int i1), .val (.int i2), .val (.int i3), .val (.int i4), .val (.int (0 : Int32)), .val (.ref b1), .unset, .unset] [(.ref xJ1), (.ref b1)])) rfl (by rw [hml]; rfl) (argsL := [(.ref xJ1)]) (rest := []) (lenOf pd_9 rfl) rfl (W := 0) (by show 2 * 0 + _ ≤ _; exact Nat.le_of_eq rfl) (hb hby at_85) (by decide) (by decide) (by decide) (by decide)
    obtain ⟨rfl, N7q, hh7⟩ := hQ7
    have N7 := Fr.app N5 N7q
    rw [hh7] at e7
    refine own_st st7 ?_
    show Fin1 p e below s (rm0Q Z i0 i1 i2 i3 i4 vaM xM0 xM1 xM2 xM3 vcM vaJ xJ0 xJ1 xJ2 xJ3 vcJ h0 n0) room_1.cells room_1.slots (T7.setTop (mkF m 88 #[.val (.int i0), .val (.int i1), .val (.int i2), .val (.int i3), .val (.int i4), .val (.int (0 : Int32)), .val (.ref b1), .unset, .unset] [(.long (0 : Int64))]))
    refine own_st (fun wt wk => XS.iload X7.here hx rfl (hb hby at_88) rfl wk) ?_
    show Fin1 p e below s (rm0Q Z i0 i1 i2 i3 i4 vaM xM0 xM1 xM2 xM3 vcM vaJ xJ0 xJ1 xJ2 xJ3 vcJ h0 n0) room_1.cells room_1.slots (T7.setTop (mkF m 90 #[.val (.int i0), .val (.int i1), .val (.int i2), .val (.int i3), .val (.int i4), .val (.int (0 : Int32)), .val (.ref b1), .unset, .unset] [(.int (0 : Int32)), (.long (0 : Int64))]))
    refine own_st (fun wt wk => XS.iloadN X7.here hx rfl (hb hby at_90) rfl wk) ?_
    show Fin1 p e below s (rm0Q Z i0 i1 i2 i3 i4 vaM xM0 xM1 xM2 xM3 vcM vaJ xJ0 xJ1 xJ2 xJ3 vcJ h0 n0) room_1.cells room_1.slots (T7.setTop (mkF m 91 #[.val (.int i0), .val (.int i1), .val (.int i2), .val (.int i3), .val (.int i4), .val (.int (0 : Int32)), .val (.ref b1), .unset, .unset] [(.int i0), (.int (0 : Int32)), (.long (0 : Int64))]))
    refine own_st (fun wt wk => XS.iloadN X7.here hx rfl (hb hby at_91) rfl wk) ?_
    show Fin1 p e below s (rm0Q Z i0 i1 i2 i3 i4 vaM xM0 xM1 xM2 xM3 vcM vaJ xJ0 xJ1 xJ2 xJ3 vcJ h0 n0) room_1.cells room_1.slots (T7.setTop (mkF m 92 #[.val (.int i0), .val (.int i1), .val (.int i2), .val (.int i3), .val (.int i4), .val (.int (0 : Int32)), .val (.ref b1), .unset, .unset] [(.int i1), (.int i0), (.int (0 : Int32)), (.long (0 : Int64))]))
    refine own_st (fun wt wk => XS.iloadN X7.here hx rfl (hb hby at_92) rfl wk) ?_
    show Fin1 p e below s (rm0Q Z i0 i1 i2 i3 i4 vaM xM0 xM1 xM2 xM3 vcM vaJ xJ0 xJ1 xJ2 xJ3 vcJ h0 n0) room_1.cells room_1.slots (T7.setTop (mkF m 93 #[.val (.int i0), .val (.int i1), .val (.int i2), .val (.int i3), .val (.int i4), .val (.int (0 : Int32)), .val (.ref b1), .unset, .unset] [(.int i2), (.int i1), (.int i0), (.int (0 : Int32)), (.long (0 : Int64))]))
    refine own_st (fun wt wk => XS.iconst X7.here hx rfl (hb hby at_93) wk) ?_
    show Fin1 p e below s (rm0Q Z i0 i1 i2 i3 i4 vaM xM0 xM1 xM2 xM3 vcM vaJ xJ0 xJ1 xJ2 xJ3 vcJ h0 n0) room_1.cells room_1.slots (T7.setTop (mkF m 94 #[.val (.int i0), .val (.int i1), .val (.int i2), .val (.int i3), .val (.int i4), .val (.int (0 : Int32)), .val (.ref b1), .unset, .unset] [(.int (1 : Int32)), (.int i2), (.int i1), (.int i0), (.int (0 : Int32)), (.long (0 : Int64))]))
    obtain ⟨v8, T8, h8, L8, X8, e8, hQ8, st8⟩ := own_static X7 hx hZ hown (hw _ (List.mem_of_getElem? (i := 77) rfl)) (hw _ (List.mem_of_getElem? (i := 78) rfl)) (hw _ (List.mem_of_getElem? (i := 55) rfl)) (hw _ (List.mem_of_getElem? (i := 79) rfl)) (by decide) (rmX l Z a0 hw (0 : Int32) i0 i1 i2 (1 : Int32) h2 n0 Z0) e7 (g := (mkF m 94 #[.val (.int i0), .val (.int i1), .val (.int i2), .val (.int i3), .val (.int i4), .val (.int (0 : Int32)), .val (.ref b1), .unset, .unset] [(.int (1 : Int32)), (.int i2), (.int i1), (.int i0), (.int (0 : Int32)), (.long (0 : Int64))])) rfl (by rw [hml]; rfl) (argsL := [(.int (0 : Int32)), (.int i0), (.int i1), (.int i2), (.int (1 : Int32))]) (rest := [(.long (0 : Int64))]) (lenOf pd_10 rfl) rfl (W := 2) (by show 2 * 0 + _ ≤ _; exact Nat.le_of_eq rfl) (hb hby at_94) (by decide) (by decide) (by decide) (by decide)
    obtain ⟨rfl, N8q, hh8⟩ := hQ8
    have N8 := Fr.app N7 N8q
    rw [hh8] at e8
    refine own_st st8 ?_
    show Fin1 p e below s (rm0Q Z i0 i1 i2 i3 i4 vaM xM0 xM1 xM2 xM3 vcM vaJ xJ0 xJ1 xJ2 xJ3 vcJ h0 n0) room_1.cells room_1.slots (T8.setTop (mkF m 97 #[.val (.int i0), .val (.int i1), .val (.int i2), .val (.int i3), .val (.int i4), .val (.int (0 : Int32)), .val (.ref b1), .unset, .unset] [(.long (own_exp (0 : Int32) i0 i1 i2 (1 : Int32))), (.long (0 : Int64))]))
    refine own_st (fun wt wk => XS.lcmp X8.here hx rfl (hb hby at_97) rfl wk) ?_
    show Fin1 p e below s (rm0Q Z i0 i1 i2 i3 i4 vaM xM0 xM1 xM2 xM3 vcM vaJ xJ0 xJ1 xJ2 xJ3 vcJ h0 n0) room_1.cells room_1.slots (T8.setTop (mkF m 98 #[.val (.int i0), .val (.int i1), .val (.int i2), .val (.int i3), .val (.int i4), .val (.int (0 : Int32)), .val (.ref b1), .unset, .unset] [(.int (lcmpW (0 : Int64) (own_exp (0 : Int32) i0 i1 i2 (1 : Int32))))]))
    refine own_st (fun wt wk => XS.ifNo X8.here hx rfl (hb hby at_98) rfl ((if0 _ _).trans (teq ((lw_eq _ _).mpr (own_same0 i0 i1 i2 (1 : Int32)) : (lcmpW (0 : Int64) (own_exp (0 : Int32) i0 i1 i2 (1 : Int32))) = (0 : Int32))).2) wk) ?_
    show Fin1 p e below s (rm0Q Z i0 i1 i2 i3 i4 vaM xM0 xM1 xM2 xM3 vcM vaJ xJ0 xJ1 xJ2 xJ3 vcJ h0 n0) room_1.cells room_1.slots (T8.setTop (mkF m 101 #[.val (.int i0), .val (.int i1), .val (.int i2), .val (.int i3), .val (.int i4), .val (.int (0 : Int32)), .val (.ref b1), .unset, .unset] []))
    refine own_st (fun wt wk => XS.aload X8.here hx rfl (hb hby at_101) rfl rfl wk) ?_
    show Fin1 p e below s (rm0Q Z i0 i1 i2 i3 i4 vaM xM0 xM1 xM2 xM3 vcM vaJ xJ0 xJ1 xJ2 xJ3 vcJ h0 n0) room_1.cells room_1.slots (T8.setTop (mkF m 103 #[.val (.int i0), .val (.int i1), .val (.int i2), .val (.int i3), .val (.int i4), .val (.int (0 : Int32)), .val (.ref b1), .unset, .unset] [(.ref b1)]))
    obtain ⟨T9, X9, e9, st9⟩ := getS2 X8 hx hZ hown (host := "") (Or.inl (hw _ (List.mem_of_getElem? (i := 81) rfl))) Via.refl e8 (SJ2.ext O.2) (g := (mkF m 103 #[.val (.int i0), .val (.int i1), .val (.int i2), .val (.int i3), .val (.int i4), .val (.int (0 : Int32)), .val (.ref b1), .unset, .unset] [(.ref b1)])) rfl (hb hby at_103)
    refine own_st st9 ?_
    show Fin1 p e below s (rm0Q Z i0 i1 i2 i3 i4 vaM xM0 xM1 xM2 xM3 vcM vaJ xJ0 xJ1 xJ2 xJ3 vcJ h0 n0) room_1.cells room_1.slots (T9.setTop (mkF m 106 #[.val (.int i0), .val (.int i1), .val (.int i2), .val (.int i3), .val (.int i4), .val (.int (0 : Int32)), .val (.ref b1), .unset, .unset] [(.ref xJ2), (.ref b1)]))
    obtain ⟨v10, T10, h10, L10, X10, e10, hQ10, st10⟩ := own_virtual X9 hx hZ hown (hw _ (List.mem_of_getElem? (i := 72) rfl)) (hw _ (List.mem_of_getElem? (i := 73) rfl)) (hw _ (List.mem_of_getElem? (i := 75) rfl)) (hw _ (List.mem_of_getElem? (i := 74) rfl)) (hw _ (List.mem_of_getElem? (i := 76) rfl)) (hw _ (List.mem_of_getElem? (i := 2) rfl)) (by decide) (a := b1) E_b1 (rm_getRejected l Z a0 hw b1 xJ2 (2 : Int32) t2 k2 [(.long (0 : Int64)), (.long (0 : Int64)), (.long (0 : Int64)), (.long (0 : Int64))] (0 : Int64) h2 n0 Z0 (by decide) F2 (QJ2.ext O.2) (OJ2.ext O.2) V_t2 rfl) e9 (g := (mkF m 106 #[.val (.int i0), .val (.int i1), .val (.int i2), .val (.int i3), .val (.int i4), .val (.int (0 : Int32)), .val (.ref b1), .unset, .unset] [(.ref xJ2), (.ref b1)])) rfl (by rw [hml]; rfl) (argsL := [(.ref xJ2)]) (rest := []) (lenOf pd_9 rfl) rfl (W := 0) (by show 2 * 0 + _ ≤ _; exact Nat.le_of_eq rfl) (hb hby at_106) (by decide) (by decide) (by decide) (by decide)
    obtain ⟨rfl, N10q, hh10⟩ := hQ10
    have N10 := Fr.app N8 N10q
    rw [hh10] at e10
    refine own_st st10 ?_
    show Fin1 p e below s (rm0Q Z i0 i1 i2 i3 i4 vaM xM0 xM1 xM2 xM3 vcM vaJ xJ0 xJ1 xJ2 xJ3 vcJ h0 n0) room_1.cells room_1.slots (T10.setTop (mkF m 109 #[.val (.int i0), .val (.int i1), .val (.int i2), .val (.int i3), .val (.int i4), .val (.int (0 : Int32)), .val (.ref b1), .unset, .unset] [(.long (0 : Int64))]))
    refine own_st (fun wt wk => XS.iload X10.here hx rfl (hb hby at_109) rfl wk) ?_
    show Fin1 p e below s (rm0Q Z i0 i1 i2 i3 i4 vaM xM0 xM1 xM2 xM3 vcM vaJ xJ0 xJ1 xJ2 xJ3 vcJ h0 n0) room_1.cells room_1.slots (T10.setTop (mkF m 111 #[.val (.int i0), .val (.int i1), .val (.int i2), .val (.int i3), .val (.int i4), .val (.int (0 : Int32)), .val (.ref b1), .unset, .unset] [(.int (0 : Int32)), (.long (0 : Int64))]))
    refine own_st (fun wt wk => XS.iloadN X10.here hx rfl (hb hby at_111) rfl wk) ?_
    show Fin1 p e below s (rm0Q Z i0 i1 i2 i3 i4 vaM xM0 xM1 xM2 xM3 vcM vaJ xJ0 xJ1 xJ2 xJ3 vcJ h0 n0) room_1.cells room_1.slots (T10.setTop (mkF m 112 #[.val (.int i0), .val (.int i1), .val (.int i2), .val (.int i3), .val (.int i4), .val (.int (0 : Int32)), .val (.ref b1), .unset, .unset] [(.int i0), (.int (0 : Int32)), (.long (0 : Int64))]))
    refine own_st (fun wt wk => XS.iloadN X10.here hx rfl (hb hby at_112) rfl wk) ?_
    show Fin1 p e below s (rm0Q Z i0 i1 i2 i3 i4 vaM xM0 xM1 xM2 xM3 vcM vaJ xJ0 xJ1 xJ2 xJ3 vcJ h0 n0) room_1.cells room_1.slots (T10.setTop (mkF m 113 #[.val (.int i0), .val (.int i1), .val (.int i2), .val (.int i3), .val (.int i4), .val (.int (0 : Int32)), .val (.ref b1), .unset, .unset] [(.int i1), (.int i0), (.int (0 : Int32)), (.long (0 : Int64))]))
    refine own_st (fun wt wk => XS.iloadN X10.here hx rfl (hb hby at_113) rfl wk) ?_
    show Fin1 p e below s (rm0Q Z i0 i1 i2 i3 i4 vaM xM0 xM1 xM2 xM3 vcM vaJ xJ0 xJ1 xJ2 xJ3 vcJ h0 n0) room_1.cells room_1.slots (T10.setTop (mkF m 114 #[.val (.int i0), .val (.int i1), .val (.int i2), .val (.int i3), .val (.int i4), .val (.int (0 : Int32)), .val (.ref b1), .unset, .unset] [(.int i2), (.int i1), (.int i0), (.int (0 : Int32)), (.long (0 : Int64))]))
    refine own_st (fun wt wk => XS.iconst X10.here hx rfl (hb hby at_114) wk) ?_
    show Fin1 p e below s (rm0Q Z i0 i1 i2 i3 i4 vaM xM0 xM1 xM2 xM3 vcM vaJ xJ0 xJ1 xJ2 xJ3 vcJ h0 n0) room_1.cells room_1.slots (T10.setTop (mkF m 115 #[.val (.int i0), .val (.int i1), .val (.int i2), .val (.int i3), .val (.int i4), .val (.int (0 : Int32)), .val (.ref b1), .unset, .unset] [(.int (2 : Int32)), (.int i2), (.int i1), (.int i0), (.int (0 : Int32)), (.long (0 : Int64))]))
    obtain ⟨v11, T11, h11, L11, X11, e11, hQ11, st11⟩ := own_static X10 hx hZ hown (hw _ (List.mem_of_getElem? (i := 77) rfl)) (hw _ (List.mem_of_getElem? (i := 78) rfl)) (hw _ (List.mem_of_getElem? (i := 55) rfl)) (hw _ (List.mem_of_getElem? (i := 79) rfl)) (by decide) (rmX l Z a0 hw (0 : Int32) i0 i1 i2 (2 : Int32) h2 n0 Z0) e10 (g := (mkF m 115 #[.val (.int i0), .val (.int i1), .val (.int i2), .val (.int i3), .val (.int i4), .val (.int (0 : Int32)), .val (.ref b1), .unset, .unset] [(.int (2 : Int32)), (.int i2), (.int i1), (.int i0), (.int (0 : Int32)), (.long (0 : Int64))])) rfl (by rw [hml]; rfl) (argsL := [(.int (0 : Int32)), (.int i0), (.int i1), (.int i2), (.int (2 : Int32))]) (rest := [(.long (0 : Int64))]) (lenOf pd_10 rfl) rfl (W := 2) (by show 2 * 0 + _ ≤ _; exact Nat.le_of_eq rfl) (hb hby at_115) (by decide) (by decide) (by decide) (by decide)
    obtain ⟨rfl, N11q, hh11⟩ := hQ11
    have N11 := Fr.app N10 N11q
    rw [hh11] at e11
    refine own_st st11 ?_
    show Fin1 p e below s (rm0Q Z i0 i1 i2 i3 i4 vaM xM0 xM1 xM2 xM3 vcM vaJ xJ0 xJ1 xJ2 xJ3 vcJ h0 n0) room_1.cells room_1.slots (T11.setTop (mkF m 118 #[.val (.int i0), .val (.int i1), .val (.int i2), .val (.int i3), .val (.int i4), .val (.int (0 : Int32)), .val (.ref b1), .unset, .unset] [(.long (own_exp (0 : Int32) i0 i1 i2 (2 : Int32))), (.long (0 : Int64))]))
    refine own_st (fun wt wk => XS.lcmp X11.here hx rfl (hb hby at_118) rfl wk) ?_
    show Fin1 p e below s (rm0Q Z i0 i1 i2 i3 i4 vaM xM0 xM1 xM2 xM3 vcM vaJ xJ0 xJ1 xJ2 xJ3 vcJ h0 n0) room_1.cells room_1.slots (T11.setTop (mkF m 119 #[.val (.int i0), .val (.int i1), .val (.int i2), .val (.int i3), .val (.int i4), .val (.int (0 : Int32)), .val (.ref b1), .unset, .unset] [(.int (lcmpW (0 : Int64) (own_exp (0 : Int32) i0 i1 i2 (2 : Int32))))]))
    refine own_st (fun wt wk => XS.ifNo X11.here hx rfl (hb hby at_119) rfl ((if0 _ _).trans (teq ((lw_eq _ _).mpr (own_same0 i0 i1 i2 (2 : Int32)) : (lcmpW (0 : Int64) (own_exp (0 : Int32) i0 i1 i2 (2 : Int32))) = (0 : Int32))).2) wk) ?_
    show Fin1 p e below s (rm0Q Z i0 i1 i2 i3 i4 vaM xM0 xM1 xM2 xM3 vcM vaJ xJ0 xJ1 xJ2 xJ3 vcJ h0 n0) room_1.cells room_1.slots (T11.setTop (mkF m 122 #[.val (.int i0), .val (.int i1), .val (.int i2), .val (.int i3), .val (.int i4), .val (.int (0 : Int32)), .val (.ref b1), .unset, .unset] []))
    refine own_st (fun wt wk => XS.aload X11.here hx rfl (hb hby at_122) rfl rfl wk) ?_
    show Fin1 p e below s (rm0Q Z i0 i1 i2 i3 i4 vaM xM0 xM1 xM2 xM3 vcM vaJ xJ0 xJ1 xJ2 xJ3 vcJ h0 n0) room_1.cells room_1.slots (T11.setTop (mkF m 124 #[.val (.int i0), .val (.int i1), .val (.int i2), .val (.int i3), .val (.int i4), .val (.int (0 : Int32)), .val (.ref b1), .unset, .unset] [(.ref b1)]))
    obtain ⟨T12, X12, e12, st12⟩ := getS2 X11 hx hZ hown (host := "") (Or.inl (hw _ (List.mem_of_getElem? (i := 82) rfl))) Via.refl e11 (SJ3.ext O.2) (g := (mkF m 124 #[.val (.int i0), .val (.int i1), .val (.int i2), .val (.int i3), .val (.int i4), .val (.int (0 : Int32)), .val (.ref b1), .unset, .unset] [(.ref b1)])) rfl (hb hby at_124)
    refine own_st st12 ?_
    show Fin1 p e below s (rm0Q Z i0 i1 i2 i3 i4 vaM xM0 xM1 xM2 xM3 vcM vaJ xJ0 xJ1 xJ2 xJ3 vcJ h0 n0) room_1.cells room_1.slots (T12.setTop (mkF m 127 #[.val (.int i0), .val (.int i1), .val (.int i2), .val (.int i3), .val (.int i4), .val (.int (0 : Int32)), .val (.ref b1), .unset, .unset] [(.ref xJ3), (.ref b1)]))
    obtain ⟨v13, T13, h13, L13, X13, e13, hQ13, st13⟩ := own_virtual X12 hx hZ hown (hw _ (List.mem_of_getElem? (i := 72) rfl)) (hw _ (List.mem_of_getElem? (i := 73) rfl)) (hw _ (List.mem_of_getElem? (i := 75) rfl)) (hw _ (List.mem_of_getElem? (i := 74) rfl)) (hw _ (List.mem_of_getElem? (i := 76) rfl)) (hw _ (List.mem_of_getElem? (i := 2) rfl)) (by decide) (a := b1) E_b1 (rm_getRejected l Z a0 hw b1 xJ3 (3 : Int32) t2 k2 [(.long (0 : Int64)), (.long (0 : Int64)), (.long (0 : Int64)), (.long (0 : Int64))] (0 : Int64) h2 n0 Z0 (by decide) F2 (QJ3.ext O.2) (OJ3.ext O.2) V_t2 rfl) e12 (g := (mkF m 127 #[.val (.int i0), .val (.int i1), .val (.int i2), .val (.int i3), .val (.int i4), .val (.int (0 : Int32)), .val (.ref b1), .unset, .unset] [(.ref xJ3), (.ref b1)])) rfl (by rw [hml]; rfl) (argsL := [(.ref xJ3)]) (rest := []) (lenOf pd_9 rfl) rfl (W := 0) (by show 2 * 0 + _ ≤ _; exact Nat.le_of_eq rfl) (hb hby at_127) (by decide) (by decide) (by decide) (by decide)
    obtain ⟨rfl, N13q, hh13⟩ := hQ13
    have N13 := Fr.app N11 N13q
    rw [hh13] at e13
    refine own_st st13 ?_
    show Fin1 p e below s (rm0Q Z i0 i1 i2 i3 i4 vaM xM0 xM1 xM2 xM3 vcM vaJ xJ0 xJ1 xJ2 xJ3 vcJ h0 n0) room_1.cells room_1.slots (T13.setTop (mkF m 130 #[.val (.int i0), .val (.int i1), .val (.int i2), .val (.int i3), .val (.int i4), .val (.int (0 : Int32)), .val (.ref b1), .unset, .unset] [(.long (0 : Int64))]))
    refine own_st (fun wt wk => XS.iload X13.here hx rfl (hb hby at_130) rfl wk) ?_
    show Fin1 p e below s (rm0Q Z i0 i1 i2 i3 i4 vaM xM0 xM1 xM2 xM3 vcM vaJ xJ0 xJ1 xJ2 xJ3 vcJ h0 n0) room_1.cells room_1.slots (T13.setTop (mkF m 132 #[.val (.int i0), .val (.int i1), .val (.int i2), .val (.int i3), .val (.int i4), .val (.int (0 : Int32)), .val (.ref b1), .unset, .unset] [(.int (0 : Int32)), (.long (0 : Int64))]))
    refine own_st (fun wt wk => XS.iloadN X13.here hx rfl (hb hby at_132) rfl wk) ?_
    show Fin1 p e below s (rm0Q Z i0 i1 i2 i3 i4 vaM xM0 xM1 xM2 xM3 vcM vaJ xJ0 xJ1 xJ2 xJ3 vcJ h0 n0) room_1.cells room_1.slots (T13.setTop (mkF m 133 #[.val (.int i0), .val (.int i1), .val (.int i2), .val (.int i3), .val (.int i4), .val (.int (0 : Int32)), .val (.ref b1), .unset, .unset] [(.int i0), (.int (0 : Int32)), (.long (0 : Int64))]))
    refine own_st (fun wt wk => XS.iloadN X13.here hx rfl (hb hby at_133) rfl wk) ?_
    show Fin1 p e below s (rm0Q Z i0 i1 i2 i3 i4 vaM xM0 xM1 xM2 xM3 vcM vaJ xJ0 xJ1 xJ2 xJ3 vcJ h0 n0) room_1.cells room_1.slots (T13.setTop (mkF m 134 #[.val (.int i0), .val (.int i1), .val (.int i2), .val (.int i3), .val (.int i4), .val (.int (0 : Int32)), .val (.ref b1), .unset, .unset] [(.int i1), (.int i0), (.int (0 : Int32)), (.long (0 : Int64))]))
    refine own_st (fun wt wk => XS.iloadN X13.here hx rfl (hb hby at_134) rfl wk) ?_
    show Fin1 p e below s (rm0Q Z i0 i1 i2 i3 i4 vaM xM0 xM1 xM2 xM3 vcM vaJ xJ0 xJ1 xJ2 xJ3 vcJ h0 n0) room_1.cells room_1.slots (T13.setTop (mkF m 135 #[.val (.int i0), .val (.int i1), .val (.int i2), .val (.int i3), .val (.int i4), .val (.int (0 : Int32)), .val (.ref b1), .unset, .unset] [(.int i2), (.int i1), (.int i0), (.int (0 : Int32)), (.long (0 : Int64))]))
    refine own_st (fun wt wk => XS.iconst X13.here hx rfl (hb hby at_135) wk) ?_
    show Fin1 p e below s (rm0Q Z i0 i1 i2 i3 i4 vaM xM0 xM1 xM2 xM3 vcM vaJ xJ0 xJ1 xJ2 xJ3 vcJ h0 n0) room_1.cells room_1.slots (T13.setTop (mkF m 136 #[.val (.int i0), .val (.int i1), .val (.int i2), .val (.int i3), .val (.int i4), .val (.int (0 : Int32)), .val (.ref b1), .unset, .unset] [(.int (3 : Int32)), (.int i2), (.int i1), (.int i0), (.int (0 : Int32)), (.long (0 : Int64))]))
    obtain ⟨v14, T14, h14, L14, X14, e14, hQ14, st14⟩ := own_static X13 hx hZ hown (hw _ (List.mem_of_getElem? (i := 77) rfl)) (hw _ (List.mem_of_getElem? (i := 78) rfl)) (hw _ (List.mem_of_getElem? (i := 55) rfl)) (hw _ (List.mem_of_getElem? (i := 79) rfl)) (by decide) (rmX l Z a0 hw (0 : Int32) i0 i1 i2 (3 : Int32) h2 n0 Z0) e13 (g := (mkF m 136 #[.val (.int i0), .val (.int i1), .val (.int i2), .val (.int i3), .val (.int i4), .val (.int (0 : Int32)), .val (.ref b1), .unset, .unset] [(.int (3 : Int32)), (.int i2), (.int i1), (.int i0), (.int (0 : Int32)), (.long (0 : Int64))])) rfl (by rw [hml]; rfl) (argsL := [(.int (0 : Int32)), (.int i0), (.int i1), (.int i2), (.int (3 : Int32))]) (rest := [(.long (0 : Int64))]) (lenOf pd_10 rfl) rfl (W := 2) (by show 2 * 0 + _ ≤ _; exact Nat.le_of_eq rfl) (hb hby at_136) (by decide) (by decide) (by decide) (by decide)
    obtain ⟨rfl, N14q, hh14⟩ := hQ14
    have N14 := Fr.app N13 N14q
    rw [hh14] at e14
    refine own_st st14 ?_
    show Fin1 p e below s (rm0Q Z i0 i1 i2 i3 i4 vaM xM0 xM1 xM2 xM3 vcM vaJ xJ0 xJ1 xJ2 xJ3 vcJ h0 n0) room_1.cells room_1.slots (T14.setTop (mkF m 139 #[.val (.int i0), .val (.int i1), .val (.int i2), .val (.int i3), .val (.int i4), .val (.int (0 : Int32)), .val (.ref b1), .unset, .unset] [(.long (own_exp (0 : Int32) i0 i1 i2 (3 : Int32))), (.long (0 : Int64))]))
    refine own_st (fun wt wk => XS.lcmp X14.here hx rfl (hb hby at_139) rfl wk) ?_
    show Fin1 p e below s (rm0Q Z i0 i1 i2 i3 i4 vaM xM0 xM1 xM2 xM3 vcM vaJ xJ0 xJ1 xJ2 xJ3 vcJ h0 n0) room_1.cells room_1.slots (T14.setTop (mkF m 140 #[.val (.int i0), .val (.int i1), .val (.int i2), .val (.int i3), .val (.int i4), .val (.int (0 : Int32)), .val (.ref b1), .unset, .unset] [(.int (lcmpW (0 : Int64) (own_exp (0 : Int32) i0 i1 i2 (3 : Int32))))]))
    refine own_st (fun wt wk => XS.ifNo X14.here hx rfl (hb hby at_140) rfl ((if0 _ _).trans (teq ((lw_eq _ _).mpr (own_same0 i0 i1 i2 (3 : Int32)) : (lcmpW (0 : Int64) (own_exp (0 : Int32) i0 i1 i2 (3 : Int32))) = (0 : Int32))).2) wk) ?_
    show Fin1 p e below s (rm0Q Z i0 i1 i2 i3 i4 vaM xM0 xM1 xM2 xM3 vcM vaJ xJ0 xJ1 xJ2 xJ3 vcJ h0 n0) room_1.cells room_1.slots (T14.setTop (mkF m 143 #[.val (.int i0), .val (.int i1), .val (.int i2), .val (.int i3), .val (.int i4), .val (.int (0 : Int32)), .val (.ref b1), .unset, .unset] []))
    refine own_st (fun wt wk => XS.iconst X14.here hx rfl (hb hby at_143) wk) ?_
    show Fin1 p e below s (rm0Q Z i0 i1 i2 i3 i4 vaM xM0 xM1 xM2 xM3 vcM vaJ xJ0 xJ1 xJ2 xJ3 vcJ h0 n0) room_1.cells room_1.slots (T14.setTop (mkF m 144 #[.val (.int i0), .val (.int i1), .val (.int i2), .val (.int i3), .val (.int i4), .val (.int (0 : Int32)), .val (.ref b1), .unset, .unset] [(.int (1 : Int32))]))
    refine own_st (fun wt wk => XS.goto X14.here hx rfl (pc0 := 144) (pc' := 148) rfl (hb hby at_144) (by decide) (by decide) wk) ?_
    show Fin1 p e below s (rm0Q Z i0 i1 i2 i3 i4 vaM xM0 xM1 xM2 xM3 vcM vaJ xJ0 xJ1 xJ2 xJ3 vcJ h0 n0) room_1.cells room_1.slots (T14.setTop (mkF m 148 #[.val (.int i0), .val (.int i1), .val (.int i2), .val (.int i3), .val (.int i4), .val (.int (0 : Int32)), .val (.ref b1), .unset, .unset] [(.int (1 : Int32))]))
    refine own_st (fun wt wk => XS.istore X14.here hx rfl (hb hby at_148) rfl (l' := #[.val (.int i0), .val (.int i1), .val (.int i2), .val (.int i3), .val (.int i4), .val (.int (0 : Int32)), .val (.ref b1), .val (.int (1 : Int32)), .unset]) rfl wk) ?_
    show Fin1 p e below s (rm0Q Z i0 i1 i2 i3 i4 vaM xM0 xM1 xM2 xM3 vcM vaJ xJ0 xJ1 xJ2 xJ3 vcJ h0 n0) room_1.cells room_1.slots (T14.setTop (mkF m 150 #[.val (.int i0), .val (.int i1), .val (.int i2), .val (.int i3), .val (.int i4), .val (.int (0 : Int32)), .val (.ref b1), .val (.int (1 : Int32)), .unset] []))
    refine own_st (fun wt wk => XS.iload X14.here hx rfl (hb hby at_150) rfl wk) ?_
    show Fin1 p e below s (rm0Q Z i0 i1 i2 i3 i4 vaM xM0 xM1 xM2 xM3 vcM vaJ xJ0 xJ1 xJ2 xJ3 vcJ h0 n0) room_1.cells room_1.slots (T14.setTop (mkF m 152 #[.val (.int i0), .val (.int i1), .val (.int i2), .val (.int i3), .val (.int i4), .val (.int (0 : Int32)), .val (.ref b1), .val (.int (1 : Int32)), .unset] [(.int i4)]))
    obtain ⟨v15, T15, h15, L15, X15, e15, hQ15, st15⟩ := own_static X14 hx hZ hown (hw _ (List.mem_of_getElem? (i := 83) rfl)) (hw _ (List.mem_of_getElem? (i := 84) rfl)) (hw _ (List.mem_of_getElem? (i := 55) rfl)) (hw _ (List.mem_of_getElem? (i := 85) rfl)) (by decide) (rm_kind l Z a0 hw i4 vaM xM0 xM1 xM2 xM3 vcM h2 n0 Z0 O EM) e14 (g := (mkF m 152 #[.val (.int i0), .val (.int i1), .val (.int i2), .val (.int i3), .val (.int i4), .val (.int (0 : Int32)), .val (.ref b1), .val (.int (1 : Int32)), .unset] [(.int i4)])) rfl (by rw [hml]; rfl) (argsL := [(.int i4)]) (rest := []) (lenOf pd_11 rfl) rfl (W := 0) (by show 2 * 0 + _ ≤ _; exact Nat.le_of_eq rfl) (hb hby at_152) (by decide) (by decide) (by decide) (by decide)
    obtain ⟨rk, rfl, N15q, hh15, E_rk, O_rk⟩ := hQ15
    have N15 := Fr.app N14 N15q
    rw [hh15] at e15
    refine own_st st15 ?_
    show Fin1 p e below s (rm0Q Z i0 i1 i2 i3 i4 vaM xM0 xM1 xM2 xM3 vcM vaJ xJ0 xJ1 xJ2 xJ3 vcJ h0 n0) room_1.cells room_1.slots (T15.setTop (mkF m 155 #[.val (.int i0), .val (.int i1), .val (.int i2), .val (.int i3), .val (.int i4), .val (.int (0 : Int32)), .val (.ref b1), .val (.int (1 : Int32)), .unset] [(.ref rk)]))
    refine own_st (fun wt wk => XS.astore X15.here hx rfl (hb hby at_155) rfl rfl (l' := #[.val (.int i0), .val (.int i1), .val (.int i2), .val (.int i3), .val (.int i4), .val (.int (0 : Int32)), .val (.ref b1), .val (.int (1 : Int32)), .val (.ref rk)]) rfl wk) ?_
    show Fin1 p e below s (rm0Q Z i0 i1 i2 i3 i4 vaM xM0 xM1 xM2 xM3 vcM vaJ xJ0 xJ1 xJ2 xJ3 vcJ h0 n0) room_1.cells room_1.slots (T15.setTop (mkF m 157 #[.val (.int i0), .val (.int i1), .val (.int i2), .val (.int i3), .val (.int i4), .val (.int (0 : Int32)), .val (.ref b1), .val (.int (1 : Int32)), .val (.ref rk)] []))
    refine own_st (fun wt wk => XS.iload X15.here hx rfl (hb hby at_157) rfl wk) ?_
    show Fin1 p e below s (rm0Q Z i0 i1 i2 i3 i4 vaM xM0 xM1 xM2 xM3 vcM vaJ xJ0 xJ1 xJ2 xJ3 vcJ h0 n0) room_1.cells room_1.slots (T15.setTop (mkF m 159 #[.val (.int i0), .val (.int i1), .val (.int i2), .val (.int i3), .val (.int i4), .val (.int (0 : Int32)), .val (.ref b1), .val (.int (1 : Int32)), .val (.ref rk)] [(.int (1 : Int32))]))
    refine own_st (fun wt wk => XS.ifNo X15.here hx rfl (hb hby at_159) rfl ((if0 _ _).trans (feq (by decide)).1) wk) ?_
    show Fin1 p e below s (rm0Q Z i0 i1 i2 i3 i4 vaM xM0 xM1 xM2 xM3 vcM vaJ xJ0 xJ1 xJ2 xJ3 vcJ h0 n0) room_1.cells room_1.slots (T15.setTop (mkF m 162 #[.val (.int i0), .val (.int i1), .val (.int i2), .val (.int i3), .val (.int i4), .val (.int (0 : Int32)), .val (.ref b1), .val (.int (1 : Int32)), .val (.ref rk)] []))
    refine own_st (fun wt wk => XS.aload X15.here hx rfl (hb hby at_162) rfl rfl wk) ?_
    show Fin1 p e below s (rm0Q Z i0 i1 i2 i3 i4 vaM xM0 xM1 xM2 xM3 vcM vaJ xJ0 xJ1 xJ2 xJ3 vcJ h0 n0) room_1.cells room_1.slots (T15.setTop (mkF m 164 #[.val (.int i0), .val (.int i1), .val (.int i2), .val (.int i3), .val (.int i4), .val (.int (0 : Int32)), .val (.ref b1), .val (.int (1 : Int32)), .val (.ref rk)] [(.ref b1)]))
    refine own_st (fun wt wk => XS.aload X15.here hx rfl (hb hby at_164) rfl rfl wk) ?_
    show Fin1 p e below s (rm0Q Z i0 i1 i2 i3 i4 vaM xM0 xM1 xM2 xM3 vcM vaJ xJ0 xJ1 xJ2 xJ3 vcJ h0 n0) room_1.cells room_1.slots (T15.setTop (mkF m 166 #[.val (.int i0), .val (.int i1), .val (.int i2), .val (.int i3), .val (.int i4), .val (.int (0 : Int32)), .val (.ref b1), .val (.int (1 : Int32)), .val (.ref rk)] [(.ref rk), (.ref b1)]))
    obtain ⟨v16, T16, h16, L16, X16, e16, hQ16, st16⟩ := own_virtual X15 hx hZ hown (hw _ (List.mem_of_getElem? (i := 87) rfl)) (hw _ (List.mem_of_getElem? (i := 88) rfl)) (hw _ (List.mem_of_getElem? (i := 90) rfl)) (hw _ (List.mem_of_getElem? (i := 89) rfl)) (hw _ (List.mem_of_getElem? (i := 91) rfl)) (hw _ (List.mem_of_getElem? (i := 2) rfl)) (by decide) (a := b1) E_b1 (rm_getSent l Z a0 hw b1 rk (i4 &&& (3 : Int32)) t0 k0 [(.long (0 : Int64)), (.long (0 : Int64)), (.long (0 : Int64)), (.long (0 : Int64))] (0 : Int64) h2 n0 Z0 (own_rng _) F0 E_rk O_rk V_t0 (by rw [own_at _ _ _ _ _ (own_rng _)]; simp)) e15 (g := (mkF m 166 #[.val (.int i0), .val (.int i1), .val (.int i2), .val (.int i3), .val (.int i4), .val (.int (0 : Int32)), .val (.ref b1), .val (.int (1 : Int32)), .val (.ref rk)] [(.ref rk), (.ref b1)])) rfl (by rw [hml]; rfl) (argsL := [(.ref rk)]) (rest := []) (lenOf pd_12 rfl) rfl (W := 0) (by show 2 * 0 + _ ≤ _; exact Nat.le_of_eq rfl) (hb hby at_166) (by decide) (by decide) (by decide) (by decide)
    obtain ⟨rfl, N16q, hh16⟩ := hQ16
    have N16 := Fr.app N15 N16q
    rw [hh16] at e16
    refine own_st st16 ?_
    show Fin1 p e below s (rm0Q Z i0 i1 i2 i3 i4 vaM xM0 xM1 xM2 xM3 vcM vaJ xJ0 xJ1 xJ2 xJ3 vcJ h0 n0) room_1.cells room_1.slots (T16.setTop (mkF m 169 #[.val (.int i0), .val (.int i1), .val (.int i2), .val (.int i3), .val (.int i4), .val (.int (0 : Int32)), .val (.ref b1), .val (.int (1 : Int32)), .val (.ref rk)] [(.long (0 : Int64))]))
    refine own_st (fun wt wk => XS.lconst X16.here hx rfl (hb hby at_169) wk) ?_
    show Fin1 p e below s (rm0Q Z i0 i1 i2 i3 i4 vaM xM0 xM1 xM2 xM3 vcM vaJ xJ0 xJ1 xJ2 xJ3 vcJ h0 n0) room_1.cells room_1.slots (T16.setTop (mkF m 170 #[.val (.int i0), .val (.int i1), .val (.int i2), .val (.int i3), .val (.int i4), .val (.int (0 : Int32)), .val (.ref b1), .val (.int (1 : Int32)), .val (.ref rk)] [(.long (0 : Int64)), (.long (0 : Int64))]))
    refine own_st (fun wt wk => XS.lcmp X16.here hx rfl (hb hby at_170) rfl wk) ?_
    show Fin1 p e below s (rm0Q Z i0 i1 i2 i3 i4 vaM xM0 xM1 xM2 xM3 vcM vaJ xJ0 xJ1 xJ2 xJ3 vcJ h0 n0) room_1.cells room_1.slots (T16.setTop (mkF m 171 #[.val (.int i0), .val (.int i1), .val (.int i2), .val (.int i3), .val (.int i4), .val (.int (0 : Int32)), .val (.ref b1), .val (.int (1 : Int32)), .val (.ref rk)] [(.int (lcmpW (0 : Int64) (0 : Int64)))]))
    refine own_st (fun wt wk => XS.ifNo X16.here hx rfl (hb hby at_171) rfl ((if0 _ _).trans (teq ((lw_eq _ _).mpr rfl : (lcmpW (0 : Int64) (0 : Int64)) = (0 : Int32))).2) wk) ?_
    show Fin1 p e below s (rm0Q Z i0 i1 i2 i3 i4 vaM xM0 xM1 xM2 xM3 vcM vaJ xJ0 xJ1 xJ2 xJ3 vcJ h0 n0) room_1.cells room_1.slots (T16.setTop (mkF m 174 #[.val (.int i0), .val (.int i1), .val (.int i2), .val (.int i3), .val (.int i4), .val (.int (0 : Int32)), .val (.ref b1), .val (.int (1 : Int32)), .val (.ref rk)] []))
    refine own_st (fun wt wk => XS.aload X16.here hx rfl (hb hby at_174) rfl rfl wk) ?_
    show Fin1 p e below s (rm0Q Z i0 i1 i2 i3 i4 vaM xM0 xM1 xM2 xM3 vcM vaJ xJ0 xJ1 xJ2 xJ3 vcJ h0 n0) room_1.cells room_1.slots (T16.setTop (mkF m 176 #[.val (.int i0), .val (.int i1), .val (.int i2), .val (.int i3), .val (.int i4), .val (.int (0 : Int32)), .val (.ref b1), .val (.int (1 : Int32)), .val (.ref rk)] [(.ref b1)]))
    refine own_st (fun wt wk => XS.aload X16.here hx rfl (hb hby at_176) rfl rfl wk) ?_
    show Fin1 p e below s (rm0Q Z i0 i1 i2 i3 i4 vaM xM0 xM1 xM2 xM3 vcM vaJ xJ0 xJ1 xJ2 xJ3 vcJ h0 n0) room_1.cells room_1.slots (T16.setTop (mkF m 178 #[.val (.int i0), .val (.int i1), .val (.int i2), .val (.int i3), .val (.int i4), .val (.int (0 : Int32)), .val (.ref b1), .val (.int (1 : Int32)), .val (.ref rk)] [(.ref rk), (.ref b1)]))
    obtain ⟨v17, T17, h17, L17, X17, e17, hQ17, st17⟩ := own_virtual X16 hx hZ hown (hw _ (List.mem_of_getElem? (i := 96) rfl)) (hw _ (List.mem_of_getElem? (i := 97) rfl)) (hw _ (List.mem_of_getElem? (i := 99) rfl)) (hw _ (List.mem_of_getElem? (i := 98) rfl)) (hw _ (List.mem_of_getElem? (i := 100) rfl)) (hw _ (List.mem_of_getElem? (i := 2) rfl)) (by decide) (a := b1) E_b1 (rm_getReceived l Z a0 hw b1 rk (i4 &&& (3 : Int32)) t1 k1 [(.long (0 : Int64)), (.long (0 : Int64)), (.long (0 : Int64)), (.long (0 : Int64))] (0 : Int64) h2 n0 Z0 (own_rng _) F1 E_rk O_rk V_t1 (by rw [own_at _ _ _ _ _ (own_rng _)]; simp)) e16 (g := (mkF m 178 #[.val (.int i0), .val (.int i1), .val (.int i2), .val (.int i3), .val (.int i4), .val (.int (0 : Int32)), .val (.ref b1), .val (.int (1 : Int32)), .val (.ref rk)] [(.ref rk), (.ref b1)])) rfl (by rw [hml]; rfl) (argsL := [(.ref rk)]) (rest := []) (lenOf pd_12 rfl) rfl (W := 0) (by show 2 * 0 + _ ≤ _; exact Nat.le_of_eq rfl) (hb hby at_178) (by decide) (by decide) (by decide) (by decide)
    obtain ⟨rfl, N17q, hh17⟩ := hQ17
    have N17 := Fr.app N16 N17q
    rw [hh17] at e17
    refine own_st st17 ?_
    show Fin1 p e below s (rm0Q Z i0 i1 i2 i3 i4 vaM xM0 xM1 xM2 xM3 vcM vaJ xJ0 xJ1 xJ2 xJ3 vcJ h0 n0) room_1.cells room_1.slots (T17.setTop (mkF m 181 #[.val (.int i0), .val (.int i1), .val (.int i2), .val (.int i3), .val (.int i4), .val (.int (0 : Int32)), .val (.ref b1), .val (.int (1 : Int32)), .val (.ref rk)] [(.long (0 : Int64))]))
    refine own_st (fun wt wk => XS.lconst X17.here hx rfl (hb hby at_181) wk) ?_
    show Fin1 p e below s (rm0Q Z i0 i1 i2 i3 i4 vaM xM0 xM1 xM2 xM3 vcM vaJ xJ0 xJ1 xJ2 xJ3 vcJ h0 n0) room_1.cells room_1.slots (T17.setTop (mkF m 182 #[.val (.int i0), .val (.int i1), .val (.int i2), .val (.int i3), .val (.int i4), .val (.int (0 : Int32)), .val (.ref b1), .val (.int (1 : Int32)), .val (.ref rk)] [(.long (0 : Int64)), (.long (0 : Int64))]))
    refine own_st (fun wt wk => XS.lcmp X17.here hx rfl (hb hby at_182) rfl wk) ?_
    show Fin1 p e below s (rm0Q Z i0 i1 i2 i3 i4 vaM xM0 xM1 xM2 xM3 vcM vaJ xJ0 xJ1 xJ2 xJ3 vcJ h0 n0) room_1.cells room_1.slots (T17.setTop (mkF m 183 #[.val (.int i0), .val (.int i1), .val (.int i2), .val (.int i3), .val (.int i4), .val (.int (0 : Int32)), .val (.ref b1), .val (.int (1 : Int32)), .val (.ref rk)] [(.int (lcmpW (0 : Int64) (0 : Int64)))]))
    refine own_st (fun wt wk => XS.ifNo X17.here hx rfl (hb hby at_183) rfl ((if0 _ _).trans (teq ((lw_eq _ _).mpr rfl : (lcmpW (0 : Int64) (0 : Int64)) = (0 : Int32))).2) wk) ?_
    show Fin1 p e below s (rm0Q Z i0 i1 i2 i3 i4 vaM xM0 xM1 xM2 xM3 vcM vaJ xJ0 xJ1 xJ2 xJ3 vcJ h0 n0) room_1.cells room_1.slots (T17.setTop (mkF m 186 #[.val (.int i0), .val (.int i1), .val (.int i2), .val (.int i3), .val (.int i4), .val (.int (0 : Int32)), .val (.ref b1), .val (.int (1 : Int32)), .val (.ref rk)] []))
    refine own_st (fun wt wk => XS.iconst X17.here hx rfl (hb hby at_186) wk) ?_
    show Fin1 p e below s (rm0Q Z i0 i1 i2 i3 i4 vaM xM0 xM1 xM2 xM3 vcM vaJ xJ0 xJ1 xJ2 xJ3 vcJ h0 n0) room_1.cells room_1.slots (T17.setTop (mkF m 187 #[.val (.int i0), .val (.int i1), .val (.int i2), .val (.int i3), .val (.int i4), .val (.int (0 : Int32)), .val (.ref b1), .val (.int (1 : Int32)), .val (.ref rk)] [(.int (1 : Int32))]))
    refine own_st (fun wt wk => XS.goto X17.here hx rfl (pc0 := 187) (pc' := 191) rfl (hb hby at_187) (by decide) (by decide) wk) ?_
    show Fin1 p e below s (rm0Q Z i0 i1 i2 i3 i4 vaM xM0 xM1 xM2 xM3 vcM vaJ xJ0 xJ1 xJ2 xJ3 vcJ h0 n0) room_1.cells room_1.slots (T17.setTop (mkF m 191 #[.val (.int i0), .val (.int i1), .val (.int i2), .val (.int i3), .val (.int i4), .val (.int (0 : Int32)), .val (.ref b1), .val (.int (1 : Int32)), .val (.ref rk)] [(.int (1 : Int32))]))
    exact own_retZ X17 hx hlk hret (hb hby at_191) (z := (1 : Int32)) (by decide) (by rw [e17]; exact ⟨rfl, N17⟩) (by decide) (by decide)
  · show Fin1 p e below s (rm0Q Z i0 i1 i2 i3 i4 vaM xM0 xM1 xM2 xM3 vcM vaJ xJ0 xJ1 xJ2 xJ3 vcJ h0 n0) room_1.cells room_1.slots (T2.setTop (mkF m 17 #[.val (.int i0), .val (.int i1), .val (.int i2), .val (.int i3), .val (.int i4), .val (.int (1 : Int32)), .val (.ref b1), .unset, .unset] [(.int (1 : Int32)), (.int (1 : Int32))]))
    refine own_st (fun wt wk => XS.icmpNo X2.here hx rfl (hb hby at_17) rfl (flt (by decide)).1 wk) ?_
    show Fin1 p e below s (rm0Q Z i0 i1 i2 i3 i4 vaM xM0 xM1 xM2 xM3 vcM vaJ xJ0 xJ1 xJ2 xJ3 vcJ h0 n0) room_1.cells room_1.slots (T2.setTop (mkF m 20 #[.val (.int i0), .val (.int i1), .val (.int i2), .val (.int i3), .val (.int i4), .val (.int (1 : Int32)), .val (.ref b1), .unset, .unset] []))
    refine own_st (fun wt wk => XS.aload X2.here hx rfl (hb hby at_20) rfl rfl wk) ?_
    show Fin1 p e below s (rm0Q Z i0 i1 i2 i3 i4 vaM xM0 xM1 xM2 xM3 vcM vaJ xJ0 xJ1 xJ2 xJ3 vcJ h0 n0) room_1.cells room_1.slots (T2.setTop (mkF m 22 #[.val (.int i0), .val (.int i1), .val (.int i2), .val (.int i3), .val (.int i4), .val (.int (1 : Int32)), .val (.ref b1), .unset, .unset] [(.ref b1)]))
    refine own_st (fun wt wk => XS.iloadN X2.here hx rfl (hb hby at_22) rfl wk) ?_
    show Fin1 p e below s (rm0Q Z i0 i1 i2 i3 i4 vaM xM0 xM1 xM2 xM3 vcM vaJ xJ0 xJ1 xJ2 xJ3 vcJ h0 n0) room_1.cells room_1.slots (T2.setTop (mkF m 23 #[.val (.int i0), .val (.int i1), .val (.int i2), .val (.int i3), .val (.int i4), .val (.int (1 : Int32)), .val (.ref b1), .unset, .unset] [(.int i0), (.ref b1)]))
    obtain ⟨v18, T18, h18, L18, X18, e18, hQ18, st18⟩ := own_static X2 hx hZ hown (hw _ (List.mem_of_getElem? (i := 53) rfl)) (hw _ (List.mem_of_getElem? (i := 54) rfl)) (hw _ (List.mem_of_getElem? (i := 55) rfl)) (hw _ (List.mem_of_getElem? (i := 56) rfl)) (by decide) (rm_reason l Z a0 hw i0 vaJ xJ0 xJ1 xJ2 xJ3 vcJ h2 n0 Z0 O EJ) e2 (g := (mkF m 23 #[.val (.int i0), .val (.int i1), .val (.int i2), .val (.int i3), .val (.int i4), .val (.int (1 : Int32)), .val (.ref b1), .unset, .unset] [(.int i0), (.ref b1)])) rfl (by rw [hml]; rfl) (argsL := [(.int i0)]) (rest := [(.ref b1)]) (lenOf pd_13 rfl) rfl (W := 1) (by show 2 * 0 + _ ≤ _; exact Nat.le_of_eq rfl) (hb hby at_23) (by decide) (by decide) (by decide) (by decide)
    obtain ⟨r0, rfl, N18q, hh18, E_r0, O_r0⟩ := hQ18
    have N18 := Fr.app N2 N18q
    rw [hh18] at e18
    refine own_st st18 ?_
    show Fin1 p e below s (rm0Q Z i0 i1 i2 i3 i4 vaM xM0 xM1 xM2 xM3 vcM vaJ xJ0 xJ1 xJ2 xJ3 vcJ h0 n0) room_1.cells room_1.slots (T18.setTop (mkF m 26 #[.val (.int i0), .val (.int i1), .val (.int i2), .val (.int i3), .val (.int i4), .val (.int (1 : Int32)), .val (.ref b1), .unset, .unset] [(.ref r0), (.ref b1)]))
    obtain ⟨v19, T19, h19, L19, X19, e19, hQ19, st19⟩ := own_virtual X18 hx hZ hown (hw _ (List.mem_of_getElem? (i := 58) rfl)) (hw _ (List.mem_of_getElem? (i := 59) rfl)) (hw _ (List.mem_of_getElem? (i := 61) rfl)) (hw _ (List.mem_of_getElem? (i := 60) rfl)) (hw _ (List.mem_of_getElem? (i := 62) rfl)) (hw _ (List.mem_of_getElem? (i := 2) rfl)) (by decide) (a := b1) E_b1 (rmRej l Z a0 hw b1 r0 (i0 &&& (3 : Int32)) t2 k2 (0 : Int64) (0 : Int64) (0 : Int64) (0 : Int64) h2 n0 Z0 g_t2 (own_rng _) F2 E_r0 O_r0 V_t2) e18 (g := (mkF m 26 #[.val (.int i0), .val (.int i1), .val (.int i2), .val (.int i3), .val (.int i4), .val (.int (1 : Int32)), .val (.ref b1), .unset, .unset] [(.ref r0), (.ref b1)])) rfl (by rw [hml]; rfl) (argsL := [(.ref r0)]) (rest := []) (lenOf pd_14 rfl) rfl (W := 0) (by show 2 * 0 + _ ≤ _; exact Nat.le_of_eq rfl) (hb hby at_26) (by decide) (by decide) (by decide) (by decide)
    obtain ⟨rfl, N19q, K19, V_t2⟩ := hQ19
    have N19 := Fr.app N18 N19q
    have Z0 := Nat.le_trans Z0 K19.1
    have O := O.keep K19 (allS (P := fun x => n0 ≤ x) g_t2 all0)
    have E_b1 := E_b1.keep K19
    have F0 := F0.keep K19 (ninS ne_b1_t2 nin0)
    have F1 := F1.keep K19 (ninS ne_b1_t2 nin0)
    have F2 := F2.keep K19 (ninS ne_b1_t2 nin0)
    have V_t0 := V_t0.keep K19 (ninS ne_t0_t2 nin0)
    have V_t1 := V_t1.keep K19 (ninS ne_t1_t2 nin0)
    refine own_st st19 ?_
    show Fin1 p e below s (rm0Q Z i0 i1 i2 i3 i4 vaM xM0 xM1 xM2 xM3 vcM vaJ xJ0 xJ1 xJ2 xJ3 vcJ h0 n0) room_1.cells room_1.slots (T19.setTop (mkF m 29 #[.val (.int i0), .val (.int i1), .val (.int i2), .val (.int i3), .val (.int i4), .val (.int (1 : Int32)), .val (.ref b1), .unset, .unset] []))
    refine own_st (fun wt wk => XS.iload X19.here hx rfl (hb hby at_29) rfl wk) ?_
    show Fin1 p e below s (rm0Q Z i0 i1 i2 i3 i4 vaM xM0 xM1 xM2 xM3 vcM vaJ xJ0 xJ1 xJ2 xJ3 vcJ h0 n0) room_1.cells room_1.slots (T19.setTop (mkF m 31 #[.val (.int i0), .val (.int i1), .val (.int i2), .val (.int i3), .val (.int i4), .val (.int (1 : Int32)), .val (.ref b1), .unset, .unset] [(.int (1 : Int32))]))
    refine own_st (fun wt wk => XS.iconst X19.here hx rfl (hb hby at_31) wk) ?_
    show Fin1 p e below s (rm0Q Z i0 i1 i2 i3 i4 vaM xM0 xM1 xM2 xM3 vcM vaJ xJ0 xJ1 xJ2 xJ3 vcJ h0 n0) room_1.cells room_1.slots (T19.setTop (mkF m 32 #[.val (.int i0), .val (.int i1), .val (.int i2), .val (.int i3), .val (.int i4), .val (.int (1 : Int32)), .val (.ref b1), .unset, .unset] [(.int (2 : Int32)), (.int (1 : Int32))]))
    refine own_st (fun wt wk => XS.icmpYes X19.here hx rfl (pc0 := 32) (pc' := 44) rfl (hb hby at_32) rfl (tlt (by decide)).1 (by decide) (by decide) wk) ?_
    show Fin1 p e below s (rm0Q Z i0 i1 i2 i3 i4 vaM xM0 xM1 xM2 xM3 vcM vaJ xJ0 xJ1 xJ2 xJ3 vcJ h0 n0) room_1.cells room_1.slots (T19.setTop (mkF m 44 #[.val (.int i0), .val (.int i1), .val (.int i2), .val (.int i3), .val (.int i4), .val (.int (1 : Int32)), .val (.ref b1), .unset, .unset] []))
    refine own_st (fun wt wk => XS.iload X19.here hx rfl (hb hby at_44) rfl wk) ?_
    show Fin1 p e below s (rm0Q Z i0 i1 i2 i3 i4 vaM xM0 xM1 xM2 xM3 vcM vaJ xJ0 xJ1 xJ2 xJ3 vcJ h0 n0) room_1.cells room_1.slots (T19.setTop (mkF m 46 #[.val (.int i0), .val (.int i1), .val (.int i2), .val (.int i3), .val (.int i4), .val (.int (1 : Int32)), .val (.ref b1), .unset, .unset] [(.int (1 : Int32))]))
    refine own_st (fun wt wk => XS.iconst X19.here hx rfl (hb hby at_46) wk) ?_
    show Fin1 p e below s (rm0Q Z i0 i1 i2 i3 i4 vaM xM0 xM1 xM2 xM3 vcM vaJ xJ0 xJ1 xJ2 xJ3 vcJ h0 n0) room_1.cells room_1.slots (T19.setTop (mkF m 47 #[.val (.int i0), .val (.int i1), .val (.int i2), .val (.int i3), .val (.int i4), .val (.int (1 : Int32)), .val (.ref b1), .unset, .unset] [(.int (3 : Int32)), (.int (1 : Int32))]))
    refine own_st (fun wt wk => XS.icmpYes X19.here hx rfl (pc0 := 47) (pc' := 59) rfl (hb hby at_47) rfl (tlt (by decide)).1 (by decide) (by decide) wk) ?_
    show Fin1 p e below s (rm0Q Z i0 i1 i2 i3 i4 vaM xM0 xM1 xM2 xM3 vcM vaJ xJ0 xJ1 xJ2 xJ3 vcJ h0 n0) room_1.cells room_1.slots (T19.setTop (mkF m 59 #[.val (.int i0), .val (.int i1), .val (.int i2), .val (.int i3), .val (.int i4), .val (.int (1 : Int32)), .val (.ref b1), .unset, .unset] []))
    refine own_st (fun wt wk => XS.aload X19.here hx rfl (hb hby at_59) rfl rfl wk) ?_
    show Fin1 p e below s (rm0Q Z i0 i1 i2 i3 i4 vaM xM0 xM1 xM2 xM3 vcM vaJ xJ0 xJ1 xJ2 xJ3 vcJ h0 n0) room_1.cells room_1.slots (T19.setTop (mkF m 61 #[.val (.int i0), .val (.int i1), .val (.int i2), .val (.int i3), .val (.int i4), .val (.int (1 : Int32)), .val (.ref b1), .unset, .unset] [(.ref b1)]))
    have EJ' := EJ
    obtain ⟨SJv, AJv, XJv, zJv, FJv, ⟨SJ0, QJ0, OJ0⟩, ⟨SJ1, QJ1, OJ1⟩, ⟨SJ2, QJ2, OJ2⟩, ⟨SJ3, QJ3, OJ3⟩⟩ := EJ'
    obtain ⟨T20, X20, e20, st20⟩ := getS2 X19 hx hZ hown (host := "") (Or.inl (hw _ (List.mem_of_getElem? (i := 57) rfl))) Via.refl e19 (SJ0.ext O.2) (g := (mkF m 61 #[.val (.int i0), .val (.int i1), .val (.int i2), .val (.int i3), .val (.int i4), .val (.int (1 : Int32)), .val (.ref b1), .unset, .unset] [(.ref b1)])) rfl (hb hby at_61)
    refine own_st st20 ?_
    show Fin1 p e below s (rm0Q Z i0 i1 i2 i3 i4 vaM xM0 xM1 xM2 xM3 vcM vaJ xJ0 xJ1 xJ2 xJ3 vcJ h0 n0) room_1.cells room_1.slots (T20.setTop (mkF m 64 #[.val (.int i0), .val (.int i1), .val (.int i2), .val (.int i3), .val (.int i4), .val (.int (1 : Int32)), .val (.ref b1), .unset, .unset] [(.ref xJ0), (.ref b1)]))
    obtain ⟨v21, T21, h21, L21, X21, e21, hQ21, st21⟩ := own_virtual X20 hx hZ hown (hw _ (List.mem_of_getElem? (i := 72) rfl)) (hw _ (List.mem_of_getElem? (i := 73) rfl)) (hw _ (List.mem_of_getElem? (i := 75) rfl)) (hw _ (List.mem_of_getElem? (i := 74) rfl)) (hw _ (List.mem_of_getElem? (i := 76) rfl)) (hw _ (List.mem_of_getElem? (i := 2) rfl)) (by decide) (a := b1) E_b1 (rm_getRejected l Z a0 hw b1 xJ0 (0 : Int32) t2 k2 [(.long ((0 : Int64) + own_hit (0 : Int32) (i0 &&& (3 : Int32)))), (.long ((0 : Int64) + own_hit (1 : Int32) (i0 &&& (3 : Int32)))), (.long ((0 : Int64) + own_hit (2 : Int32) (i0 &&& (3 : Int32)))), (.long ((0 : Int64) + own_hit (3 : Int32) (i0 &&& (3 : Int32))))] ((0 : Int64) + own_hit (0 : Int32) (i0 &&& (3 : Int32))) h19 n0 Z0 (by decide) F2 (QJ0.ext O.2) (OJ0.ext O.2) V_t2 rfl) e20 (g := (mkF m 64 #[.val (.int i0), .val (.int i1), .val (.int i2), .val (.int i3), .val (.int i4), .val (.int (1 : Int32)), .val (.ref b1), .unset, .unset] [(.ref xJ0), (.ref b1)])) rfl (by rw [hml]; rfl) (argsL := [(.ref xJ0)]) (rest := []) (lenOf pd_9 rfl) rfl (W := 0) (by show 2 * 0 + _ ≤ _; exact Nat.le_of_eq rfl) (hb hby at_64) (by decide) (by decide) (by decide) (by decide)
    obtain ⟨rfl, N21q, hh21⟩ := hQ21
    have N21 := Fr.app N19 N21q
    rw [hh21] at e21
    refine own_st st21 ?_
    show Fin1 p e below s (rm0Q Z i0 i1 i2 i3 i4 vaM xM0 xM1 xM2 xM3 vcM vaJ xJ0 xJ1 xJ2 xJ3 vcJ h0 n0) room_1.cells room_1.slots (T21.setTop (mkF m 67 #[.val (.int i0), .val (.int i1), .val (.int i2), .val (.int i3), .val (.int i4), .val (.int (1 : Int32)), .val (.ref b1), .unset, .unset] [(.long ((0 : Int64) + own_hit (0 : Int32) (i0 &&& (3 : Int32))))]))
    refine own_st (fun wt wk => XS.iload X21.here hx rfl (hb hby at_67) rfl wk) ?_
    show Fin1 p e below s (rm0Q Z i0 i1 i2 i3 i4 vaM xM0 xM1 xM2 xM3 vcM vaJ xJ0 xJ1 xJ2 xJ3 vcJ h0 n0) room_1.cells room_1.slots (T21.setTop (mkF m 69 #[.val (.int i0), .val (.int i1), .val (.int i2), .val (.int i3), .val (.int i4), .val (.int (1 : Int32)), .val (.ref b1), .unset, .unset] [(.int (1 : Int32)), (.long ((0 : Int64) + own_hit (0 : Int32) (i0 &&& (3 : Int32))))]))
    refine own_st (fun wt wk => XS.iloadN X21.here hx rfl (hb hby at_69) rfl wk) ?_
    show Fin1 p e below s (rm0Q Z i0 i1 i2 i3 i4 vaM xM0 xM1 xM2 xM3 vcM vaJ xJ0 xJ1 xJ2 xJ3 vcJ h0 n0) room_1.cells room_1.slots (T21.setTop (mkF m 70 #[.val (.int i0), .val (.int i1), .val (.int i2), .val (.int i3), .val (.int i4), .val (.int (1 : Int32)), .val (.ref b1), .unset, .unset] [(.int i0), (.int (1 : Int32)), (.long ((0 : Int64) + own_hit (0 : Int32) (i0 &&& (3 : Int32))))]))
    refine own_st (fun wt wk => XS.iloadN X21.here hx rfl (hb hby at_70) rfl wk) ?_
    show Fin1 p e below s (rm0Q Z i0 i1 i2 i3 i4 vaM xM0 xM1 xM2 xM3 vcM vaJ xJ0 xJ1 xJ2 xJ3 vcJ h0 n0) room_1.cells room_1.slots (T21.setTop (mkF m 71 #[.val (.int i0), .val (.int i1), .val (.int i2), .val (.int i3), .val (.int i4), .val (.int (1 : Int32)), .val (.ref b1), .unset, .unset] [(.int i1), (.int i0), (.int (1 : Int32)), (.long ((0 : Int64) + own_hit (0 : Int32) (i0 &&& (3 : Int32))))]))
    refine own_st (fun wt wk => XS.iloadN X21.here hx rfl (hb hby at_71) rfl wk) ?_
    show Fin1 p e below s (rm0Q Z i0 i1 i2 i3 i4 vaM xM0 xM1 xM2 xM3 vcM vaJ xJ0 xJ1 xJ2 xJ3 vcJ h0 n0) room_1.cells room_1.slots (T21.setTop (mkF m 72 #[.val (.int i0), .val (.int i1), .val (.int i2), .val (.int i3), .val (.int i4), .val (.int (1 : Int32)), .val (.ref b1), .unset, .unset] [(.int i2), (.int i1), (.int i0), (.int (1 : Int32)), (.long ((0 : Int64) + own_hit (0 : Int32) (i0 &&& (3 : Int32))))]))
    refine own_st (fun wt wk => XS.iconst X21.here hx rfl (hb hby at_72) wk) ?_
    show Fin1 p e below s (rm0Q Z i0 i1 i2 i3 i4 vaM xM0 xM1 xM2 xM3 vcM vaJ xJ0 xJ1 xJ2 xJ3 vcJ h0 n0) room_1.cells room_1.slots (T21.setTop (mkF m 73 #[.val (.int i0), .val (.int i1), .val (.int i2), .val (.int i3), .val (.int i4), .val (.int (1 : Int32)), .val (.ref b1), .unset, .unset] [(.int (0 : Int32)), (.int i2), (.int i1), (.int i0), (.int (1 : Int32)), (.long ((0 : Int64) + own_hit (0 : Int32) (i0 &&& (3 : Int32))))]))
    obtain ⟨v22, T22, h22, L22, X22, e22, hQ22, st22⟩ := own_static X21 hx hZ hown (hw _ (List.mem_of_getElem? (i := 77) rfl)) (hw _ (List.mem_of_getElem? (i := 78) rfl)) (hw _ (List.mem_of_getElem? (i := 55) rfl)) (hw _ (List.mem_of_getElem? (i := 79) rfl)) (by decide) (rmX l Z a0 hw (1 : Int32) i0 i1 i2 (0 : Int32) h19 n0 Z0) e21 (g := (mkF m 73 #[.val (.int i0), .val (.int i1), .val (.int i2), .val (.int i3), .val (.int i4), .val (.int (1 : Int32)), .val (.ref b1), .unset, .unset] [(.int (0 : Int32)), (.int i2), (.int i1), (.int i0), (.int (1 : Int32)), (.long ((0 : Int64) + own_hit (0 : Int32) (i0 &&& (3 : Int32))))])) rfl (by rw [hml]; rfl) (argsL := [(.int (1 : Int32)), (.int i0), (.int i1), (.int i2), (.int (0 : Int32))]) (rest := [(.long ((0 : Int64) + own_hit (0 : Int32) (i0 &&& (3 : Int32))))]) (lenOf pd_10 rfl) rfl (W := 2) (by show 2 * 0 + _ ≤ _; exact Nat.le_of_eq rfl) (hb hby at_73) (by decide) (by decide) (by decide) (by decide)
    obtain ⟨rfl, N22q, hh22⟩ := hQ22
    have N22 := Fr.app N21 N22q
    rw [hh22] at e22
    refine own_st st22 ?_
    show Fin1 p e below s (rm0Q Z i0 i1 i2 i3 i4 vaM xM0 xM1 xM2 xM3 vcM vaJ xJ0 xJ1 xJ2 xJ3 vcJ h0 n0) room_1.cells room_1.slots (T22.setTop (mkF m 76 #[.val (.int i0), .val (.int i1), .val (.int i2), .val (.int i3), .val (.int i4), .val (.int (1 : Int32)), .val (.ref b1), .unset, .unset] [(.long (own_exp (1 : Int32) i0 i1 i2 (0 : Int32))), (.long ((0 : Int64) + own_hit (0 : Int32) (i0 &&& (3 : Int32))))]))
    refine own_st (fun wt wk => XS.lcmp X22.here hx rfl (hb hby at_76) rfl wk) ?_
    show Fin1 p e below s (rm0Q Z i0 i1 i2 i3 i4 vaM xM0 xM1 xM2 xM3 vcM vaJ xJ0 xJ1 xJ2 xJ3 vcJ h0 n0) room_1.cells room_1.slots (T22.setTop (mkF m 77 #[.val (.int i0), .val (.int i1), .val (.int i2), .val (.int i3), .val (.int i4), .val (.int (1 : Int32)), .val (.ref b1), .unset, .unset] [(.int (lcmpW ((0 : Int64) + own_hit (0 : Int32) (i0 &&& (3 : Int32))) (own_exp (1 : Int32) i0 i1 i2 (0 : Int32))))]))
    refine own_st (fun wt wk => XS.ifNo X22.here hx rfl (hb hby at_77) rfl ((if0 _ _).trans (teq ((lw_eq _ _).mpr (own_same1 i0 i1 i2 (0 : Int32)) : (lcmpW ((0 : Int64) + own_hit (0 : Int32) (i0 &&& (3 : Int32))) (own_exp (1 : Int32) i0 i1 i2 (0 : Int32))) = (0 : Int32))).2) wk) ?_
    show Fin1 p e below s (rm0Q Z i0 i1 i2 i3 i4 vaM xM0 xM1 xM2 xM3 vcM vaJ xJ0 xJ1 xJ2 xJ3 vcJ h0 n0) room_1.cells room_1.slots (T22.setTop (mkF m 80 #[.val (.int i0), .val (.int i1), .val (.int i2), .val (.int i3), .val (.int i4), .val (.int (1 : Int32)), .val (.ref b1), .unset, .unset] []))
    refine own_st (fun wt wk => XS.aload X22.here hx rfl (hb hby at_80) rfl rfl wk) ?_
    show Fin1 p e below s (rm0Q Z i0 i1 i2 i3 i4 vaM xM0 xM1 xM2 xM3 vcM vaJ xJ0 xJ1 xJ2 xJ3 vcJ h0 n0) room_1.cells room_1.slots (T22.setTop (mkF m 82 #[.val (.int i0), .val (.int i1), .val (.int i2), .val (.int i3), .val (.int i4), .val (.int (1 : Int32)), .val (.ref b1), .unset, .unset] [(.ref b1)]))
    obtain ⟨T23, X23, e23, st23⟩ := getS2 X22 hx hZ hown (host := "") (Or.inl (hw _ (List.mem_of_getElem? (i := 80) rfl))) Via.refl e22 (SJ1.ext O.2) (g := (mkF m 82 #[.val (.int i0), .val (.int i1), .val (.int i2), .val (.int i3), .val (.int i4), .val (.int (1 : Int32)), .val (.ref b1), .unset, .unset] [(.ref b1)])) rfl (hb hby at_82)
    refine own_st st23 ?_
    show Fin1 p e below s (rm0Q Z i0 i1 i2 i3 i4 vaM xM0 xM1 xM2 xM3 vcM vaJ xJ0 xJ1 xJ2 xJ3 vcJ h0 n0) room_1.cells room_1.slots (T23.setTop (mkF m 85 #[.val (.int i0), .val (.int i1), .val (.int i2), .val (.int i3), .val (.int i4), .val (.int (1 : Int32)), .val (.ref b1), .unset, .unset] [(.ref xJ1), (.ref b1)]))
    obtain ⟨v24, T24, h24, L24, X24, e24, hQ24, st24⟩ := own_virtual X23 hx hZ hown (hw _ (List.mem_of_getElem? (i := 72) rfl)) (hw _ (List.mem_of_getElem? (i := 73) rfl)) (hw _ (List.mem_of_getElem? (i := 75) rfl)) (hw _ (List.mem_of_getElem? (i := 74) rfl)) (hw _ (List.mem_of_getElem? (i := 76) rfl)) (hw _ (List.mem_of_getElem? (i := 2) rfl)) (by decide) (a := b1) E_b1 (rm_getRejected l Z a0 hw b1 xJ1 (1 : Int32) t2 k2 [(.long ((0 : Int64) + own_hit (0 : Int32) (i0 &&& (3 : Int32)))), (.long ((0 : Int64) + own_hit (1 : Int32) (i0 &&& (3 : Int32)))), (.long ((0 : Int64) + own_hit (2 : Int32) (i0 &&& (3 : Int32)))), (.long ((0 : Int64) + own_hit (3 : Int32) (i0 &&& (3 : Int32))))] ((0 : Int64) + own_hit (1 : Int32) (i0 &&& (3 : Int32))) h19 n0 Z0 (by decide) F2 (QJ1.ext O.2) (OJ1.ext O.2) V_t2 rfl) e23 (g := (mkF m 85 #[.val (.int i0), .val (.int i1), .val (.int i2), .val (.int i3), .val (.int i4), .val (.int (1 : Int32)), .val (.ref b1), .unset, .unset] [(.ref xJ1), (.ref b1)])) rfl (by rw [hml]; rfl) (argsL := [(.ref xJ1)]) (rest := []) (lenOf pd_9 rfl) rfl (W := 0) (by show 2 * 0 + _ ≤ _; exact Nat.le_of_eq rfl) (hb hby at_85) (by decide) (by decide) (by decide) (by decide)
    obtain ⟨rfl, N24q, hh24⟩ := hQ24
    have N24 := Fr.app N22 N24q
    rw [hh24] at e24
    refine own_st st24 ?_
    show Fin1 p e below s (rm0Q Z i0 i1 i2 i3 i4 vaM xM0 xM1 xM2 xM3 vcM vaJ xJ0 xJ1 xJ2 xJ3 vcJ h0 n0) room_1.cells room_1.slots (T24.setTop (mkF m 88 #[.val (.int i0), .val (.int i1), .val (.int i2), .val (.int i3), .val (.int i4), .val (.int (1 : Int32)), .val (.ref b1), .unset, .unset] [(.long ((0 : Int64) + own_hit (1 : Int32) (i0 &&& (3 : Int32))))]))
    refine own_st (fun wt wk => XS.iload X24.here hx rfl (hb hby at_88) rfl wk) ?_
    show Fin1 p e below s (rm0Q Z i0 i1 i2 i3 i4 vaM xM0 xM1 xM2 xM3 vcM vaJ xJ0 xJ1 xJ2 xJ3 vcJ h0 n0) room_1.cells room_1.slots (T24.setTop (mkF m 90 #[.val (.int i0), .val (.int i1), .val (.int i2), .val (.int i3), .val (.int i4), .val (.int (1 : Int32)), .val (.ref b1), .unset, .unset] [(.int (1 : Int32)), (.long ((0 : Int64) + own_hit (1 : Int32) (i0 &&& (3 : Int32))))]))
    refine own_st (fun wt wk => XS.iloadN X24.here hx rfl (hb hby at_90) rfl wk) ?_
    show Fin1 p e below s (rm0Q Z i0 i1 i2 i3 i4 vaM xM0 xM1 xM2 xM3 vcM vaJ xJ0 xJ1 xJ2 xJ3 vcJ h0 n0) room_1.cells room_1.slots (T24.setTop (mkF m 91 #[.val (.int i0), .val (.int i1), .val (.int i2), .val (.int i3), .val (.int i4), .val (.int (1 : Int32)), .val (.ref b1), .unset, .unset] [(.int i0), (.int (1 : Int32)), (.long ((0 : Int64) + own_hit (1 : Int32) (i0 &&& (3 : Int32))))]))
    refine own_st (fun wt wk => XS.iloadN X24.here hx rfl (hb hby at_91) rfl wk) ?_
    show Fin1 p e below s (rm0Q Z i0 i1 i2 i3 i4 vaM xM0 xM1 xM2 xM3 vcM vaJ xJ0 xJ1 xJ2 xJ3 vcJ h0 n0) room_1.cells room_1.slots (T24.setTop (mkF m 92 #[.val (.int i0), .val (.int i1), .val (.int i2), .val (.int i3), .val (.int i4), .val (.int (1 : Int32)), .val (.ref b1), .unset, .unset] [(.int i1), (.int i0), (.int (1 : Int32)), (.long ((0 : Int64) + own_hit (1 : Int32) (i0 &&& (3 : Int32))))]))
    refine own_st (fun wt wk => XS.iloadN X24.here hx rfl (hb hby at_92) rfl wk) ?_
    show Fin1 p e below s (rm0Q Z i0 i1 i2 i3 i4 vaM xM0 xM1 xM2 xM3 vcM vaJ xJ0 xJ1 xJ2 xJ3 vcJ h0 n0) room_1.cells room_1.slots (T24.setTop (mkF m 93 #[.val (.int i0), .val (.int i1), .val (.int i2), .val (.int i3), .val (.int i4), .val (.int (1 : Int32)), .val (.ref b1), .unset, .unset] [(.int i2), (.int i1), (.int i0), (.int (1 : Int32)), (.long ((0 : Int64) + own_hit (1 : Int32) (i0 &&& (3 : Int32))))]))
    refine own_st (fun wt wk => XS.iconst X24.here hx rfl (hb hby at_93) wk) ?_
    show Fin1 p e below s (rm0Q Z i0 i1 i2 i3 i4 vaM xM0 xM1 xM2 xM3 vcM vaJ xJ0 xJ1 xJ2 xJ3 vcJ h0 n0) room_1.cells room_1.slots (T24.setTop (mkF m 94 #[.val (.int i0), .val (.int i1), .val (.int i2), .val (.int i3), .val (.int i4), .val (.int (1 : Int32)), .val (.ref b1), .unset, .unset] [(.int (1 : Int32)), (.int i2), (.int i1), (.int i0), (.int (1 : Int32)), (.long ((0 : Int64) + own_hit (1 : Int32) (i0 &&& (3 : Int32))))]))
    obtain ⟨v25, T25, h25, L25, X25, e25, hQ25, st25⟩ := own_static X24 hx hZ hown (hw _ (List.mem_of_getElem? (i := 77) rfl)) (hw _ (List.mem_of_getElem? (i := 78) rfl)) (hw _ (List.mem_of_getElem? (i := 55) rfl)) (hw _ (List.mem_of_getElem? (i := 79) rfl)) (by decide) (rmX l Z a0 hw (1 : Int32) i0 i1 i2 (1 : Int32) h19 n0 Z0) e24 (g := (mkF m 94 #[.val (.int i0), .val (.int i1), .val (.int i2), .val (.int i3), .val (.int i4), .val (.int (1 : Int32)), .val (.ref b1), .unset, .unset] [(.int (1 : Int32)), (.int i2), (.int i1), (.int i0), (.int (1 : Int32)), (.long ((0 : Int64) + own_hit (1 : Int32) (i0 &&& (3 : Int32))))])) rfl (by rw [hml]; rfl) (argsL := [(.int (1 : Int32)), (.int i0), (.int i1), (.int i2), (.int (1 : Int32))]) (rest := [(.long ((0 : Int64) + own_hit (1 : Int32) (i0 &&& (3 : Int32))))]) (lenOf pd_10 rfl) rfl (W := 2) (by show 2 * 0 + _ ≤ _; exact Nat.le_of_eq rfl) (hb hby at_94) (by decide) (by decide) (by decide) (by decide)
    obtain ⟨rfl, N25q, hh25⟩ := hQ25
    have N25 := Fr.app N24 N25q
    rw [hh25] at e25
    refine own_st st25 ?_
    show Fin1 p e below s (rm0Q Z i0 i1 i2 i3 i4 vaM xM0 xM1 xM2 xM3 vcM vaJ xJ0 xJ1 xJ2 xJ3 vcJ h0 n0) room_1.cells room_1.slots (T25.setTop (mkF m 97 #[.val (.int i0), .val (.int i1), .val (.int i2), .val (.int i3), .val (.int i4), .val (.int (1 : Int32)), .val (.ref b1), .unset, .unset] [(.long (own_exp (1 : Int32) i0 i1 i2 (1 : Int32))), (.long ((0 : Int64) + own_hit (1 : Int32) (i0 &&& (3 : Int32))))]))
    refine own_st (fun wt wk => XS.lcmp X25.here hx rfl (hb hby at_97) rfl wk) ?_
    show Fin1 p e below s (rm0Q Z i0 i1 i2 i3 i4 vaM xM0 xM1 xM2 xM3 vcM vaJ xJ0 xJ1 xJ2 xJ3 vcJ h0 n0) room_1.cells room_1.slots (T25.setTop (mkF m 98 #[.val (.int i0), .val (.int i1), .val (.int i2), .val (.int i3), .val (.int i4), .val (.int (1 : Int32)), .val (.ref b1), .unset, .unset] [(.int (lcmpW ((0 : Int64) + own_hit (1 : Int32) (i0 &&& (3 : Int32))) (own_exp (1 : Int32) i0 i1 i2 (1 : Int32))))]))
    refine own_st (fun wt wk => XS.ifNo X25.here hx rfl (hb hby at_98) rfl ((if0 _ _).trans (teq ((lw_eq _ _).mpr (own_same1 i0 i1 i2 (1 : Int32)) : (lcmpW ((0 : Int64) + own_hit (1 : Int32) (i0 &&& (3 : Int32))) (own_exp (1 : Int32) i0 i1 i2 (1 : Int32))) = (0 : Int32))).2) wk) ?_
    show Fin1 p e below s (rm0Q Z i0 i1 i2 i3 i4 vaM xM0 xM1 xM2 xM3 vcM vaJ xJ0 xJ1 xJ2 xJ3 vcJ h0 n0) room_1.cells room_1.slots (T25.setTop (mkF m 101 #[.val (.int i0), .val (.int i1), .val (.int i2), .val (.int i3), .val (.int i4), .val (.int (1 : Int32)), .val (.ref b1), .unset, .unset] []))
    refine own_st (fun wt wk => XS.aload X25.here hx rfl (hb hby at_101) rfl rfl wk) ?_
    show Fin1 p e below s (rm0Q Z i0 i1 i2 i3 i4 vaM xM0 xM1 xM2 xM3 vcM vaJ xJ0 xJ1 xJ2 xJ3 vcJ h0 n0) room_1.cells room_1.slots (T25.setTop (mkF m 103 #[.val (.int i0), .val (.int i1), .val (.int i2), .val (.int i3), .val (.int i4), .val (.int (1 : Int32)), .val (.ref b1), .unset, .unset] [(.ref b1)]))
    obtain ⟨T26, X26, e26, st26⟩ := getS2 X25 hx hZ hown (host := "") (Or.inl (hw _ (List.mem_of_getElem? (i := 81) rfl))) Via.refl e25 (SJ2.ext O.2) (g := (mkF m 103 #[.val (.int i0), .val (.int i1), .val (.int i2), .val (.int i3), .val (.int i4), .val (.int (1 : Int32)), .val (.ref b1), .unset, .unset] [(.ref b1)])) rfl (hb hby at_103)
    refine own_st st26 ?_
    show Fin1 p e below s (rm0Q Z i0 i1 i2 i3 i4 vaM xM0 xM1 xM2 xM3 vcM vaJ xJ0 xJ1 xJ2 xJ3 vcJ h0 n0) room_1.cells room_1.slots (T26.setTop (mkF m 106 #[.val (.int i0), .val (.int i1), .val (.int i2), .val (.int i3), .val (.int i4), .val (.int (1 : Int32)), .val (.ref b1), .unset, .unset] [(.ref xJ2), (.ref b1)]))
    obtain ⟨v27, T27, h27, L27, X27, e27, hQ27, st27⟩ := own_virtual X26 hx hZ hown (hw _ (List.mem_of_getElem? (i := 72) rfl)) (hw _ (List.mem_of_getElem? (i := 73) rfl)) (hw _ (List.mem_of_getElem? (i := 75) rfl)) (hw _ (List.mem_of_getElem? (i := 74) rfl)) (hw _ (List.mem_of_getElem? (i := 76) rfl)) (hw _ (List.mem_of_getElem? (i := 2) rfl)) (by decide) (a := b1) E_b1 (rm_getRejected l Z a0 hw b1 xJ2 (2 : Int32) t2 k2 [(.long ((0 : Int64) + own_hit (0 : Int32) (i0 &&& (3 : Int32)))), (.long ((0 : Int64) + own_hit (1 : Int32) (i0 &&& (3 : Int32)))), (.long ((0 : Int64) + own_hit (2 : Int32) (i0 &&& (3 : Int32)))), (.long ((0 : Int64) + own_hit (3 : Int32) (i0 &&& (3 : Int32))))] ((0 : Int64) + own_hit (2 : Int32) (i0 &&& (3 : Int32))) h19 n0 Z0 (by decide) F2 (QJ2.ext O.2) (OJ2.ext O.2) V_t2 rfl) e26 (g := (mkF m 106 #[.val (.int i0), .val (.int i1), .val (.int i2), .val (.int i3), .val (.int i4), .val (.int (1 : Int32)), .val (.ref b1), .unset, .unset] [(.ref xJ2), (.ref b1)])) rfl (by rw [hml]; rfl) (argsL := [(.ref xJ2)]) (rest := []) (lenOf pd_9 rfl) rfl (W := 0) (by show 2 * 0 + _ ≤ _; exact Nat.le_of_eq rfl) (hb hby at_106) (by decide) (by decide) (by decide) (by decide)
    obtain ⟨rfl, N27q, hh27⟩ := hQ27
    have N27 := Fr.app N25 N27q
    rw [hh27] at e27
    refine own_st st27 ?_
    show Fin1 p e below s (rm0Q Z i0 i1 i2 i3 i4 vaM xM0 xM1 xM2 xM3 vcM vaJ xJ0 xJ1 xJ2 xJ3 vcJ h0 n0) room_1.cells room_1.slots (T27.setTop (mkF m 109 #[.val (.int i0), .val (.int i1), .val (.int i2), .val (.int i3), .val (.int i4), .val (.int (1 : Int32)), .val (.ref b1), .unset, .unset] [(.long ((0 : Int64) + own_hit (2 : Int32) (i0 &&& (3 : Int32))))]))
    refine own_st (fun wt wk => XS.iload X27.here hx rfl (hb hby at_109) rfl wk) ?_
    show Fin1 p e below s (rm0Q Z i0 i1 i2 i3 i4 vaM xM0 xM1 xM2 xM3 vcM vaJ xJ0 xJ1 xJ2 xJ3 vcJ h0 n0) room_1.cells room_1.slots (T27.setTop (mkF m 111 #[.val (.int i0), .val (.int i1), .val (.int i2), .val (.int i3), .val (.int i4), .val (.int (1 : Int32)), .val (.ref b1), .unset, .unset] [(.int (1 : Int32)), (.long ((0 : Int64) + own_hit (2 : Int32) (i0 &&& (3 : Int32))))]))
    refine own_st (fun wt wk => XS.iloadN X27.here hx rfl (hb hby at_111) rfl wk) ?_
    show Fin1 p e below s (rm0Q Z i0 i1 i2 i3 i4 vaM xM0 xM1 xM2 xM3 vcM vaJ xJ0 xJ1 xJ2 xJ3 vcJ h0 n0) room_1.cells room_1.slots (T27.setTop (mkF m 112 #[.val (.int i0), .val (.int i1), .val (.int i2), .val (.int i3), .val (.int i4), .val (.int (1 : Int32)), .val (.ref b1), .unset, .unset] [(.int i0), (.int (1 : Int32)), (.long ((0 : Int64) + own_hit (2 : Int32) (i0 &&& (3 : Int32))))]))
    refine own_st (fun wt wk => XS.iloadN X27.here hx rfl (hb hby at_112) rfl wk) ?_
    show Fin1 p e below s (rm0Q Z i0 i1 i2 i3 i4 vaM xM0 xM1 xM2 xM3 vcM vaJ xJ0 xJ1 xJ2 xJ3 vcJ h0 n0) room_1.cells room_1.slots (T27.setTop (mkF m 113 #[.val (.int i0), .val (.int i1), .val (.int i2), .val (.int i3), .val (.int i4), .val (.int (1 : Int32)), .val (.ref b1), .unset, .unset] [(.int i1), (.int i0), (.int (1 : Int32)), (.long ((0 : Int64) + own_hit (2 : Int32) (i0 &&& (3 : Int32))))]))
    refine own_st (fun wt wk => XS.iloadN X27.here hx rfl (hb hby at_113) rfl wk) ?_
    show Fin1 p e below s (rm0Q Z i0 i1 i2 i3 i4 vaM xM0 xM1 xM2 xM3 vcM vaJ xJ0 xJ1 xJ2 xJ3 vcJ h0 n0) room_1.cells room_1.slots (T27.setTop (mkF m 114 #[.val (.int i0), .val (.int i1), .val (.int i2), .val (.int i3), .val (.int i4), .val (.int (1 : Int32)), .val (.ref b1), .unset, .unset] [(.int i2), (.int i1), (.int i0), (.int (1 : Int32)), (.long ((0 : Int64) + own_hit (2 : Int32) (i0 &&& (3 : Int32))))]))
    refine own_st (fun wt wk => XS.iconst X27.here hx rfl (hb hby at_114) wk) ?_
    show Fin1 p e below s (rm0Q Z i0 i1 i2 i3 i4 vaM xM0 xM1 xM2 xM3 vcM vaJ xJ0 xJ1 xJ2 xJ3 vcJ h0 n0) room_1.cells room_1.slots (T27.setTop (mkF m 115 #[.val (.int i0), .val (.int i1), .val (.int i2), .val (.int i3), .val (.int i4), .val (.int (1 : Int32)), .val (.ref b1), .unset, .unset] [(.int (2 : Int32)), (.int i2), (.int i1), (.int i0), (.int (1 : Int32)), (.long ((0 : Int64) + own_hit (2 : Int32) (i0 &&& (3 : Int32))))]))
    obtain ⟨v28, T28, h28, L28, X28, e28, hQ28, st28⟩ := own_static X27 hx hZ hown (hw _ (List.mem_of_getElem? (i := 77) rfl)) (hw _ (List.mem_of_getElem? (i := 78) rfl)) (hw _ (List.mem_of_getElem? (i := 55) rfl)) (hw _ (List.mem_of_getElem? (i := 79) rfl)) (by decide) (rmX l Z a0 hw (1 : Int32) i0 i1 i2 (2 : Int32) h19 n0 Z0) e27 (g := (mkF m 115 #[.val (.int i0), .val (.int i1), .val (.int i2), .val (.int i3), .val (.int i4), .val (.int (1 : Int32)), .val (.ref b1), .unset, .unset] [(.int (2 : Int32)), (.int i2), (.int i1), (.int i0), (.int (1 : Int32)), (.long ((0 : Int64) + own_hit (2 : Int32) (i0 &&& (3 : Int32))))])) rfl (by rw [hml]; rfl) (argsL := [(.int (1 : Int32)), (.int i0), (.int i1), (.int i2), (.int (2 : Int32))]) (rest := [(.long ((0 : Int64) + own_hit (2 : Int32) (i0 &&& (3 : Int32))))]) (lenOf pd_10 rfl) rfl (W := 2) (by show 2 * 0 + _ ≤ _; exact Nat.le_of_eq rfl) (hb hby at_115) (by decide) (by decide) (by decide) (by decide)
    obtain ⟨rfl, N28q, hh28⟩ := hQ28
    have N28 := Fr.app N27 N28q
    rw [hh28] at e28
    refine own_st st28 ?_
    show Fin1 p e below s (rm0Q Z i0 i1 i2 i3 i4 vaM xM0 xM1 xM2 xM3 vcM vaJ xJ0 xJ1 xJ2 xJ3 vcJ h0 n0) room_1.cells room_1.slots (T28.setTop (mkF m 118 #[.val (.int i0), .val (.int i1), .val (.int i2), .val (.int i3), .val (.int i4), .val (.int (1 : Int32)), .val (.ref b1), .unset, .unset] [(.long (own_exp (1 : Int32) i0 i1 i2 (2 : Int32))), (.long ((0 : Int64) + own_hit (2 : Int32) (i0 &&& (3 : Int32))))]))
    refine own_st (fun wt wk => XS.lcmp X28.here hx rfl (hb hby at_118) rfl wk) ?_
    show Fin1 p e below s (rm0Q Z i0 i1 i2 i3 i4 vaM xM0 xM1 xM2 xM3 vcM vaJ xJ0 xJ1 xJ2 xJ3 vcJ h0 n0) room_1.cells room_1.slots (T28.setTop (mkF m 119 #[.val (.int i0), .val (.int i1), .val (.int i2), .val (.int i3), .val (.int i4), .val (.int (1 : Int32)), .val (.ref b1), .unset, .unset] [(.int (lcmpW ((0 : Int64) + own_hit (2 : Int32) (i0 &&& (3 : Int32))) (own_exp (1 : Int32) i0 i1 i2 (2 : Int32))))]))
    refine own_st (fun wt wk => XS.ifNo X28.here hx rfl (hb hby at_119) rfl ((if0 _ _).trans (teq ((lw_eq _ _).mpr (own_same1 i0 i1 i2 (2 : Int32)) : (lcmpW ((0 : Int64) + own_hit (2 : Int32) (i0 &&& (3 : Int32))) (own_exp (1 : Int32) i0 i1 i2 (2 : Int32))) = (0 : Int32))).2) wk) ?_
    show Fin1 p e below s (rm0Q Z i0 i1 i2 i3 i4 vaM xM0 xM1 xM2 xM3 vcM vaJ xJ0 xJ1 xJ2 xJ3 vcJ h0 n0) room_1.cells room_1.slots (T28.setTop (mkF m 122 #[.val (.int i0), .val (.int i1), .val (.int i2), .val (.int i3), .val (.int i4), .val (.int (1 : Int32)), .val (.ref b1), .unset, .unset] []))
    refine own_st (fun wt wk => XS.aload X28.here hx rfl (hb hby at_122) rfl rfl wk) ?_
    show Fin1 p e below s (rm0Q Z i0 i1 i2 i3 i4 vaM xM0 xM1 xM2 xM3 vcM vaJ xJ0 xJ1 xJ2 xJ3 vcJ h0 n0) room_1.cells room_1.slots (T28.setTop (mkF m 124 #[.val (.int i0), .val (.int i1), .val (.int i2), .val (.int i3), .val (.int i4), .val (.int (1 : Int32)), .val (.ref b1), .unset, .unset] [(.ref b1)]))
    obtain ⟨T29, X29, e29, st29⟩ := getS2 X28 hx hZ hown (host := "") (Or.inl (hw _ (List.mem_of_getElem? (i := 82) rfl))) Via.refl e28 (SJ3.ext O.2) (g := (mkF m 124 #[.val (.int i0), .val (.int i1), .val (.int i2), .val (.int i3), .val (.int i4), .val (.int (1 : Int32)), .val (.ref b1), .unset, .unset] [(.ref b1)])) rfl (hb hby at_124)
    refine own_st st29 ?_
    show Fin1 p e below s (rm0Q Z i0 i1 i2 i3 i4 vaM xM0 xM1 xM2 xM3 vcM vaJ xJ0 xJ1 xJ2 xJ3 vcJ h0 n0) room_1.cells room_1.slots (T29.setTop (mkF m 127 #[.val (.int i0), .val (.int i1), .val (.int i2), .val (.int i3), .val (.int i4), .val (.int (1 : Int32)), .val (.ref b1), .unset, .unset] [(.ref xJ3), (.ref b1)]))
    obtain ⟨v30, T30, h30, L30, X30, e30, hQ30, st30⟩ := own_virtual X29 hx hZ hown (hw _ (List.mem_of_getElem? (i := 72) rfl)) (hw _ (List.mem_of_getElem? (i := 73) rfl)) (hw _ (List.mem_of_getElem? (i := 75) rfl)) (hw _ (List.mem_of_getElem? (i := 74) rfl)) (hw _ (List.mem_of_getElem? (i := 76) rfl)) (hw _ (List.mem_of_getElem? (i := 2) rfl)) (by decide) (a := b1) E_b1 (rm_getRejected l Z a0 hw b1 xJ3 (3 : Int32) t2 k2 [(.long ((0 : Int64) + own_hit (0 : Int32) (i0 &&& (3 : Int32)))), (.long ((0 : Int64) + own_hit (1 : Int32) (i0 &&& (3 : Int32)))), (.long ((0 : Int64) + own_hit (2 : Int32) (i0 &&& (3 : Int32)))), (.long ((0 : Int64) + own_hit (3 : Int32) (i0 &&& (3 : Int32))))] ((0 : Int64) + own_hit (3 : Int32) (i0 &&& (3 : Int32))) h19 n0 Z0 (by decide) F2 (QJ3.ext O.2) (OJ3.ext O.2) V_t2 rfl) e29 (g := (mkF m 127 #[.val (.int i0), .val (.int i1), .val (.int i2), .val (.int i3), .val (.int i4), .val (.int (1 : Int32)), .val (.ref b1), .unset, .unset] [(.ref xJ3), (.ref b1)])) rfl (by rw [hml]; rfl) (argsL := [(.ref xJ3)]) (rest := []) (lenOf pd_9 rfl) rfl (W := 0) (by show 2 * 0 + _ ≤ _; exact Nat.le_of_eq rfl) (hb hby at_127) (by decide) (by decide) (by decide) (by decide)
    obtain ⟨rfl, N30q, hh30⟩ := hQ30
    have N30 := Fr.app N28 N30q
    rw [hh30] at e30
    refine own_st st30 ?_
    show Fin1 p e below s (rm0Q Z i0 i1 i2 i3 i4 vaM xM0 xM1 xM2 xM3 vcM vaJ xJ0 xJ1 xJ2 xJ3 vcJ h0 n0) room_1.cells room_1.slots (T30.setTop (mkF m 130 #[.val (.int i0), .val (.int i1), .val (.int i2), .val (.int i3), .val (.int i4), .val (.int (1 : Int32)), .val (.ref b1), .unset, .unset] [(.long ((0 : Int64) + own_hit (3 : Int32) (i0 &&& (3 : Int32))))]))
    refine own_st (fun wt wk => XS.iload X30.here hx rfl (hb hby at_130) rfl wk) ?_
    show Fin1 p e below s (rm0Q Z i0 i1 i2 i3 i4 vaM xM0 xM1 xM2 xM3 vcM vaJ xJ0 xJ1 xJ2 xJ3 vcJ h0 n0) room_1.cells room_1.slots (T30.setTop (mkF m 132 #[.val (.int i0), .val (.int i1), .val (.int i2), .val (.int i3), .val (.int i4), .val (.int (1 : Int32)), .val (.ref b1), .unset, .unset] [(.int (1 : Int32)), (.long ((0 : Int64) + own_hit (3 : Int32) (i0 &&& (3 : Int32))))]))
    refine own_st (fun wt wk => XS.iloadN X30.here hx rfl (hb hby at_132) rfl wk) ?_
    show Fin1 p e below s (rm0Q Z i0 i1 i2 i3 i4 vaM xM0 xM1 xM2 xM3 vcM vaJ xJ0 xJ1 xJ2 xJ3 vcJ h0 n0) room_1.cells room_1.slots (T30.setTop (mkF m 133 #[.val (.int i0), .val (.int i1), .val (.int i2), .val (.int i3), .val (.int i4), .val (.int (1 : Int32)), .val (.ref b1), .unset, .unset] [(.int i0), (.int (1 : Int32)), (.long ((0 : Int64) + own_hit (3 : Int32) (i0 &&& (3 : Int32))))]))
    refine own_st (fun wt wk => XS.iloadN X30.here hx rfl (hb hby at_133) rfl wk) ?_
    show Fin1 p e below s (rm0Q Z i0 i1 i2 i3 i4 vaM xM0 xM1 xM2 xM3 vcM vaJ xJ0 xJ1 xJ2 xJ3 vcJ h0 n0) room_1.cells room_1.slots (T30.setTop (mkF m 134 #[.val (.int i0), .val (.int i1), .val (.int i2), .val (.int i3), .val (.int i4), .val (.int (1 : Int32)), .val (.ref b1), .unset, .unset] [(.int i1), (.int i0), (.int (1 : Int32)), (.long ((0 : Int64) + own_hit (3 : Int32) (i0 &&& (3 : Int32))))]))
    refine own_st (fun wt wk => XS.iloadN X30.here hx rfl (hb hby at_134) rfl wk) ?_
    show Fin1 p e below s (rm0Q Z i0 i1 i2 i3 i4 vaM xM0 xM1 xM2 xM3 vcM vaJ xJ0 xJ1 xJ2 xJ3 vcJ h0 n0) room_1.cells room_1.slots (T30.setTop (mkF m 135 #[.val (.int i0), .val (.int i1), .val (.int i2), .val (.int i3), .val (.int i4), .val (.int (1 : Int32)), .val (.ref b1), .unset, .unset] [(.int i2), (.int i1), (.int i0), (.int (1 : Int32)), (.long ((0 : Int64) + own_hit (3 : Int32) (i0 &&& (3 : Int32))))]))
    refine own_st (fun wt wk => XS.iconst X30.here hx rfl (hb hby at_135) wk) ?_
    show Fin1 p e below s (rm0Q Z i0 i1 i2 i3 i4 vaM xM0 xM1 xM2 xM3 vcM vaJ xJ0 xJ1 xJ2 xJ3 vcJ h0 n0) room_1.cells room_1.slots (T30.setTop (mkF m 136 #[.val (.int i0), .val (.int i1), .val (.int i2), .val (.int i3), .val (.int i4), .val (.int (1 : Int32)), .val (.ref b1), .unset, .unset] [(.int (3 : Int32)), (.int i2), (.int i1), (.int i0), (.int (1 : Int32)), (.long ((0 : Int64) + own_hit (3 : Int32) (i0 &&& (3 : Int32))))]))
    obtain ⟨v31, T31, h31, L31, X31, e31, hQ31, st31⟩ := own_static X30 hx hZ hown (hw _ (List.mem_of_getElem? (i := 77) rfl)) (hw _ (List.mem_of_getElem? (i := 78) rfl)) (hw _ (List.mem_of_getElem? (i := 55) rfl)) (hw _ (List.mem_of_getElem? (i := 79) rfl)) (by decide) (rmX l Z a0 hw (1 : Int32) i0 i1 i2 (3 : Int32) h19 n0 Z0) e30 (g := (mkF m 136 #[.val (.int i0), .val (.int i1), .val (.int i2), .val (.int i3), .val (.int i4), .val (.int (1 : Int32)), .val (.ref b1), .unset, .unset] [(.int (3 : Int32)), (.int i2), (.int i1), (.int i0), (.int (1 : Int32)), (.long ((0 : Int64) + own_hit (3 : Int32) (i0 &&& (3 : Int32))))])) rfl (by rw [hml]; rfl) (argsL := [(.int (1 : Int32)), (.int i0), (.int i1), (.int i2), (.int (3 : Int32))]) (rest := [(.long ((0 : Int64) + own_hit (3 : Int32) (i0 &&& (3 : Int32))))]) (lenOf pd_10 rfl) rfl (W := 2) (by show 2 * 0 + _ ≤ _; exact Nat.le_of_eq rfl) (hb hby at_136) (by decide) (by decide) (by decide) (by decide)
    obtain ⟨rfl, N31q, hh31⟩ := hQ31
    have N31 := Fr.app N30 N31q
    rw [hh31] at e31
    refine own_st st31 ?_
    show Fin1 p e below s (rm0Q Z i0 i1 i2 i3 i4 vaM xM0 xM1 xM2 xM3 vcM vaJ xJ0 xJ1 xJ2 xJ3 vcJ h0 n0) room_1.cells room_1.slots (T31.setTop (mkF m 139 #[.val (.int i0), .val (.int i1), .val (.int i2), .val (.int i3), .val (.int i4), .val (.int (1 : Int32)), .val (.ref b1), .unset, .unset] [(.long (own_exp (1 : Int32) i0 i1 i2 (3 : Int32))), (.long ((0 : Int64) + own_hit (3 : Int32) (i0 &&& (3 : Int32))))]))
    refine own_st (fun wt wk => XS.lcmp X31.here hx rfl (hb hby at_139) rfl wk) ?_
    show Fin1 p e below s (rm0Q Z i0 i1 i2 i3 i4 vaM xM0 xM1 xM2 xM3 vcM vaJ xJ0 xJ1 xJ2 xJ3 vcJ h0 n0) room_1.cells room_1.slots (T31.setTop (mkF m 140 #[.val (.int i0), .val (.int i1), .val (.int i2), .val (.int i3), .val (.int i4), .val (.int (1 : Int32)), .val (.ref b1), .unset, .unset] [(.int (lcmpW ((0 : Int64) + own_hit (3 : Int32) (i0 &&& (3 : Int32))) (own_exp (1 : Int32) i0 i1 i2 (3 : Int32))))]))
    refine own_st (fun wt wk => XS.ifNo X31.here hx rfl (hb hby at_140) rfl ((if0 _ _).trans (teq ((lw_eq _ _).mpr (own_same1 i0 i1 i2 (3 : Int32)) : (lcmpW ((0 : Int64) + own_hit (3 : Int32) (i0 &&& (3 : Int32))) (own_exp (1 : Int32) i0 i1 i2 (3 : Int32))) = (0 : Int32))).2) wk) ?_
    show Fin1 p e below s (rm0Q Z i0 i1 i2 i3 i4 vaM xM0 xM1 xM2 xM3 vcM vaJ xJ0 xJ1 xJ2 xJ3 vcJ h0 n0) room_1.cells room_1.slots (T31.setTop (mkF m 143 #[.val (.int i0), .val (.int i1), .val (.int i2), .val (.int i3), .val (.int i4), .val (.int (1 : Int32)), .val (.ref b1), .unset, .unset] []))
    refine own_st (fun wt wk => XS.iconst X31.here hx rfl (hb hby at_143) wk) ?_
    show Fin1 p e below s (rm0Q Z i0 i1 i2 i3 i4 vaM xM0 xM1 xM2 xM3 vcM vaJ xJ0 xJ1 xJ2 xJ3 vcJ h0 n0) room_1.cells room_1.slots (T31.setTop (mkF m 144 #[.val (.int i0), .val (.int i1), .val (.int i2), .val (.int i3), .val (.int i4), .val (.int (1 : Int32)), .val (.ref b1), .unset, .unset] [(.int (1 : Int32))]))
    refine own_st (fun wt wk => XS.goto X31.here hx rfl (pc0 := 144) (pc' := 148) rfl (hb hby at_144) (by decide) (by decide) wk) ?_
    show Fin1 p e below s (rm0Q Z i0 i1 i2 i3 i4 vaM xM0 xM1 xM2 xM3 vcM vaJ xJ0 xJ1 xJ2 xJ3 vcJ h0 n0) room_1.cells room_1.slots (T31.setTop (mkF m 148 #[.val (.int i0), .val (.int i1), .val (.int i2), .val (.int i3), .val (.int i4), .val (.int (1 : Int32)), .val (.ref b1), .unset, .unset] [(.int (1 : Int32))]))
    refine own_st (fun wt wk => XS.istore X31.here hx rfl (hb hby at_148) rfl (l' := #[.val (.int i0), .val (.int i1), .val (.int i2), .val (.int i3), .val (.int i4), .val (.int (1 : Int32)), .val (.ref b1), .val (.int (1 : Int32)), .unset]) rfl wk) ?_
    show Fin1 p e below s (rm0Q Z i0 i1 i2 i3 i4 vaM xM0 xM1 xM2 xM3 vcM vaJ xJ0 xJ1 xJ2 xJ3 vcJ h0 n0) room_1.cells room_1.slots (T31.setTop (mkF m 150 #[.val (.int i0), .val (.int i1), .val (.int i2), .val (.int i3), .val (.int i4), .val (.int (1 : Int32)), .val (.ref b1), .val (.int (1 : Int32)), .unset] []))
    refine own_st (fun wt wk => XS.iload X31.here hx rfl (hb hby at_150) rfl wk) ?_
    show Fin1 p e below s (rm0Q Z i0 i1 i2 i3 i4 vaM xM0 xM1 xM2 xM3 vcM vaJ xJ0 xJ1 xJ2 xJ3 vcJ h0 n0) room_1.cells room_1.slots (T31.setTop (mkF m 152 #[.val (.int i0), .val (.int i1), .val (.int i2), .val (.int i3), .val (.int i4), .val (.int (1 : Int32)), .val (.ref b1), .val (.int (1 : Int32)), .unset] [(.int i4)]))
    obtain ⟨v32, T32, h32, L32, X32, e32, hQ32, st32⟩ := own_static X31 hx hZ hown (hw _ (List.mem_of_getElem? (i := 83) rfl)) (hw _ (List.mem_of_getElem? (i := 84) rfl)) (hw _ (List.mem_of_getElem? (i := 55) rfl)) (hw _ (List.mem_of_getElem? (i := 85) rfl)) (by decide) (rm_kind l Z a0 hw i4 vaM xM0 xM1 xM2 xM3 vcM h19 n0 Z0 O EM) e31 (g := (mkF m 152 #[.val (.int i0), .val (.int i1), .val (.int i2), .val (.int i3), .val (.int i4), .val (.int (1 : Int32)), .val (.ref b1), .val (.int (1 : Int32)), .unset] [(.int i4)])) rfl (by rw [hml]; rfl) (argsL := [(.int i4)]) (rest := []) (lenOf pd_11 rfl) rfl (W := 0) (by show 2 * 0 + _ ≤ _; exact Nat.le_of_eq rfl) (hb hby at_152) (by decide) (by decide) (by decide) (by decide)
    obtain ⟨rk, rfl, N32q, hh32, E_rk, O_rk⟩ := hQ32
    have N32 := Fr.app N31 N32q
    rw [hh32] at e32
    refine own_st st32 ?_
    show Fin1 p e below s (rm0Q Z i0 i1 i2 i3 i4 vaM xM0 xM1 xM2 xM3 vcM vaJ xJ0 xJ1 xJ2 xJ3 vcJ h0 n0) room_1.cells room_1.slots (T32.setTop (mkF m 155 #[.val (.int i0), .val (.int i1), .val (.int i2), .val (.int i3), .val (.int i4), .val (.int (1 : Int32)), .val (.ref b1), .val (.int (1 : Int32)), .unset] [(.ref rk)]))
    refine own_st (fun wt wk => XS.astore X32.here hx rfl (hb hby at_155) rfl rfl (l' := #[.val (.int i0), .val (.int i1), .val (.int i2), .val (.int i3), .val (.int i4), .val (.int (1 : Int32)), .val (.ref b1), .val (.int (1 : Int32)), .val (.ref rk)]) rfl wk) ?_
    show Fin1 p e below s (rm0Q Z i0 i1 i2 i3 i4 vaM xM0 xM1 xM2 xM3 vcM vaJ xJ0 xJ1 xJ2 xJ3 vcJ h0 n0) room_1.cells room_1.slots (T32.setTop (mkF m 157 #[.val (.int i0), .val (.int i1), .val (.int i2), .val (.int i3), .val (.int i4), .val (.int (1 : Int32)), .val (.ref b1), .val (.int (1 : Int32)), .val (.ref rk)] []))
    refine own_st (fun wt wk => XS.iload X32.here hx rfl (hb hby at_157) rfl wk) ?_
    show Fin1 p e below s (rm0Q Z i0 i1 i2 i3 i4 vaM xM0 xM1 xM2 xM3 vcM vaJ xJ0 xJ1 xJ2 xJ3 vcJ h0 n0) room_1.cells room_1.slots (T32.setTop (mkF m 159 #[.val (.int i0), .val (.int i1), .val (.int i2), .val (.int i3), .val (.int i4), .val (.int (1 : Int32)), .val (.ref b1), .val (.int (1 : Int32)), .val (.ref rk)] [(.int (1 : Int32))]))
    refine own_st (fun wt wk => XS.ifNo X32.here hx rfl (hb hby at_159) rfl ((if0 _ _).trans (feq (by decide)).1) wk) ?_
    show Fin1 p e below s (rm0Q Z i0 i1 i2 i3 i4 vaM xM0 xM1 xM2 xM3 vcM vaJ xJ0 xJ1 xJ2 xJ3 vcJ h0 n0) room_1.cells room_1.slots (T32.setTop (mkF m 162 #[.val (.int i0), .val (.int i1), .val (.int i2), .val (.int i3), .val (.int i4), .val (.int (1 : Int32)), .val (.ref b1), .val (.int (1 : Int32)), .val (.ref rk)] []))
    refine own_st (fun wt wk => XS.aload X32.here hx rfl (hb hby at_162) rfl rfl wk) ?_
    show Fin1 p e below s (rm0Q Z i0 i1 i2 i3 i4 vaM xM0 xM1 xM2 xM3 vcM vaJ xJ0 xJ1 xJ2 xJ3 vcJ h0 n0) room_1.cells room_1.slots (T32.setTop (mkF m 164 #[.val (.int i0), .val (.int i1), .val (.int i2), .val (.int i3), .val (.int i4), .val (.int (1 : Int32)), .val (.ref b1), .val (.int (1 : Int32)), .val (.ref rk)] [(.ref b1)]))
    refine own_st (fun wt wk => XS.aload X32.here hx rfl (hb hby at_164) rfl rfl wk) ?_
    show Fin1 p e below s (rm0Q Z i0 i1 i2 i3 i4 vaM xM0 xM1 xM2 xM3 vcM vaJ xJ0 xJ1 xJ2 xJ3 vcJ h0 n0) room_1.cells room_1.slots (T32.setTop (mkF m 166 #[.val (.int i0), .val (.int i1), .val (.int i2), .val (.int i3), .val (.int i4), .val (.int (1 : Int32)), .val (.ref b1), .val (.int (1 : Int32)), .val (.ref rk)] [(.ref rk), (.ref b1)]))
    obtain ⟨v33, T33, h33, L33, X33, e33, hQ33, st33⟩ := own_virtual X32 hx hZ hown (hw _ (List.mem_of_getElem? (i := 87) rfl)) (hw _ (List.mem_of_getElem? (i := 88) rfl)) (hw _ (List.mem_of_getElem? (i := 90) rfl)) (hw _ (List.mem_of_getElem? (i := 89) rfl)) (hw _ (List.mem_of_getElem? (i := 91) rfl)) (hw _ (List.mem_of_getElem? (i := 2) rfl)) (by decide) (a := b1) E_b1 (rm_getSent l Z a0 hw b1 rk (i4 &&& (3 : Int32)) t0 k0 [(.long (0 : Int64)), (.long (0 : Int64)), (.long (0 : Int64)), (.long (0 : Int64))] (0 : Int64) h19 n0 Z0 (own_rng _) F0 E_rk O_rk V_t0 (by rw [own_at _ _ _ _ _ (own_rng _)]; simp)) e32 (g := (mkF m 166 #[.val (.int i0), .val (.int i1), .val (.int i2), .val (.int i3), .val (.int i4), .val (.int (1 : Int32)), .val (.ref b1), .val (.int (1 : Int32)), .val (.ref rk)] [(.ref rk), (.ref b1)])) rfl (by rw [hml]; rfl) (argsL := [(.ref rk)]) (rest := []) (lenOf pd_12 rfl) rfl (W := 0) (by show 2 * 0 + _ ≤ _; exact Nat.le_of_eq rfl) (hb hby at_166) (by decide) (by decide) (by decide) (by decide)
    obtain ⟨rfl, N33q, hh33⟩ := hQ33
    have N33 := Fr.app N32 N33q
    rw [hh33] at e33
    refine own_st st33 ?_
    show Fin1 p e below s (rm0Q Z i0 i1 i2 i3 i4 vaM xM0 xM1 xM2 xM3 vcM vaJ xJ0 xJ1 xJ2 xJ3 vcJ h0 n0) room_1.cells room_1.slots (T33.setTop (mkF m 169 #[.val (.int i0), .val (.int i1), .val (.int i2), .val (.int i3), .val (.int i4), .val (.int (1 : Int32)), .val (.ref b1), .val (.int (1 : Int32)), .val (.ref rk)] [(.long (0 : Int64))]))
    refine own_st (fun wt wk => XS.lconst X33.here hx rfl (hb hby at_169) wk) ?_
    show Fin1 p e below s (rm0Q Z i0 i1 i2 i3 i4 vaM xM0 xM1 xM2 xM3 vcM vaJ xJ0 xJ1 xJ2 xJ3 vcJ h0 n0) room_1.cells room_1.slots (T33.setTop (mkF m 170 #[.val (.int i0), .val (.int i1), .val (.int i2), .val (.int i3), .val (.int i4), .val (.int (1 : Int32)), .val (.ref b1), .val (.int (1 : Int32)), .val (.ref rk)] [(.long (0 : Int64)), (.long (0 : Int64))]))
    refine own_st (fun wt wk => XS.lcmp X33.here hx rfl (hb hby at_170) rfl wk) ?_
    show Fin1 p e below s (rm0Q Z i0 i1 i2 i3 i4 vaM xM0 xM1 xM2 xM3 vcM vaJ xJ0 xJ1 xJ2 xJ3 vcJ h0 n0) room_1.cells room_1.slots (T33.setTop (mkF m 171 #[.val (.int i0), .val (.int i1), .val (.int i2), .val (.int i3), .val (.int i4), .val (.int (1 : Int32)), .val (.ref b1), .val (.int (1 : Int32)), .val (.ref rk)] [(.int (lcmpW (0 : Int64) (0 : Int64)))]))
    refine own_st (fun wt wk => XS.ifNo X33.here hx rfl (hb hby at_171) rfl ((if0 _ _).trans (teq ((lw_eq _ _).mpr rfl : (lcmpW (0 : Int64) (0 : Int64)) = (0 : Int32))).2) wk) ?_
    show Fin1 p e below s (rm0Q Z i0 i1 i2 i3 i4 vaM xM0 xM1 xM2 xM3 vcM vaJ xJ0 xJ1 xJ2 xJ3 vcJ h0 n0) room_1.cells room_1.slots (T33.setTop (mkF m 174 #[.val (.int i0), .val (.int i1), .val (.int i2), .val (.int i3), .val (.int i4), .val (.int (1 : Int32)), .val (.ref b1), .val (.int (1 : Int32)), .val (.ref rk)] []))
    refine own_st (fun wt wk => XS.aload X33.here hx rfl (hb hby at_174) rfl rfl wk) ?_
    show Fin1 p e below s (rm0Q Z i0 i1 i2 i3 i4 vaM xM0 xM1 xM2 xM3 vcM vaJ xJ0 xJ1 xJ2 xJ3 vcJ h0 n0) room_1.cells room_1.slots (T33.setTop (mkF m 176 #[.val (.int i0), .val (.int i1), .val (.int i2), .val (.int i3), .val (.int i4), .val (.int (1 : Int32)), .val (.ref b1), .val (.int (1 : Int32)), .val (.ref rk)] [(.ref b1)]))
    refine own_st (fun wt wk => XS.aload X33.here hx rfl (hb hby at_176) rfl rfl wk) ?_
    show Fin1 p e below s (rm0Q Z i0 i1 i2 i3 i4 vaM xM0 xM1 xM2 xM3 vcM vaJ xJ0 xJ1 xJ2 xJ3 vcJ h0 n0) room_1.cells room_1.slots (T33.setTop (mkF m 178 #[.val (.int i0), .val (.int i1), .val (.int i2), .val (.int i3), .val (.int i4), .val (.int (1 : Int32)), .val (.ref b1), .val (.int (1 : Int32)), .val (.ref rk)] [(.ref rk), (.ref b1)]))
    obtain ⟨v34, T34, h34, L34, X34, e34, hQ34, st34⟩ := own_virtual X33 hx hZ hown (hw _ (List.mem_of_getElem? (i := 96) rfl)) (hw _ (List.mem_of_getElem? (i := 97) rfl)) (hw _ (List.mem_of_getElem? (i := 99) rfl)) (hw _ (List.mem_of_getElem? (i := 98) rfl)) (hw _ (List.mem_of_getElem? (i := 100) rfl)) (hw _ (List.mem_of_getElem? (i := 2) rfl)) (by decide) (a := b1) E_b1 (rm_getReceived l Z a0 hw b1 rk (i4 &&& (3 : Int32)) t1 k1 [(.long (0 : Int64)), (.long (0 : Int64)), (.long (0 : Int64)), (.long (0 : Int64))] (0 : Int64) h19 n0 Z0 (own_rng _) F1 E_rk O_rk V_t1 (by rw [own_at _ _ _ _ _ (own_rng _)]; simp)) e33 (g := (mkF m 178 #[.val (.int i0), .val (.int i1), .val (.int i2), .val (.int i3), .val (.int i4), .val (.int (1 : Int32)), .val (.ref b1), .val (.int (1 : Int32)), .val (.ref rk)] [(.ref rk), (.ref b1)])) rfl (by rw [hml]; rfl) (argsL := [(.ref rk)]) (rest := []) (lenOf pd_12 rfl) rfl (W := 0) (by show 2 * 0 + _ ≤ _; exact Nat.le_of_eq rfl) (hb hby at_178) (by decide) (by decide) (by decide) (by decide)
    obtain ⟨rfl, N34q, hh34⟩ := hQ34
    have N34 := Fr.app N33 N34q
    rw [hh34] at e34
    refine own_st st34 ?_
    show Fin1 p e below s (rm0Q Z i0 i1 i2 i3 i4 vaM xM0 xM1 xM2 xM3 vcM vaJ xJ0 xJ1 xJ2 xJ3 vcJ h0 n0) room_1.cells room_1.slots (T34.setTop (mkF m 181 #[.val (.int i0), .val (.int i1), .val (.int i2), .val (.int i3), .val (.int i4), .val (.int (1 : Int32)), .val (.ref b1), .val (.int (1 : Int32)), .val (.ref rk)] [(.long (0 : Int64))]))
    refine own_st (fun wt wk => XS.lconst X34.here hx rfl (hb hby at_181) wk) ?_
    show Fin1 p e below s (rm0Q Z i0 i1 i2 i3 i4 vaM xM0 xM1 xM2 xM3 vcM vaJ xJ0 xJ1 xJ2 xJ3 vcJ h0 n0) room_1.cells room_1.slots (T34.setTop (mkF m 182 #[.val (.int i0), .val (.int i1), .val (.int i2), .val (.int i3), .val (.int i4), .val (.int (1 : Int32)), .val (.ref b1), .val (.int (1 : Int32)), .val (.ref rk)] [(.long (0 : Int64)), (.long (0 : Int64))]))
    refine own_st (fun wt wk => XS.lcmp X34.here hx rfl (hb hby at_182) rfl wk) ?_
    show Fin1 p e below s (rm0Q Z i0 i1 i2 i3 i4 vaM xM0 xM1 xM2 xM3 vcM vaJ xJ0 xJ1 xJ2 xJ3 vcJ h0 n0) room_1.cells room_1.slots (T34.setTop (mkF m 183 #[.val (.int i0), .val (.int i1), .val (.int i2), .val (.int i3), .val (.int i4), .val (.int (1 : Int32)), .val (.ref b1), .val (.int (1 : Int32)), .val (.ref rk)] [(.int (lcmpW (0 : Int64) (0 : Int64)))]))
    refine own_st (fun wt wk => XS.ifNo X34.here hx rfl (hb hby at_183) rfl ((if0 _ _).trans (teq ((lw_eq _ _).mpr rfl : (lcmpW (0 : Int64) (0 : Int64)) = (0 : Int32))).2) wk) ?_
    show Fin1 p e below s (rm0Q Z i0 i1 i2 i3 i4 vaM xM0 xM1 xM2 xM3 vcM vaJ xJ0 xJ1 xJ2 xJ3 vcJ h0 n0) room_1.cells room_1.slots (T34.setTop (mkF m 186 #[.val (.int i0), .val (.int i1), .val (.int i2), .val (.int i3), .val (.int i4), .val (.int (1 : Int32)), .val (.ref b1), .val (.int (1 : Int32)), .val (.ref rk)] []))
    refine own_st (fun wt wk => XS.iconst X34.here hx rfl (hb hby at_186) wk) ?_
    show Fin1 p e below s (rm0Q Z i0 i1 i2 i3 i4 vaM xM0 xM1 xM2 xM3 vcM vaJ xJ0 xJ1 xJ2 xJ3 vcJ h0 n0) room_1.cells room_1.slots (T34.setTop (mkF m 187 #[.val (.int i0), .val (.int i1), .val (.int i2), .val (.int i3), .val (.int i4), .val (.int (1 : Int32)), .val (.ref b1), .val (.int (1 : Int32)), .val (.ref rk)] [(.int (1 : Int32))]))
    refine own_st (fun wt wk => XS.goto X34.here hx rfl (pc0 := 187) (pc' := 191) rfl (hb hby at_187) (by decide) (by decide) wk) ?_
    show Fin1 p e below s (rm0Q Z i0 i1 i2 i3 i4 vaM xM0 xM1 xM2 xM3 vcM vaJ xJ0 xJ1 xJ2 xJ3 vcJ h0 n0) room_1.cells room_1.slots (T34.setTop (mkF m 191 #[.val (.int i0), .val (.int i1), .val (.int i2), .val (.int i3), .val (.int i4), .val (.int (1 : Int32)), .val (.ref b1), .val (.int (1 : Int32)), .val (.ref rk)] [(.int (1 : Int32))]))
    exact own_retZ X34 hx hlk hret (hb hby at_191) (z := (1 : Int32)) (by decide) (by rw [e34]; exact ⟨rfl, N34⟩) (by decide) (by decide)
  · show Fin1 p e below s (rm0Q Z i0 i1 i2 i3 i4 vaM xM0 xM1 xM2 xM3 vcM vaJ xJ0 xJ1 xJ2 xJ3 vcJ h0 n0) room_1.cells room_1.slots (T2.setTop (mkF m 17 #[.val (.int i0), .val (.int i1), .val (.int i2), .val (.int i3), .val (.int i4), .val (.int (2 : Int32)), .val (.ref b1), .unset, .unset] [(.int (1 : Int32)), (.int (2 : Int32))]))
    refine own_st (fun wt wk => XS.icmpNo X2.here hx rfl (hb hby at_17) rfl (flt (by decide)).1 wk) ?_
    show Fin1 p e below s (rm0Q Z i0 i1 i2 i3 i4 vaM xM0 xM1 xM2 xM3 vcM vaJ xJ0 xJ1 xJ2 xJ3 vcJ h0 n0) room_1.cells room_1.slots (T2.setTop (mkF m 20 #[.val (.int i0), .val (.int i1), .val (.int i2), .val (.int i3), .val (.int i4), .val (.int (2 : Int32)), .val (.ref b1), .unset, .unset] []))
    refine own_st (fun wt wk => XS.aload X2.here hx rfl (hb hby at_20) rfl rfl wk) ?_
    show Fin1 p e below s (rm0Q Z i0 i1 i2 i3 i4 vaM xM0 xM1 xM2 xM3 vcM vaJ xJ0 xJ1 xJ2 xJ3 vcJ h0 n0) room_1.cells room_1.slots (T2.setTop (mkF m 22 #[.val (.int i0), .val (.int i1), .val (.int i2), .val (.int i3), .val (.int i4), .val (.int (2 : Int32)), .val (.ref b1), .unset, .unset] [(.ref b1)]))
    refine own_st (fun wt wk => XS.iloadN X2.here hx rfl (hb hby at_22) rfl wk) ?_
    show Fin1 p e below s (rm0Q Z i0 i1 i2 i3 i4 vaM xM0 xM1 xM2 xM3 vcM vaJ xJ0 xJ1 xJ2 xJ3 vcJ h0 n0) room_1.cells room_1.slots (T2.setTop (mkF m 23 #[.val (.int i0), .val (.int i1), .val (.int i2), .val (.int i3), .val (.int i4), .val (.int (2 : Int32)), .val (.ref b1), .unset, .unset] [(.int i0), (.ref b1)]))
    obtain ⟨v35, T35, h35, L35, X35, e35, hQ35, st35⟩ := own_static X2 hx hZ hown (hw _ (List.mem_of_getElem? (i := 53) rfl)) (hw _ (List.mem_of_getElem? (i := 54) rfl)) (hw _ (List.mem_of_getElem? (i := 55) rfl)) (hw _ (List.mem_of_getElem? (i := 56) rfl)) (by decide) (rm_reason l Z a0 hw i0 vaJ xJ0 xJ1 xJ2 xJ3 vcJ h2 n0 Z0 O EJ) e2 (g := (mkF m 23 #[.val (.int i0), .val (.int i1), .val (.int i2), .val (.int i3), .val (.int i4), .val (.int (2 : Int32)), .val (.ref b1), .unset, .unset] [(.int i0), (.ref b1)])) rfl (by rw [hml]; rfl) (argsL := [(.int i0)]) (rest := [(.ref b1)]) (lenOf pd_13 rfl) rfl (W := 1) (by show 2 * 0 + _ ≤ _; exact Nat.le_of_eq rfl) (hb hby at_23) (by decide) (by decide) (by decide) (by decide)
    obtain ⟨r0, rfl, N35q, hh35, E_r0, O_r0⟩ := hQ35
    have N35 := Fr.app N2 N35q
    rw [hh35] at e35
    refine own_st st35 ?_
    show Fin1 p e below s (rm0Q Z i0 i1 i2 i3 i4 vaM xM0 xM1 xM2 xM3 vcM vaJ xJ0 xJ1 xJ2 xJ3 vcJ h0 n0) room_1.cells room_1.slots (T35.setTop (mkF m 26 #[.val (.int i0), .val (.int i1), .val (.int i2), .val (.int i3), .val (.int i4), .val (.int (2 : Int32)), .val (.ref b1), .unset, .unset] [(.ref r0), (.ref b1)]))
    obtain ⟨v36, T36, h36, L36, X36, e36, hQ36, st36⟩ := own_virtual X35 hx hZ hown (hw _ (List.mem_of_getElem? (i := 58) rfl)) (hw _ (List.mem_of_getElem? (i := 59) rfl)) (hw _ (List.mem_of_getElem? (i := 61) rfl)) (hw _ (List.mem_of_getElem? (i := 60) rfl)) (hw _ (List.mem_of_getElem? (i := 62) rfl)) (hw _ (List.mem_of_getElem? (i := 2) rfl)) (by decide) (a := b1) E_b1 (rmRej l Z a0 hw b1 r0 (i0 &&& (3 : Int32)) t2 k2 (0 : Int64) (0 : Int64) (0 : Int64) (0 : Int64) h2 n0 Z0 g_t2 (own_rng _) F2 E_r0 O_r0 V_t2) e35 (g := (mkF m 26 #[.val (.int i0), .val (.int i1), .val (.int i2), .val (.int i3), .val (.int i4), .val (.int (2 : Int32)), .val (.ref b1), .unset, .unset] [(.ref r0), (.ref b1)])) rfl (by rw [hml]; rfl) (argsL := [(.ref r0)]) (rest := []) (lenOf pd_14 rfl) rfl (W := 0) (by show 2 * 0 + _ ≤ _; exact Nat.le_of_eq rfl) (hb hby at_26) (by decide) (by decide) (by decide) (by decide)
    obtain ⟨rfl, N36q, K36, V_t2⟩ := hQ36
    have N36 := Fr.app N35 N36q
    have Z0 := Nat.le_trans Z0 K36.1
    have O := O.keep K36 (allS (P := fun x => n0 ≤ x) g_t2 all0)
    have E_b1 := E_b1.keep K36
    have F0 := F0.keep K36 (ninS ne_b1_t2 nin0)
    have F1 := F1.keep K36 (ninS ne_b1_t2 nin0)
    have F2 := F2.keep K36 (ninS ne_b1_t2 nin0)
    have V_t0 := V_t0.keep K36 (ninS ne_t0_t2 nin0)
    have V_t1 := V_t1.keep K36 (ninS ne_t1_t2 nin0)
    refine own_st st36 ?_
    show Fin1 p e below s (rm0Q Z i0 i1 i2 i3 i4 vaM xM0 xM1 xM2 xM3 vcM vaJ xJ0 xJ1 xJ2 xJ3 vcJ h0 n0) room_1.cells room_1.slots (T36.setTop (mkF m 29 #[.val (.int i0), .val (.int i1), .val (.int i2), .val (.int i3), .val (.int i4), .val (.int (2 : Int32)), .val (.ref b1), .unset, .unset] []))
    refine own_st (fun wt wk => XS.iload X36.here hx rfl (hb hby at_29) rfl wk) ?_
    show Fin1 p e below s (rm0Q Z i0 i1 i2 i3 i4 vaM xM0 xM1 xM2 xM3 vcM vaJ xJ0 xJ1 xJ2 xJ3 vcJ h0 n0) room_1.cells room_1.slots (T36.setTop (mkF m 31 #[.val (.int i0), .val (.int i1), .val (.int i2), .val (.int i3), .val (.int i4), .val (.int (2 : Int32)), .val (.ref b1), .unset, .unset] [(.int (2 : Int32))]))
    refine own_st (fun wt wk => XS.iconst X36.here hx rfl (hb hby at_31) wk) ?_
    show Fin1 p e below s (rm0Q Z i0 i1 i2 i3 i4 vaM xM0 xM1 xM2 xM3 vcM vaJ xJ0 xJ1 xJ2 xJ3 vcJ h0 n0) room_1.cells room_1.slots (T36.setTop (mkF m 32 #[.val (.int i0), .val (.int i1), .val (.int i2), .val (.int i3), .val (.int i4), .val (.int (2 : Int32)), .val (.ref b1), .unset, .unset] [(.int (2 : Int32)), (.int (2 : Int32))]))
    refine own_st (fun wt wk => XS.icmpNo X36.here hx rfl (hb hby at_32) rfl (flt (by decide)).1 wk) ?_
    show Fin1 p e below s (rm0Q Z i0 i1 i2 i3 i4 vaM xM0 xM1 xM2 xM3 vcM vaJ xJ0 xJ1 xJ2 xJ3 vcJ h0 n0) room_1.cells room_1.slots (T36.setTop (mkF m 35 #[.val (.int i0), .val (.int i1), .val (.int i2), .val (.int i3), .val (.int i4), .val (.int (2 : Int32)), .val (.ref b1), .unset, .unset] []))
    refine own_st (fun wt wk => XS.aload X36.here hx rfl (hb hby at_35) rfl rfl wk) ?_
    show Fin1 p e below s (rm0Q Z i0 i1 i2 i3 i4 vaM xM0 xM1 xM2 xM3 vcM vaJ xJ0 xJ1 xJ2 xJ3 vcJ h0 n0) room_1.cells room_1.slots (T36.setTop (mkF m 37 #[.val (.int i0), .val (.int i1), .val (.int i2), .val (.int i3), .val (.int i4), .val (.int (2 : Int32)), .val (.ref b1), .unset, .unset] [(.ref b1)]))
    refine own_st (fun wt wk => XS.iloadN X36.here hx rfl (hb hby at_37) rfl wk) ?_
    show Fin1 p e below s (rm0Q Z i0 i1 i2 i3 i4 vaM xM0 xM1 xM2 xM3 vcM vaJ xJ0 xJ1 xJ2 xJ3 vcJ h0 n0) room_1.cells room_1.slots (T36.setTop (mkF m 38 #[.val (.int i0), .val (.int i1), .val (.int i2), .val (.int i3), .val (.int i4), .val (.int (2 : Int32)), .val (.ref b1), .unset, .unset] [(.int i1), (.ref b1)]))
    obtain ⟨v37, T37, h37, L37, X37, e37, hQ37, st37⟩ := own_static X36 hx hZ hown (hw _ (List.mem_of_getElem? (i := 53) rfl)) (hw _ (List.mem_of_getElem? (i := 54) rfl)) (hw _ (List.mem_of_getElem? (i := 55) rfl)) (hw _ (List.mem_of_getElem? (i := 56) rfl)) (by decide) (rm_reason l Z a0 hw i1 vaJ xJ0 xJ1 xJ2 xJ3 vcJ h36 n0 Z0 O EJ) e36 (g := (mkF m 38 #[.val (.int i0), .val (.int i1), .val (.int i2), .val (.int i3), .val (.int i4), .val (.int (2 : Int32)), .val (.ref b1), .unset, .unset] [(.int i1), (.ref b1)])) rfl (by rw [hml]; rfl) (argsL := [(.int i1)]) (rest := [(.ref b1)]) (lenOf pd_13 rfl) rfl (W := 1) (by show 2 * 0 + _ ≤ _; exact Nat.le_of_eq rfl) (hb hby at_38) (by decide) (by decide) (by decide) (by decide)
    obtain ⟨r1, rfl, N37q, hh37, E_r1, O_r1⟩ := hQ37
    have N37 := Fr.app N36 N37q
    rw [hh37] at e37
    refine own_st st37 ?_
    show Fin1 p e below s (rm0Q Z i0 i1 i2 i3 i4 vaM xM0 xM1 xM2 xM3 vcM vaJ xJ0 xJ1 xJ2 xJ3 vcJ h0 n0) room_1.cells room_1.slots (T37.setTop (mkF m 41 #[.val (.int i0), .val (.int i1), .val (.int i2), .val (.int i3), .val (.int i4), .val (.int (2 : Int32)), .val (.ref b1), .unset, .unset] [(.ref r1), (.ref b1)]))
    obtain ⟨v38, T38, h38, L38, X38, e38, hQ38, st38⟩ := own_virtual X37 hx hZ hown (hw _ (List.mem_of_getElem? (i := 58) rfl)) (hw _ (List.mem_of_getElem? (i := 59) rfl)) (hw _ (List.mem_of_getElem? (i := 61) rfl)) (hw _ (List.mem_of_getElem? (i := 60) rfl)) (hw _ (List.mem_of_getElem? (i := 62) rfl)) (hw _ (List.mem_of_getElem? (i := 2) rfl)) (by decide) (a := b1) E_b1 (rmRej l Z a0 hw b1 r1 (i1 &&& (3 : Int32)) t2 k2 ((0 : Int64) + own_hit (0 : Int32) (i0 &&& (3 : Int32))) ((0 : Int64) + own_hit (1 : Int32) (i0 &&& (3 : Int32))) ((0 : Int64) + own_hit (2 : Int32) (i0 &&& (3 : Int32))) ((0 : Int64) + own_hit (3 : Int32) (i0 &&& (3 : Int32))) h36 n0 Z0 g_t2 (own_rng _) F2 E_r1 O_r1 V_t2) e37 (g := (mkF m 41 #[.val (.int i0), .val (.int i1), .val (.int i2), .val (.int i3), .val (.int i4), .val (.int (2 : Int32)), .val (.ref b1), .unset, .unset] [(.ref r1), (.ref b1)])) rfl (by rw [hml]; rfl) (argsL := [(.ref r1)]) (rest := []) (lenOf pd_14 rfl) rfl (W := 0) (by show 2 * 0 + _ ≤ _; exact Nat.le_of_eq rfl) (hb hby at_41) (by decide) (by decide) (by decide) (by decide)
    obtain ⟨rfl, N38q, K38, V_t2⟩ := hQ38
    have N38 := Fr.app N37 N38q
    have Z0 := Nat.le_trans Z0 K38.1
    have O := O.keep K38 (allS (P := fun x => n0 ≤ x) g_t2 all0)
    have E_b1 := E_b1.keep K38
    have F0 := F0.keep K38 (ninS ne_b1_t2 nin0)
    have F1 := F1.keep K38 (ninS ne_b1_t2 nin0)
    have F2 := F2.keep K38 (ninS ne_b1_t2 nin0)
    have V_t0 := V_t0.keep K38 (ninS ne_t0_t2 nin0)
    have V_t1 := V_t1.keep K38 (ninS ne_t1_t2 nin0)
    refine own_st st38 ?_
    show Fin1 p e below s (rm0Q Z i0 i1 i2 i3 i4 vaM xM0 xM1 xM2 xM3 vcM vaJ xJ0 xJ1 xJ2 xJ3 vcJ h0 n0) room_1.cells room_1.slots (T38.setTop (mkF m 44 #[.val (.int i0), .val (.int i1), .val (.int i2), .val (.int i3), .val (.int i4), .val (.int (2 : Int32)), .val (.ref b1), .unset, .unset] []))
    refine own_st (fun wt wk => XS.iload X38.here hx rfl (hb hby at_44) rfl wk) ?_
    show Fin1 p e below s (rm0Q Z i0 i1 i2 i3 i4 vaM xM0 xM1 xM2 xM3 vcM vaJ xJ0 xJ1 xJ2 xJ3 vcJ h0 n0) room_1.cells room_1.slots (T38.setTop (mkF m 46 #[.val (.int i0), .val (.int i1), .val (.int i2), .val (.int i3), .val (.int i4), .val (.int (2 : Int32)), .val (.ref b1), .unset, .unset] [(.int (2 : Int32))]))
    refine own_st (fun wt wk => XS.iconst X38.here hx rfl (hb hby at_46) wk) ?_
    show Fin1 p e below s (rm0Q Z i0 i1 i2 i3 i4 vaM xM0 xM1 xM2 xM3 vcM vaJ xJ0 xJ1 xJ2 xJ3 vcJ h0 n0) room_1.cells room_1.slots (T38.setTop (mkF m 47 #[.val (.int i0), .val (.int i1), .val (.int i2), .val (.int i3), .val (.int i4), .val (.int (2 : Int32)), .val (.ref b1), .unset, .unset] [(.int (3 : Int32)), (.int (2 : Int32))]))
    refine own_st (fun wt wk => XS.icmpYes X38.here hx rfl (pc0 := 47) (pc' := 59) rfl (hb hby at_47) rfl (tlt (by decide)).1 (by decide) (by decide) wk) ?_
    show Fin1 p e below s (rm0Q Z i0 i1 i2 i3 i4 vaM xM0 xM1 xM2 xM3 vcM vaJ xJ0 xJ1 xJ2 xJ3 vcJ h0 n0) room_1.cells room_1.slots (T38.setTop (mkF m 59 #[.val (.int i0), .val (.int i1), .val (.int i2), .val (.int i3), .val (.int i4), .val (.int (2 : Int32)), .val (.ref b1), .unset, .unset] []))
    refine own_st (fun wt wk => XS.aload X38.here hx rfl (hb hby at_59) rfl rfl wk) ?_
    show Fin1 p e below s (rm0Q Z i0 i1 i2 i3 i4 vaM xM0 xM1 xM2 xM3 vcM vaJ xJ0 xJ1 xJ2 xJ3 vcJ h0 n0) room_1.cells room_1.slots (T38.setTop (mkF m 61 #[.val (.int i0), .val (.int i1), .val (.int i2), .val (.int i3), .val (.int i4), .val (.int (2 : Int32)), .val (.ref b1), .unset, .unset] [(.ref b1)]))
    have EJ' := EJ
    obtain ⟨SJv, AJv, XJv, zJv, FJv, ⟨SJ0, QJ0, OJ0⟩, ⟨SJ1, QJ1, OJ1⟩, ⟨SJ2, QJ2, OJ2⟩, ⟨SJ3, QJ3, OJ3⟩⟩ := EJ'
    obtain ⟨T39, X39, e39, st39⟩ := getS2 X38 hx hZ hown (host := "") (Or.inl (hw _ (List.mem_of_getElem? (i := 57) rfl))) Via.refl e38 (SJ0.ext O.2) (g := (mkF m 61 #[.val (.int i0), .val (.int i1), .val (.int i2), .val (.int i3), .val (.int i4), .val (.int (2 : Int32)), .val (.ref b1), .unset, .unset] [(.ref b1)])) rfl (hb hby at_61)
    refine own_st st39 ?_
    show Fin1 p e below s (rm0Q Z i0 i1 i2 i3 i4 vaM xM0 xM1 xM2 xM3 vcM vaJ xJ0 xJ1 xJ2 xJ3 vcJ h0 n0) room_1.cells room_1.slots (T39.setTop (mkF m 64 #[.val (.int i0), .val (.int i1), .val (.int i2), .val (.int i3), .val (.int i4), .val (.int (2 : Int32)), .val (.ref b1), .unset, .unset] [(.ref xJ0), (.ref b1)]))
    obtain ⟨v40, T40, h40, L40, X40, e40, hQ40, st40⟩ := own_virtual X39 hx hZ hown (hw _ (List.mem_of_getElem? (i := 72) rfl)) (hw _ (List.mem_of_getElem? (i := 73) rfl)) (hw _ (List.mem_of_getElem? (i := 75) rfl)) (hw _ (List.mem_of_getElem? (i := 74) rfl)) (hw _ (List.mem_of_getElem? (i := 76) rfl)) (hw _ (List.mem_of_getElem? (i := 2) rfl)) (by decide) (a := b1) E_b1 (rm_getRejected l Z a0 hw b1 xJ0 (0 : Int32) t2 k2 [(.long (((0 : Int64) + own_hit (0 : Int32) (i0 &&& (3 : Int32))) + own_hit (0 : Int32) (i1 &&& (3 : Int32)))), (.long (((0 : Int64) + own_hit (1 : Int32) (i0 &&& (3 : Int32))) + own_hit (1 : Int32) (i1 &&& (3 : Int32)))), (.long (((0 : Int64) + own_hit (2 : Int32) (i0 &&& (3 : Int32))) + own_hit (2 : Int32) (i1 &&& (3 : Int32)))), (.long (((0 : Int64) + own_hit (3 : Int32) (i0 &&& (3 : Int32))) + own_hit (3 : Int32) (i1 &&& (3 : Int32))))] (((0 : Int64) + own_hit (0 : Int32) (i0 &&& (3 : Int32))) + own_hit (0 : Int32) (i1 &&& (3 : Int32))) h38 n0 Z0 (by decide) F2 (QJ0.ext O.2) (OJ0.ext O.2) V_t2 rfl) e39 (g := (mkF m 64 #[.val (.int i0), .val (.int i1), .val (.int i2), .val (.int i3), .val (.int i4), .val (.int (2 : Int32)), .val (.ref b1), .unset, .unset] [(.ref xJ0), (.ref b1)])) rfl (by rw [hml]; rfl) (argsL := [(.ref xJ0)]) (rest := []) (lenOf pd_9 rfl) rfl (W := 0) (by show 2 * 0 + _ ≤ _; exact Nat.le_of_eq rfl) (hb hby at_64) (by decide) (by decide) (by decide) (by decide)
    obtain ⟨rfl, N40q, hh40⟩ := hQ40
    have N40 := Fr.app N38 N40q
    rw [hh40] at e40
    refine own_st st40 ?_
    show Fin1 p e below s (rm0Q Z i0 i1 i2 i3 i4 vaM xM0 xM1 xM2 xM3 vcM vaJ xJ0 xJ1 xJ2 xJ3 vcJ h0 n0) room_1.cells room_1.slots (T40.setTop (mkF m 67 #[.val (.int i0), .val (.int i1), .val (.int i2), .val (.int i3), .val (.int i4), .val (.int (2 : Int32)), .val (.ref b1), .unset, .unset] [(.long (((0 : Int64) + own_hit (0 : Int32) (i0 &&& (3 : Int32))) + own_hit (0 : Int32) (i1 &&& (3 : Int32))))]))
    refine own_st (fun wt wk => XS.iload X40.here hx rfl (hb hby at_67) rfl wk) ?_
    show Fin1 p e below s (rm0Q Z i0 i1 i2 i3 i4 vaM xM0 xM1 xM2 xM3 vcM vaJ xJ0 xJ1 xJ2 xJ3 vcJ h0 n0) room_1.cells room_1.slots (T40.setTop (mkF m 69 #[.val (.int i0), .val (.int i1), .val (.int i2), .val (.int i3), .val (.int i4), .val (.int (2 : Int32)), .val (.ref b1), .unset, .unset] [(.int (2 : Int32)), (.long (((0 : Int64) + own_hit (0 : Int32) (i0 &&& (3 : Int32))) + own_hit (0 : Int32) (i1 &&& (3 : Int32))))]))
    refine own_st (fun wt wk => XS.iloadN X40.here hx rfl (hb hby at_69) rfl wk) ?_
    show Fin1 p e below s (rm0Q Z i0 i1 i2 i3 i4 vaM xM0 xM1 xM2 xM3 vcM vaJ xJ0 xJ1 xJ2 xJ3 vcJ h0 n0) room_1.cells room_1.slots (T40.setTop (mkF m 70 #[.val (.int i0), .val (.int i1), .val (.int i2), .val (.int i3), .val (.int i4), .val (.int (2 : Int32)), .val (.ref b1), .unset, .unset] [(.int i0), (.int (2 : Int32)), (.long (((0 : Int64) + own_hit (0 : Int32) (i0 &&& (3 : Int32))) + own_hit (0 : Int32) (i1 &&& (3 : Int32))))]))
    refine own_st (fun wt wk => XS.iloadN X40.here hx rfl (hb hby at_70) rfl wk) ?_
    show Fin1 p e below s (rm0Q Z i0 i1 i2 i3 i4 vaM xM0 xM1 xM2 xM3 vcM vaJ xJ0 xJ1 xJ2 xJ3 vcJ h0 n0) room_1.cells room_1.slots (T40.setTop (mkF m 71 #[.val (.int i0), .val (.int i1), .val (.int i2), .val (.int i3), .val (.int i4), .val (.int (2 : Int32)), .val (.ref b1), .unset, .unset] [(.int i1), (.int i0), (.int (2 : Int32)), (.long (((0 : Int64) + own_hit (0 : Int32) (i0 &&& (3 : Int32))) + own_hit (0 : Int32) (i1 &&& (3 : Int32))))]))
    refine own_st (fun wt wk => XS.iloadN X40.here hx rfl (hb hby at_71) rfl wk) ?_
    show Fin1 p e below s (rm0Q Z i0 i1 i2 i3 i4 vaM xM0 xM1 xM2 xM3 vcM vaJ xJ0 xJ1 xJ2 xJ3 vcJ h0 n0) room_1.cells room_1.slots (T40.setTop (mkF m 72 #[.val (.int i0), .val (.int i1), .val (.int i2), .val (.int i3), .val (.int i4), .val (.int (2 : Int32)), .val (.ref b1), .unset, .unset] [(.int i2), (.int i1), (.int i0), (.int (2 : Int32)), (.long (((0 : Int64) + own_hit (0 : Int32) (i0 &&& (3 : Int32))) + own_hit (0 : Int32) (i1 &&& (3 : Int32))))]))
    refine own_st (fun wt wk => XS.iconst X40.here hx rfl (hb hby at_72) wk) ?_
    show Fin1 p e below s (rm0Q Z i0 i1 i2 i3 i4 vaM xM0 xM1 xM2 xM3 vcM vaJ xJ0 xJ1 xJ2 xJ3 vcJ h0 n0) room_1.cells room_1.slots (T40.setTop (mkF m 73 #[.val (.int i0), .val (.int i1), .val (.int i2), .val (.int i3), .val (.int i4), .val (.int (2 : Int32)), .val (.ref b1), .unset, .unset] [(.int (0 : Int32)), (.int i2), (.int i1), (.int i0), (.int (2 : Int32)), (.long (((0 : Int64) + own_hit (0 : Int32) (i0 &&& (3 : Int32))) + own_hit (0 : Int32) (i1 &&& (3 : Int32))))]))
    obtain ⟨v41, T41, h41, L41, X41, e41, hQ41, st41⟩ := own_static X40 hx hZ hown (hw _ (List.mem_of_getElem? (i := 77) rfl)) (hw _ (List.mem_of_getElem? (i := 78) rfl)) (hw _ (List.mem_of_getElem? (i := 55) rfl)) (hw _ (List.mem_of_getElem? (i := 79) rfl)) (by decide) (rmX l Z a0 hw (2 : Int32) i0 i1 i2 (0 : Int32) h38 n0 Z0) e40 (g := (mkF m 73 #[.val (.int i0), .val (.int i1), .val (.int i2), .val (.int i3), .val (.int i4), .val (.int (2 : Int32)), .val (.ref b1), .unset, .unset] [(.int (0 : Int32)), (.int i2), (.int i1), (.int i0), (.int (2 : Int32)), (.long (((0 : Int64) + own_hit (0 : Int32) (i0 &&& (3 : Int32))) + own_hit (0 : Int32) (i1 &&& (3 : Int32))))])) rfl (by rw [hml]; rfl) (argsL := [(.int (2 : Int32)), (.int i0), (.int i1), (.int i2), (.int (0 : Int32))]) (rest := [(.long (((0 : Int64) + own_hit (0 : Int32) (i0 &&& (3 : Int32))) + own_hit (0 : Int32) (i1 &&& (3 : Int32))))]) (lenOf pd_10 rfl) rfl (W := 2) (by show 2 * 0 + _ ≤ _; exact Nat.le_of_eq rfl) (hb hby at_73) (by decide) (by decide) (by decide) (by decide)
    obtain ⟨rfl, N41q, hh41⟩ := hQ41
    have N41 := Fr.app N40 N41q
    rw [hh41] at e41
    refine own_st st41 ?_
    show Fin1 p e below s (rm0Q Z i0 i1 i2 i3 i4 vaM xM0 xM1 xM2 xM3 vcM vaJ xJ0 xJ1 xJ2 xJ3 vcJ h0 n0) room_1.cells room_1.slots (T41.setTop (mkF m 76 #[.val (.int i0), .val (.int i1), .val (.int i2), .val (.int i3), .val (.int i4), .val (.int (2 : Int32)), .val (.ref b1), .unset, .unset] [(.long (own_exp (2 : Int32) i0 i1 i2 (0 : Int32))), (.long (((0 : Int64) + own_hit (0 : Int32) (i0 &&& (3 : Int32))) + own_hit (0 : Int32) (i1 &&& (3 : Int32))))]))
    refine own_st (fun wt wk => XS.lcmp X41.here hx rfl (hb hby at_76) rfl wk) ?_
    show Fin1 p e below s (rm0Q Z i0 i1 i2 i3 i4 vaM xM0 xM1 xM2 xM3 vcM vaJ xJ0 xJ1 xJ2 xJ3 vcJ h0 n0) room_1.cells room_1.slots (T41.setTop (mkF m 77 #[.val (.int i0), .val (.int i1), .val (.int i2), .val (.int i3), .val (.int i4), .val (.int (2 : Int32)), .val (.ref b1), .unset, .unset] [(.int (lcmpW (((0 : Int64) + own_hit (0 : Int32) (i0 &&& (3 : Int32))) + own_hit (0 : Int32) (i1 &&& (3 : Int32))) (own_exp (2 : Int32) i0 i1 i2 (0 : Int32))))]))
    refine own_st (fun wt wk => XS.ifNo X41.here hx rfl (hb hby at_77) rfl ((if0 _ _).trans (teq ((lw_eq _ _).mpr (own_same2 i0 i1 i2 (0 : Int32)) : (lcmpW (((0 : Int64) + own_hit (0 : Int32) (i0 &&& (3 : Int32))) + own_hit (0 : Int32) (i1 &&& (3 : Int32))) (own_exp (2 : Int32) i0 i1 i2 (0 : Int32))) = (0 : Int32))).2) wk) ?_
    show Fin1 p e below s (rm0Q Z i0 i1 i2 i3 i4 vaM xM0 xM1 xM2 xM3 vcM vaJ xJ0 xJ1 xJ2 xJ3 vcJ h0 n0) room_1.cells room_1.slots (T41.setTop (mkF m 80 #[.val (.int i0), .val (.int i1), .val (.int i2), .val (.int i3), .val (.int i4), .val (.int (2 : Int32)), .val (.ref b1), .unset, .unset] []))
    refine own_st (fun wt wk => XS.aload X41.here hx rfl (hb hby at_80) rfl rfl wk) ?_
    show Fin1 p e below s (rm0Q Z i0 i1 i2 i3 i4 vaM xM0 xM1 xM2 xM3 vcM vaJ xJ0 xJ1 xJ2 xJ3 vcJ h0 n0) room_1.cells room_1.slots (T41.setTop (mkF m 82 #[.val (.int i0), .val (.int i1), .val (.int i2), .val (.int i3), .val (.int i4), .val (.int (2 : Int32)), .val (.ref b1), .unset, .unset] [(.ref b1)]))
    obtain ⟨T42, X42, e42, st42⟩ := getS2 X41 hx hZ hown (host := "") (Or.inl (hw _ (List.mem_of_getElem? (i := 80) rfl))) Via.refl e41 (SJ1.ext O.2) (g := (mkF m 82 #[.val (.int i0), .val (.int i1), .val (.int i2), .val (.int i3), .val (.int i4), .val (.int (2 : Int32)), .val (.ref b1), .unset, .unset] [(.ref b1)])) rfl (hb hby at_82)
    refine own_st st42 ?_
    show Fin1 p e below s (rm0Q Z i0 i1 i2 i3 i4 vaM xM0 xM1 xM2 xM3 vcM vaJ xJ0 xJ1 xJ2 xJ3 vcJ h0 n0) room_1.cells room_1.slots (T42.setTop (mkF m 85 #[.val (.int i0), .val (.int i1), .val (.int i2), .val (.int i3), .val (.int i4), .val (.int (2 : Int32)), .val (.ref b1), .unset, .unset] [(.ref xJ1), (.ref b1)]))
    obtain ⟨v43, T43, h43, L43, X43, e43, hQ43, st43⟩ := own_virtual X42 hx hZ hown (hw _ (List.mem_of_getElem? (i := 72) rfl)) (hw _ (List.mem_of_getElem? (i := 73) rfl)) (hw _ (List.mem_of_getElem? (i := 75) rfl)) (hw _ (List.mem_of_getElem? (i := 74) rfl)) (hw _ (List.mem_of_getElem? (i := 76) rfl)) (hw _ (List.mem_of_getElem? (i := 2) rfl)) (by decide) (a := b1) E_b1 (rm_getRejected l Z a0 hw b1 xJ1 (1 : Int32) t2 k2 [(.long (((0 : Int64) + own_hit (0 : Int32) (i0 &&& (3 : Int32))) + own_hit (0 : Int32) (i1 &&& (3 : Int32)))), (.long (((0 : Int64) + own_hit (1 : Int32) (i0 &&& (3 : Int32))) + own_hit (1 : Int32) (i1 &&& (3 : Int32)))), (.long (((0 : Int64) + own_hit (2 : Int32) (i0 &&& (3 : Int32))) + own_hit (2 : Int32) (i1 &&& (3 : Int32)))), (.long (((0 : Int64) + own_hit (3 : Int32) (i0 &&& (3 : Int32))) + own_hit (3 : Int32) (i1 &&& (3 : Int32))))] (((0 : Int64) + own_hit (1 : Int32) (i0 &&& (3 : Int32))) + own_hit (1 : Int32) (i1 &&& (3 : Int32))) h38 n0 Z0 (by decide) F2 (QJ1.ext O.2) (OJ1.ext O.2) V_t2 rfl) e42 (g := (mkF m 85 #[.val (.int i0), .val (.int i1), .val (.int i2), .val (.int i3), .val (.int i4), .val (.int (2 : Int32)), .val (.ref b1), .unset, .unset] [(.ref xJ1), (.ref b1)])) rfl (by rw [hml]; rfl) (argsL := [(.ref xJ1)]) (rest := []) (lenOf pd_9 rfl) rfl (W := 0) (by show 2 * 0 + _ ≤ _; exact Nat.le_of_eq rfl) (hb hby at_85) (by decide) (by decide) (by decide) (by decide)
    obtain ⟨rfl, N43q, hh43⟩ := hQ43
    have N43 := Fr.app N41 N43q
    rw [hh43] at e43
    refine own_st st43 ?_
    show Fin1 p e below s (rm0Q Z i0 i1 i2 i3 i4 vaM xM0 xM1 xM2 xM3 vcM vaJ xJ0 xJ1 xJ2 xJ3 vcJ h0 n0) room_1.cells room_1.slots (T43.setTop (mkF m 88 #[.val (.int i0), .val (.int i1), .val (.int i2), .val (.int i3), .val (.int i4), .val (.int (2 : Int32)), .val (.ref b1), .unset, .unset] [(.long (((0 : Int64) + own_hit (1 : Int32) (i0 &&& (3 : Int32))) + own_hit (1 : Int32) (i1 &&& (3 : Int32))))]))
    refine own_st (fun wt wk => XS.iload X43.here hx rfl (hb hby at_88) rfl wk) ?_
    show Fin1 p e below s (rm0Q Z i0 i1 i2 i3 i4 vaM xM0 xM1 xM2 xM3 vcM vaJ xJ0 xJ1 xJ2 xJ3 vcJ h0 n0) room_1.cells room_1.slots (T43.setTop (mkF m 90 #[.val (.int i0), .val (.int i1), .val (.int i2), .val (.int i3), .val (.int i4), .val (.int (2 : Int32)), .val (.ref b1), .unset, .unset] [(.int (2 : Int32)), (.long (((0 : Int64) + own_hit (1 : Int32) (i0 &&& (3 : Int32))) + own_hit (1 : Int32) (i1 &&& (3 : Int32))))]))
    refine own_st (fun wt wk => XS.iloadN X43.here hx rfl (hb hby at_90) rfl wk) ?_
    show Fin1 p e below s (rm0Q Z i0 i1 i2 i3 i4 vaM xM0 xM1 xM2 xM3 vcM vaJ xJ0 xJ1 xJ2 xJ3 vcJ h0 n0) room_1.cells room_1.slots (T43.setTop (mkF m 91 #[.val (.int i0), .val (.int i1), .val (.int i2), .val (.int i3), .val (.int i4), .val (.int (2 : Int32)), .val (.ref b1), .unset, .unset] [(.int i0), (.int (2 : Int32)), (.long (((0 : Int64) + own_hit (1 : Int32) (i0 &&& (3 : Int32))) + own_hit (1 : Int32) (i1 &&& (3 : Int32))))]))
    refine own_st (fun wt wk => XS.iloadN X43.here hx rfl (hb hby at_91) rfl wk) ?_
    show Fin1 p e below s (rm0Q Z i0 i1 i2 i3 i4 vaM xM0 xM1 xM2 xM3 vcM vaJ xJ0 xJ1 xJ2 xJ3 vcJ h0 n0) room_1.cells room_1.slots (T43.setTop (mkF m 92 #[.val (.int i0), .val (.int i1), .val (.int i2), .val (.int i3), .val (.int i4), .val (.int (2 : Int32)), .val (.ref b1), .unset, .unset] [(.int i1), (.int i0), (.int (2 : Int32)), (.long (((0 : Int64) + own_hit (1 : Int32) (i0 &&& (3 : Int32))) + own_hit (1 : Int32) (i1 &&& (3 : Int32))))]))
    refine own_st (fun wt wk => XS.iloadN X43.here hx rfl (hb hby at_92) rfl wk) ?_
    show Fin1 p e below s (rm0Q Z i0 i1 i2 i3 i4 vaM xM0 xM1 xM2 xM3 vcM vaJ xJ0 xJ1 xJ2 xJ3 vcJ h0 n0) room_1.cells room_1.slots (T43.setTop (mkF m 93 #[.val (.int i0), .val (.int i1), .val (.int i2), .val (.int i3), .val (.int i4), .val (.int (2 : Int32)), .val (.ref b1), .unset, .unset] [(.int i2), (.int i1), (.int i0), (.int (2 : Int32)), (.long (((0 : Int64) + own_hit (1 : Int32) (i0 &&& (3 : Int32))) + own_hit (1 : Int32) (i1 &&& (3 : Int32))))]))
    refine own_st (fun wt wk => XS.iconst X43.here hx rfl (hb hby at_93) wk) ?_
    show Fin1 p e below s (rm0Q Z i0 i1 i2 i3 i4 vaM xM0 xM1 xM2 xM3 vcM vaJ xJ0 xJ1 xJ2 xJ3 vcJ h0 n0) room_1.cells room_1.slots (T43.setTop (mkF m 94 #[.val (.int i0), .val (.int i1), .val (.int i2), .val (.int i3), .val (.int i4), .val (.int (2 : Int32)), .val (.ref b1), .unset, .unset] [(.int (1 : Int32)), (.int i2), (.int i1), (.int i0), (.int (2 : Int32)), (.long (((0 : Int64) + own_hit (1 : Int32) (i0 &&& (3 : Int32))) + own_hit (1 : Int32) (i1 &&& (3 : Int32))))]))
    obtain ⟨v44, T44, h44, L44, X44, e44, hQ44, st44⟩ := own_static X43 hx hZ hown (hw _ (List.mem_of_getElem? (i := 77) rfl)) (hw _ (List.mem_of_getElem? (i := 78) rfl)) (hw _ (List.mem_of_getElem? (i := 55) rfl)) (hw _ (List.mem_of_getElem? (i := 79) rfl)) (by decide) (rmX l Z a0 hw (2 : Int32) i0 i1 i2 (1 : Int32) h38 n0 Z0) e43 (g := (mkF m 94 #[.val (.int i0), .val (.int i1), .val (.int i2), .val (.int i3), .val (.int i4), .val (.int (2 : Int32)), .val (.ref b1), .unset, .unset] [(.int (1 : Int32)), (.int i2), (.int i1), (.int i0), (.int (2 : Int32)), (.long (((0 : Int64) + own_hit (1 : Int32) (i0 &&& (3 : Int32))) + own_hit (1 : Int32) (i1 &&& (3 : Int32))))])) rfl (by rw [hml]; rfl) (argsL := [(.int (2 : Int32)), (.int i0), (.int i1), (.int i2), (.int (1 : Int32))]) (rest := [(.long (((0 : Int64) + own_hit (1 : Int32) (i0 &&& (3 : Int32))) + own_hit (1 : Int32) (i1 &&& (3 : Int32))))]) (lenOf pd_10 rfl) rfl (W := 2) (by show 2 * 0 + _ ≤ _; exact Nat.le_of_eq rfl) (hb hby at_94) (by decide) (by decide) (by decide) (by decide)
    obtain ⟨rfl, N44q, hh44⟩ := hQ44
    have N44 := Fr.app N43 N44q
    rw [hh44] at e44
    refine own_st st44 ?_
    show Fin1 p e below s (rm0Q Z i0 i1 i2 i3 i4 vaM xM0 xM1 xM2 xM3 vcM vaJ xJ0 xJ1 xJ2 xJ3 vcJ h0 n0) room_1.cells room_1.slots (T44.setTop (mkF m 97 #[.val (.int i0), .val (.int i1), .val (.int i2), .val (.int i3), .val (.int i4), .val (.int (2 : Int32)), .val (.ref b1), .unset, .unset] [(.long (own_exp (2 : Int32) i0 i1 i2 (1 : Int32))), (.long (((0 : Int64) + own_hit (1 : Int32) (i0 &&& (3 : Int32))) + own_hit (1 : Int32) (i1 &&& (3 : Int32))))]))
    refine own_st (fun wt wk => XS.lcmp X44.here hx rfl (hb hby at_97) rfl wk) ?_
    show Fin1 p e below s (rm0Q Z i0 i1 i2 i3 i4 vaM xM0 xM1 xM2 xM3 vcM vaJ xJ0 xJ1 xJ2 xJ3 vcJ h0 n0) room_1.cells room_1.slots (T44.setTop (mkF m 98 #[.val (.int i0), .val (.int i1), .val (.int i2), .val (.int i3), .val (.int i4), .val (.int (2 : Int32)), .val (.ref b1), .unset, .unset] [(.int (lcmpW (((0 : Int64) + own_hit (1 : Int32) (i0 &&& (3 : Int32))) + own_hit (1 : Int32) (i1 &&& (3 : Int32))) (own_exp (2 : Int32) i0 i1 i2 (1 : Int32))))]))
    refine own_st (fun wt wk => XS.ifNo X44.here hx rfl (hb hby at_98) rfl ((if0 _ _).trans (teq ((lw_eq _ _).mpr (own_same2 i0 i1 i2 (1 : Int32)) : (lcmpW (((0 : Int64) + own_hit (1 : Int32) (i0 &&& (3 : Int32))) + own_hit (1 : Int32) (i1 &&& (3 : Int32))) (own_exp (2 : Int32) i0 i1 i2 (1 : Int32))) = (0 : Int32))).2) wk) ?_
    show Fin1 p e below s (rm0Q Z i0 i1 i2 i3 i4 vaM xM0 xM1 xM2 xM3 vcM vaJ xJ0 xJ1 xJ2 xJ3 vcJ h0 n0) room_1.cells room_1.slots (T44.setTop (mkF m 101 #[.val (.int i0), .val (.int i1), .val (.int i2), .val (.int i3), .val (.int i4), .val (.int (2 : Int32)), .val (.ref b1), .unset, .unset] []))
    refine own_st (fun wt wk => XS.aload X44.here hx rfl (hb hby at_101) rfl rfl wk) ?_
    show Fin1 p e below s (rm0Q Z i0 i1 i2 i3 i4 vaM xM0 xM1 xM2 xM3 vcM vaJ xJ0 xJ1 xJ2 xJ3 vcJ h0 n0) room_1.cells room_1.slots (T44.setTop (mkF m 103 #[.val (.int i0), .val (.int i1), .val (.int i2), .val (.int i3), .val (.int i4), .val (.int (2 : Int32)), .val (.ref b1), .unset, .unset] [(.ref b1)]))
    obtain ⟨T45, X45, e45, st45⟩ := getS2 X44 hx hZ hown (host := "") (Or.inl (hw _ (List.mem_of_getElem? (i := 81) rfl))) Via.refl e44 (SJ2.ext O.2) (g := (mkF m 103 #[.val (.int i0), .val (.int i1), .val (.int i2), .val (.int i3), .val (.int i4), .val (.int (2 : Int32)), .val (.ref b1), .unset, .unset] [(.ref b1)])) rfl (hb hby at_103)
    refine own_st st45 ?_
    show Fin1 p e below s (rm0Q Z i0 i1 i2 i3 i4 vaM xM0 xM1 xM2 xM3 vcM vaJ xJ0 xJ1 xJ2 xJ3 vcJ h0 n0) room_1.cells room_1.slots (T45.setTop (mkF m 106 #[.val (.int i0), .val (.int i1), .val (.int i2), .val (.int i3), .val (.int i4), .val (.int (2 : Int32)), .val (.ref b1), .unset, .unset] [(.ref xJ2), (.ref b1)]))
    obtain ⟨v46, T46, h46, L46, X46, e46, hQ46, st46⟩ := own_virtual X45 hx hZ hown (hw _ (List.mem_of_getElem? (i := 72) rfl)) (hw _ (List.mem_of_getElem? (i := 73) rfl)) (hw _ (List.mem_of_getElem? (i := 75) rfl)) (hw _ (List.mem_of_getElem? (i := 74) rfl)) (hw _ (List.mem_of_getElem? (i := 76) rfl)) (hw _ (List.mem_of_getElem? (i := 2) rfl)) (by decide) (a := b1) E_b1 (rm_getRejected l Z a0 hw b1 xJ2 (2 : Int32) t2 k2 [(.long (((0 : Int64) + own_hit (0 : Int32) (i0 &&& (3 : Int32))) + own_hit (0 : Int32) (i1 &&& (3 : Int32)))), (.long (((0 : Int64) + own_hit (1 : Int32) (i0 &&& (3 : Int32))) + own_hit (1 : Int32) (i1 &&& (3 : Int32)))), (.long (((0 : Int64) + own_hit (2 : Int32) (i0 &&& (3 : Int32))) + own_hit (2 : Int32) (i1 &&& (3 : Int32)))), (.long (((0 : Int64) + own_hit (3 : Int32) (i0 &&& (3 : Int32))) + own_hit (3 : Int32) (i1 &&& (3 : Int32))))] (((0 : Int64) + own_hit (2 : Int32) (i0 &&& (3 : Int32))) + own_hit (2 : Int32) (i1 &&& (3 : Int32))) h38 n0 Z0 (by decide) F2 (QJ2.ext O.2) (OJ2.ext O.2) V_t2 rfl) e45 (g := (mkF m 106 #[.val (.int i0), .val (.int i1), .val (.int i2), .val (.int i3), .val (.int i4), .val (.int (2 : Int32)), .val (.ref b1), .unset, .unset] [(.ref xJ2), (.ref b1)])) rfl (by rw [hml]; rfl) (argsL := [(.ref xJ2)]) (rest := []) (lenOf pd_9 rfl) rfl (W := 0) (by show 2 * 0 + _ ≤ _; exact Nat.le_of_eq rfl) (hb hby at_106) (by decide) (by decide) (by decide) (by decide)
    obtain ⟨rfl, N46q, hh46⟩ := hQ46
    have N46 := Fr.app N44 N46q
    rw [hh46] at e46
    refine own_st st46 ?_
    show Fin1 p e below s (rm0Q Z i0 i1 i2 i3 i4 vaM xM0 xM1 xM2 xM3 vcM vaJ xJ0 xJ1 xJ2 xJ3 vcJ h0 n0) room_1.cells room_1.slots (T46.setTop (mkF m 109 #[.val (.int i0), .val (.int i1), .val (.int i2), .val (.int i3), .val (.int i4), .val (.int (2 : Int32)), .val (.ref b1), .unset, .unset] [(.long (((0 : Int64) + own_hit (2 : Int32) (i0 &&& (3 : Int32))) + own_hit (2 : Int32) (i1 &&& (3 : Int32))))]))
    refine own_st (fun wt wk => XS.iload X46.here hx rfl (hb hby at_109) rfl wk) ?_
    show Fin1 p e below s (rm0Q Z i0 i1 i2 i3 i4 vaM xM0 xM1 xM2 xM3 vcM vaJ xJ0 xJ1 xJ2 xJ3 vcJ h0 n0) room_1.cells room_1.slots (T46.setTop (mkF m 111 #[.val (.int i0), .val (.int i1), .val (.int i2), .val (.int i3), .val (.int i4), .val (.int (2 : Int32)), .val (.ref b1), .unset, .unset] [(.int (2 : Int32)), (.long (((0 : Int64) + own_hit (2 : Int32) (i0 &&& (3 : Int32))) + own_hit (2 : Int32) (i1 &&& (3 : Int32))))]))
    refine own_st (fun wt wk => XS.iloadN X46.here hx rfl (hb hby at_111) rfl wk) ?_
    show Fin1 p e below s (rm0Q Z i0 i1 i2 i3 i4 vaM xM0 xM1 xM2 xM3 vcM vaJ xJ0 xJ1 xJ2 xJ3 vcJ h0 n0) room_1.cells room_1.slots (T46.setTop (mkF m 112 #[.val (.int i0), .val (.int i1), .val (.int i2), .val (.int i3), .val (.int i4), .val (.int (2 : Int32)), .val (.ref b1), .unset, .unset] [(.int i0), (.int (2 : Int32)), (.long (((0 : Int64) + own_hit (2 : Int32) (i0 &&& (3 : Int32))) + own_hit (2 : Int32) (i1 &&& (3 : Int32))))]))
    refine own_st (fun wt wk => XS.iloadN X46.here hx rfl (hb hby at_112) rfl wk) ?_
    show Fin1 p e below s (rm0Q Z i0 i1 i2 i3 i4 vaM xM0 xM1 xM2 xM3 vcM vaJ xJ0 xJ1 xJ2 xJ3 vcJ h0 n0) room_1.cells room_1.slots (T46.setTop (mkF m 113 #[.val (.int i0), .val (.int i1), .val (.int i2), .val (.int i3), .val (.int i4), .val (.int (2 : Int32)), .val (.ref b1), .unset, .unset] [(.int i1), (.int i0), (.int (2 : Int32)), (.long (((0 : Int64) + own_hit (2 : Int32) (i0 &&& (3 : Int32))) + own_hit (2 : Int32) (i1 &&& (3 : Int32))))]))
    refine own_st (fun wt wk => XS.iloadN X46.here hx rfl (hb hby at_113) rfl wk) ?_
    show Fin1 p e below s (rm0Q Z i0 i1 i2 i3 i4 vaM xM0 xM1 xM2 xM3 vcM vaJ xJ0 xJ1 xJ2 xJ3 vcJ h0 n0) room_1.cells room_1.slots (T46.setTop (mkF m 114 #[.val (.int i0), .val (.int i1), .val (.int i2), .val (.int i3), .val (.int i4), .val (.int (2 : Int32)), .val (.ref b1), .unset, .unset] [(.int i2), (.int i1), (.int i0), (.int (2 : Int32)), (.long (((0 : Int64) + own_hit (2 : Int32) (i0 &&& (3 : Int32))) + own_hit (2 : Int32) (i1 &&& (3 : Int32))))]))
    refine own_st (fun wt wk => XS.iconst X46.here hx rfl (hb hby at_114) wk) ?_
    show Fin1 p e below s (rm0Q Z i0 i1 i2 i3 i4 vaM xM0 xM1 xM2 xM3 vcM vaJ xJ0 xJ1 xJ2 xJ3 vcJ h0 n0) room_1.cells room_1.slots (T46.setTop (mkF m 115 #[.val (.int i0), .val (.int i1), .val (.int i2), .val (.int i3), .val (.int i4), .val (.int (2 : Int32)), .val (.ref b1), .unset, .unset] [(.int (2 : Int32)), (.int i2), (.int i1), (.int i0), (.int (2 : Int32)), (.long (((0 : Int64) + own_hit (2 : Int32) (i0 &&& (3 : Int32))) + own_hit (2 : Int32) (i1 &&& (3 : Int32))))]))
    obtain ⟨v47, T47, h47, L47, X47, e47, hQ47, st47⟩ := own_static X46 hx hZ hown (hw _ (List.mem_of_getElem? (i := 77) rfl)) (hw _ (List.mem_of_getElem? (i := 78) rfl)) (hw _ (List.mem_of_getElem? (i := 55) rfl)) (hw _ (List.mem_of_getElem? (i := 79) rfl)) (by decide) (rmX l Z a0 hw (2 : Int32) i0 i1 i2 (2 : Int32) h38 n0 Z0) e46 (g := (mkF m 115 #[.val (.int i0), .val (.int i1), .val (.int i2), .val (.int i3), .val (.int i4), .val (.int (2 : Int32)), .val (.ref b1), .unset, .unset] [(.int (2 : Int32)), (.int i2), (.int i1), (.int i0), (.int (2 : Int32)), (.long (((0 : Int64) + own_hit (2 : Int32) (i0 &&& (3 : Int32))) + own_hit (2 : Int32) (i1 &&& (3 : Int32))))])) rfl (by rw [hml]; rfl) (argsL := [(.int (2 : Int32)), (.int i0), (.int i1), (.int i2), (.int (2 : Int32))]) (rest := [(.long (((0 : Int64) + own_hit (2 : Int32) (i0 &&& (3 : Int32))) + own_hit (2 : Int32) (i1 &&& (3 : Int32))))]) (lenOf pd_10 rfl) rfl (W := 2) (by show 2 * 0 + _ ≤ _; exact Nat.le_of_eq rfl) (hb hby at_115) (by decide) (by decide) (by decide) (by decide)
    obtain ⟨rfl, N47q, hh47⟩ := hQ47
    have N47 := Fr.app N46 N47q
    rw [hh47] at e47
    refine own_st st47 ?_
    show Fin1 p e below s (rm0Q Z i0 i1 i2 i3 i4 vaM xM0 xM1 xM2 xM3 vcM vaJ xJ0 xJ1 xJ2 xJ3 vcJ h0 n0) room_1.cells room_1.slots (T47.setTop (mkF m 118 #[.val (.int i0), .val (.int i1), .val (.int i2), .val (.int i3), .val (.int i4), .val (.int (2 : Int32)), .val (.ref b1), .unset, .unset] [(.long (own_exp (2 : Int32) i0 i1 i2 (2 : Int32))), (.long (((0 : Int64) + own_hit (2 : Int32) (i0 &&& (3 : Int32))) + own_hit (2 : Int32) (i1 &&& (3 : Int32))))]))
    refine own_st (fun wt wk => XS.lcmp X47.here hx rfl (hb hby at_118) rfl wk) ?_
    show Fin1 p e below s (rm0Q Z i0 i1 i2 i3 i4 vaM xM0 xM1 xM2 xM3 vcM vaJ xJ0 xJ1 xJ2 xJ3 vcJ h0 n0) room_1.cells room_1.slots (T47.setTop (mkF m 119 #[.val (.int i0), .val (.int i1), .val (.int i2), .val (.int i3), .val (.int i4), .val (.int (2 : Int32)), .val (.ref b1), .unset, .unset] [(.int (lcmpW (((0 : Int64) + own_hit (2 : Int32) (i0 &&& (3 : Int32))) + own_hit (2 : Int32) (i1 &&& (3 : Int32))) (own_exp (2 : Int32) i0 i1 i2 (2 : Int32))))]))
    refine own_st (fun wt wk => XS.ifNo X47.here hx rfl (hb hby at_119) rfl ((if0 _ _).trans (teq ((lw_eq _ _).mpr (own_same2 i0 i1 i2 (2 : Int32)) : (lcmpW (((0 : Int64) + own_hit (2 : Int32) (i0 &&& (3 : Int32))) + own_hit (2 : Int32) (i1 &&& (3 : Int32))) (own_exp (2 : Int32) i0 i1 i2 (2 : Int32))) = (0 : Int32))).2) wk) ?_
    show Fin1 p e below s (rm0Q Z i0 i1 i2 i3 i4 vaM xM0 xM1 xM2 xM3 vcM vaJ xJ0 xJ1 xJ2 xJ3 vcJ h0 n0) room_1.cells room_1.slots (T47.setTop (mkF m 122 #[.val (.int i0), .val (.int i1), .val (.int i2), .val (.int i3), .val (.int i4), .val (.int (2 : Int32)), .val (.ref b1), .unset, .unset] []))
    refine own_st (fun wt wk => XS.aload X47.here hx rfl (hb hby at_122) rfl rfl wk) ?_
    show Fin1 p e below s (rm0Q Z i0 i1 i2 i3 i4 vaM xM0 xM1 xM2 xM3 vcM vaJ xJ0 xJ1 xJ2 xJ3 vcJ h0 n0) room_1.cells room_1.slots (T47.setTop (mkF m 124 #[.val (.int i0), .val (.int i1), .val (.int i2), .val (.int i3), .val (.int i4), .val (.int (2 : Int32)), .val (.ref b1), .unset, .unset] [(.ref b1)]))
    obtain ⟨T48, X48, e48, st48⟩ := getS2 X47 hx hZ hown (host := "") (Or.inl (hw _ (List.mem_of_getElem? (i := 82) rfl))) Via.refl e47 (SJ3.ext O.2) (g := (mkF m 124 #[.val (.int i0), .val (.int i1), .val (.int i2), .val (.int i3), .val (.int i4), .val (.int (2 : Int32)), .val (.ref b1), .unset, .unset] [(.ref b1)])) rfl (hb hby at_124)
    refine own_st st48 ?_
    show Fin1 p e below s (rm0Q Z i0 i1 i2 i3 i4 vaM xM0 xM1 xM2 xM3 vcM vaJ xJ0 xJ1 xJ2 xJ3 vcJ h0 n0) room_1.cells room_1.slots (T48.setTop (mkF m 127 #[.val (.int i0), .val (.int i1), .val (.int i2), .val (.int i3), .val (.int i4), .val (.int (2 : Int32)), .val (.ref b1), .unset, .unset] [(.ref xJ3), (.ref b1)]))
    obtain ⟨v49, T49, h49, L49, X49, e49, hQ49, st49⟩ := own_virtual X48 hx hZ hown (hw _ (List.mem_of_getElem? (i := 72) rfl)) (hw _ (List.mem_of_getElem? (i := 73) rfl)) (hw _ (List.mem_of_getElem? (i := 75) rfl)) (hw _ (List.mem_of_getElem? (i := 74) rfl)) (hw _ (List.mem_of_getElem? (i := 76) rfl)) (hw _ (List.mem_of_getElem? (i := 2) rfl)) (by decide) (a := b1) E_b1 (rm_getRejected l Z a0 hw b1 xJ3 (3 : Int32) t2 k2 [(.long (((0 : Int64) + own_hit (0 : Int32) (i0 &&& (3 : Int32))) + own_hit (0 : Int32) (i1 &&& (3 : Int32)))), (.long (((0 : Int64) + own_hit (1 : Int32) (i0 &&& (3 : Int32))) + own_hit (1 : Int32) (i1 &&& (3 : Int32)))), (.long (((0 : Int64) + own_hit (2 : Int32) (i0 &&& (3 : Int32))) + own_hit (2 : Int32) (i1 &&& (3 : Int32)))), (.long (((0 : Int64) + own_hit (3 : Int32) (i0 &&& (3 : Int32))) + own_hit (3 : Int32) (i1 &&& (3 : Int32))))] (((0 : Int64) + own_hit (3 : Int32) (i0 &&& (3 : Int32))) + own_hit (3 : Int32) (i1 &&& (3 : Int32))) h38 n0 Z0 (by decide) F2 (QJ3.ext O.2) (OJ3.ext O.2) V_t2 rfl) e48 (g := (mkF m 127 #[.val (.int i0), .val (.int i1), .val (.int i2), .val (.int i3), .val (.int i4), .val (.int (2 : Int32)), .val (.ref b1), .unset, .unset] [(.ref xJ3), (.ref b1)])) rfl (by rw [hml]; rfl) (argsL := [(.ref xJ3)]) (rest := []) (lenOf pd_9 rfl) rfl (W := 0) (by show 2 * 0 + _ ≤ _; exact Nat.le_of_eq rfl) (hb hby at_127) (by decide) (by decide) (by decide) (by decide)
    obtain ⟨rfl, N49q, hh49⟩ := hQ49
    have N49 := Fr.app N47 N49q
    rw [hh49] at e49
    refine own_st st49 ?_
    show Fin1 p e below s (rm0Q Z i0 i1 i2 i3 i4 vaM xM0 xM1 xM2 xM3 vcM vaJ xJ0 xJ1 xJ2 xJ3 vcJ h0 n0) room_1.cells room_1.slots (T49.setTop (mkF m 130 #[.val (.int i0), .val (.int i1), .val (.int i2), .val (.int i3), .val (.int i4), .val (.int (2 : Int32)), .val (.ref b1), .unset, .unset] [(.long (((0 : Int64) + own_hit (3 : Int32) (i0 &&& (3 : Int32))) + own_hit (3 : Int32) (i1 &&& (3 : Int32))))]))
    refine own_st (fun wt wk => XS.iload X49.here hx rfl (hb hby at_130) rfl wk) ?_
    show Fin1 p e below s (rm0Q Z i0 i1 i2 i3 i4 vaM xM0 xM1 xM2 xM3 vcM vaJ xJ0 xJ1 xJ2 xJ3 vcJ h0 n0) room_1.cells room_1.slots (T49.setTop (mkF m 132 #[.val (.int i0), .val (.int i1), .val (.int i2), .val (.int i3), .val (.int i4), .val (.int (2 : Int32)), .val (.ref b1), .unset, .unset] [(.int (2 : Int32)), (.long (((0 : Int64) + own_hit (3 : Int32) (i0 &&& (3 : Int32))) + own_hit (3 : Int32) (i1 &&& (3 : Int32))))]))
    refine own_st (fun wt wk => XS.iloadN X49.here hx rfl (hb hby at_132) rfl wk) ?_
    show Fin1 p e below s (rm0Q Z i0 i1 i2 i3 i4 vaM xM0 xM1 xM2 xM3 vcM vaJ xJ0 xJ1 xJ2 xJ3 vcJ h0 n0) room_1.cells room_1.slots (T49.setTop (mkF m 133 #[.val (.int i0), .val (.int i1), .val (.int i2), .val (.int i3), .val (.int i4), .val (.int (2 : Int32)), .val (.ref b1), .unset, .unset] [(.int i0), (.int (2 : Int32)), (.long (((0 : Int64) + own_hit (3 : Int32) (i0 &&& (3 : Int32))) + own_hit (3 : Int32) (i1 &&& (3 : Int32))))]))
    refine own_st (fun wt wk => XS.iloadN X49.here hx rfl (hb hby at_133) rfl wk) ?_
    show Fin1 p e below s (rm0Q Z i0 i1 i2 i3 i4 vaM xM0 xM1 xM2 xM3 vcM vaJ xJ0 xJ1 xJ2 xJ3 vcJ h0 n0) room_1.cells room_1.slots (T49.setTop (mkF m 134 #[.val (.int i0), .val (.int i1), .val (.int i2), .val (.int i3), .val (.int i4), .val (.int (2 : Int32)), .val (.ref b1), .unset, .unset] [(.int i1), (.int i0), (.int (2 : Int32)), (.long (((0 : Int64) + own_hit (3 : Int32) (i0 &&& (3 : Int32))) + own_hit (3 : Int32) (i1 &&& (3 : Int32))))]))
    refine own_st (fun wt wk => XS.iloadN X49.here hx rfl (hb hby at_134) rfl wk) ?_
    show Fin1 p e below s (rm0Q Z i0 i1 i2 i3 i4 vaM xM0 xM1 xM2 xM3 vcM vaJ xJ0 xJ1 xJ2 xJ3 vcJ h0 n0) room_1.cells room_1.slots (T49.setTop (mkF m 135 #[.val (.int i0), .val (.int i1), .val (.int i2), .val (.int i3), .val (.int i4), .val (.int (2 : Int32)), .val (.ref b1), .unset, .unset] [(.int i2), (.int i1), (.int i0), (.int (2 : Int32)), (.long (((0 : Int64) + own_hit (3 : Int32) (i0 &&& (3 : Int32))) + own_hit (3 : Int32) (i1 &&& (3 : Int32))))]))
    refine own_st (fun wt wk => XS.iconst X49.here hx rfl (hb hby at_135) wk) ?_
    show Fin1 p e below s (rm0Q Z i0 i1 i2 i3 i4 vaM xM0 xM1 xM2 xM3 vcM vaJ xJ0 xJ1 xJ2 xJ3 vcJ h0 n0) room_1.cells room_1.slots (T49.setTop (mkF m 136 #[.val (.int i0), .val (.int i1), .val (.int i2), .val (.int i3), .val (.int i4), .val (.int (2 : Int32)), .val (.ref b1), .unset, .unset] [(.int (3 : Int32)), (.int i2), (.int i1), (.int i0), (.int (2 : Int32)), (.long (((0 : Int64) + own_hit (3 : Int32) (i0 &&& (3 : Int32))) + own_hit (3 : Int32) (i1 &&& (3 : Int32))))]))
    obtain ⟨v50, T50, h50, L50, X50, e50, hQ50, st50⟩ := own_static X49 hx hZ hown (hw _ (List.mem_of_getElem? (i := 77) rfl)) (hw _ (List.mem_of_getElem? (i := 78) rfl)) (hw _ (List.mem_of_getElem? (i := 55) rfl)) (hw _ (List.mem_of_getElem? (i := 79) rfl)) (by decide) (rmX l Z a0 hw (2 : Int32) i0 i1 i2 (3 : Int32) h38 n0 Z0) e49 (g := (mkF m 136 #[.val (.int i0), .val (.int i1), .val (.int i2), .val (.int i3), .val (.int i4), .val (.int (2 : Int32)), .val (.ref b1), .unset, .unset] [(.int (3 : Int32)), (.int i2), (.int i1), (.int i0), (.int (2 : Int32)), (.long (((0 : Int64) + own_hit (3 : Int32) (i0 &&& (3 : Int32))) + own_hit (3 : Int32) (i1 &&& (3 : Int32))))])) rfl (by rw [hml]; rfl) (argsL := [(.int (2 : Int32)), (.int i0), (.int i1), (.int i2), (.int (3 : Int32))]) (rest := [(.long (((0 : Int64) + own_hit (3 : Int32) (i0 &&& (3 : Int32))) + own_hit (3 : Int32) (i1 &&& (3 : Int32))))]) (lenOf pd_10 rfl) rfl (W := 2) (by show 2 * 0 + _ ≤ _; exact Nat.le_of_eq rfl) (hb hby at_136) (by decide) (by decide) (by decide) (by decide)
    obtain ⟨rfl, N50q, hh50⟩ := hQ50
    have N50 := Fr.app N49 N50q
    rw [hh50] at e50
    refine own_st st50 ?_
    show Fin1 p e below s (rm0Q Z i0 i1 i2 i3 i4 vaM xM0 xM1 xM2 xM3 vcM vaJ xJ0 xJ1 xJ2 xJ3 vcJ h0 n0) room_1.cells room_1.slots (T50.setTop (mkF m 139 #[.val (.int i0), .val (.int i1), .val (.int i2), .val (.int i3), .val (.int i4), .val (.int (2 : Int32)), .val (.ref b1), .unset, .unset] [(.long (own_exp (2 : Int32) i0 i1 i2 (3 : Int32))), (.long (((0 : Int64) + own_hit (3 : Int32) (i0 &&& (3 : Int32))) + own_hit (3 : Int32) (i1 &&& (3 : Int32))))]))
    refine own_st (fun wt wk => XS.lcmp X50.here hx rfl (hb hby at_139) rfl wk) ?_
    show Fin1 p e below s (rm0Q Z i0 i1 i2 i3 i4 vaM xM0 xM1 xM2 xM3 vcM vaJ xJ0 xJ1 xJ2 xJ3 vcJ h0 n0) room_1.cells room_1.slots (T50.setTop (mkF m 140 #[.val (.int i0), .val (.int i1), .val (.int i2), .val (.int i3), .val (.int i4), .val (.int (2 : Int32)), .val (.ref b1), .unset, .unset] [(.int (lcmpW (((0 : Int64) + own_hit (3 : Int32) (i0 &&& (3 : Int32))) + own_hit (3 : Int32) (i1 &&& (3 : Int32))) (own_exp (2 : Int32) i0 i1 i2 (3 : Int32))))]))
    refine own_st (fun wt wk => XS.ifNo X50.here hx rfl (hb hby at_140) rfl ((if0 _ _).trans (teq ((lw_eq _ _).mpr (own_same2 i0 i1 i2 (3 : Int32)) : (lcmpW (((0 : Int64) + own_hit (3 : Int32) (i0 &&& (3 : Int32))) + own_hit (3 : Int32) (i1 &&& (3 : Int32))) (own_exp (2 : Int32) i0 i1 i2 (3 : Int32))) = (0 : Int32))).2) wk) ?_
    show Fin1 p e below s (rm0Q Z i0 i1 i2 i3 i4 vaM xM0 xM1 xM2 xM3 vcM vaJ xJ0 xJ1 xJ2 xJ3 vcJ h0 n0) room_1.cells room_1.slots (T50.setTop (mkF m 143 #[.val (.int i0), .val (.int i1), .val (.int i2), .val (.int i3), .val (.int i4), .val (.int (2 : Int32)), .val (.ref b1), .unset, .unset] []))
    refine own_st (fun wt wk => XS.iconst X50.here hx rfl (hb hby at_143) wk) ?_
    show Fin1 p e below s (rm0Q Z i0 i1 i2 i3 i4 vaM xM0 xM1 xM2 xM3 vcM vaJ xJ0 xJ1 xJ2 xJ3 vcJ h0 n0) room_1.cells room_1.slots (T50.setTop (mkF m 144 #[.val (.int i0), .val (.int i1), .val (.int i2), .val (.int i3), .val (.int i4), .val (.int (2 : Int32)), .val (.ref b1), .unset, .unset] [(.int (1 : Int32))]))
    refine own_st (fun wt wk => XS.goto X50.here hx rfl (pc0 := 144) (pc' := 148) rfl (hb hby at_144) (by decide) (by decide) wk) ?_
    show Fin1 p e below s (rm0Q Z i0 i1 i2 i3 i4 vaM xM0 xM1 xM2 xM3 vcM vaJ xJ0 xJ1 xJ2 xJ3 vcJ h0 n0) room_1.cells room_1.slots (T50.setTop (mkF m 148 #[.val (.int i0), .val (.int i1), .val (.int i2), .val (.int i3), .val (.int i4), .val (.int (2 : Int32)), .val (.ref b1), .unset, .unset] [(.int (1 : Int32))]))
    refine own_st (fun wt wk => XS.istore X50.here hx rfl (hb hby at_148) rfl (l' := #[.val (.int i0), .val (.int i1), .val (.int i2), .val (.int i3), .val (.int i4), .val (.int (2 : Int32)), .val (.ref b1), .val (.int (1 : Int32)), .unset]) rfl wk) ?_
    show Fin1 p e below s (rm0Q Z i0 i1 i2 i3 i4 vaM xM0 xM1 xM2 xM3 vcM vaJ xJ0 xJ1 xJ2 xJ3 vcJ h0 n0) room_1.cells room_1.slots (T50.setTop (mkF m 150 #[.val (.int i0), .val (.int i1), .val (.int i2), .val (.int i3), .val (.int i4), .val (.int (2 : Int32)), .val (.ref b1), .val (.int (1 : Int32)), .unset] []))
    refine own_st (fun wt wk => XS.iload X50.here hx rfl (hb hby at_150) rfl wk) ?_
    show Fin1 p e below s (rm0Q Z i0 i1 i2 i3 i4 vaM xM0 xM1 xM2 xM3 vcM vaJ xJ0 xJ1 xJ2 xJ3 vcJ h0 n0) room_1.cells room_1.slots (T50.setTop (mkF m 152 #[.val (.int i0), .val (.int i1), .val (.int i2), .val (.int i3), .val (.int i4), .val (.int (2 : Int32)), .val (.ref b1), .val (.int (1 : Int32)), .unset] [(.int i4)]))
    obtain ⟨v51, T51, h51, L51, X51, e51, hQ51, st51⟩ := own_static X50 hx hZ hown (hw _ (List.mem_of_getElem? (i := 83) rfl)) (hw _ (List.mem_of_getElem? (i := 84) rfl)) (hw _ (List.mem_of_getElem? (i := 55) rfl)) (hw _ (List.mem_of_getElem? (i := 85) rfl)) (by decide) (rm_kind l Z a0 hw i4 vaM xM0 xM1 xM2 xM3 vcM h38 n0 Z0 O EM) e50 (g := (mkF m 152 #[.val (.int i0), .val (.int i1), .val (.int i2), .val (.int i3), .val (.int i4), .val (.int (2 : Int32)), .val (.ref b1), .val (.int (1 : Int32)), .unset] [(.int i4)])) rfl (by rw [hml]; rfl) (argsL := [(.int i4)]) (rest := []) (lenOf pd_11 rfl) rfl (W := 0) (by show 2 * 0 + _ ≤ _; exact Nat.le_of_eq rfl) (hb hby at_152) (by decide) (by decide) (by decide) (by decide)
    obtain ⟨rk, rfl, N51q, hh51, E_rk, O_rk⟩ := hQ51
    have N51 := Fr.app N50 N51q
    rw [hh51] at e51
    refine own_st st51 ?_
    show Fin1 p e below s (rm0Q Z i0 i1 i2 i3 i4 vaM xM0 xM1 xM2 xM3 vcM vaJ xJ0 xJ1 xJ2 xJ3 vcJ h0 n0) room_1.cells room_1.slots (T51.setTop (mkF m 155 #[.val (.int i0), .val (.int i1), .val (.int i2), .val (.int i3), .val (.int i4), .val (.int (2 : Int32)), .val (.ref b1), .val (.int (1 : Int32)), .unset] [(.ref rk)]))
    refine own_st (fun wt wk => XS.astore X51.here hx rfl (hb hby at_155) rfl rfl (l' := #[.val (.int i0), .val (.int i1), .val (.int i2), .val (.int i3), .val (.int i4), .val (.int (2 : Int32)), .val (.ref b1), .val (.int (1 : Int32)), .val (.ref rk)]) rfl wk) ?_
    show Fin1 p e below s (rm0Q Z i0 i1 i2 i3 i4 vaM xM0 xM1 xM2 xM3 vcM vaJ xJ0 xJ1 xJ2 xJ3 vcJ h0 n0) room_1.cells room_1.slots (T51.setTop (mkF m 157 #[.val (.int i0), .val (.int i1), .val (.int i2), .val (.int i3), .val (.int i4), .val (.int (2 : Int32)), .val (.ref b1), .val (.int (1 : Int32)), .val (.ref rk)] []))
    refine own_st (fun wt wk => XS.iload X51.here hx rfl (hb hby at_157) rfl wk) ?_
    show Fin1 p e below s (rm0Q Z i0 i1 i2 i3 i4 vaM xM0 xM1 xM2 xM3 vcM vaJ xJ0 xJ1 xJ2 xJ3 vcJ h0 n0) room_1.cells room_1.slots (T51.setTop (mkF m 159 #[.val (.int i0), .val (.int i1), .val (.int i2), .val (.int i3), .val (.int i4), .val (.int (2 : Int32)), .val (.ref b1), .val (.int (1 : Int32)), .val (.ref rk)] [(.int (1 : Int32))]))
    refine own_st (fun wt wk => XS.ifNo X51.here hx rfl (hb hby at_159) rfl ((if0 _ _).trans (feq (by decide)).1) wk) ?_
    show Fin1 p e below s (rm0Q Z i0 i1 i2 i3 i4 vaM xM0 xM1 xM2 xM3 vcM vaJ xJ0 xJ1 xJ2 xJ3 vcJ h0 n0) room_1.cells room_1.slots (T51.setTop (mkF m 162 #[.val (.int i0), .val (.int i1), .val (.int i2), .val (.int i3), .val (.int i4), .val (.int (2 : Int32)), .val (.ref b1), .val (.int (1 : Int32)), .val (.ref rk)] []))
    refine own_st (fun wt wk => XS.aload X51.here hx rfl (hb hby at_162) rfl rfl wk) ?_
    show Fin1 p e below s (rm0Q Z i0 i1 i2 i3 i4 vaM xM0 xM1 xM2 xM3 vcM vaJ xJ0 xJ1 xJ2 xJ3 vcJ h0 n0) room_1.cells room_1.slots (T51.setTop (mkF m 164 #[.val (.int i0), .val (.int i1), .val (.int i2), .val (.int i3), .val (.int i4), .val (.int (2 : Int32)), .val (.ref b1), .val (.int (1 : Int32)), .val (.ref rk)] [(.ref b1)]))
    refine own_st (fun wt wk => XS.aload X51.here hx rfl (hb hby at_164) rfl rfl wk) ?_
    show Fin1 p e below s (rm0Q Z i0 i1 i2 i3 i4 vaM xM0 xM1 xM2 xM3 vcM vaJ xJ0 xJ1 xJ2 xJ3 vcJ h0 n0) room_1.cells room_1.slots (T51.setTop (mkF m 166 #[.val (.int i0), .val (.int i1), .val (.int i2), .val (.int i3), .val (.int i4), .val (.int (2 : Int32)), .val (.ref b1), .val (.int (1 : Int32)), .val (.ref rk)] [(.ref rk), (.ref b1)]))
    obtain ⟨v52, T52, h52, L52, X52, e52, hQ52, st52⟩ := own_virtual X51 hx hZ hown (hw _ (List.mem_of_getElem? (i := 87) rfl)) (hw _ (List.mem_of_getElem? (i := 88) rfl)) (hw _ (List.mem_of_getElem? (i := 90) rfl)) (hw _ (List.mem_of_getElem? (i := 89) rfl)) (hw _ (List.mem_of_getElem? (i := 91) rfl)) (hw _ (List.mem_of_getElem? (i := 2) rfl)) (by decide) (a := b1) E_b1 (rm_getSent l Z a0 hw b1 rk (i4 &&& (3 : Int32)) t0 k0 [(.long (0 : Int64)), (.long (0 : Int64)), (.long (0 : Int64)), (.long (0 : Int64))] (0 : Int64) h38 n0 Z0 (own_rng _) F0 E_rk O_rk V_t0 (by rw [own_at _ _ _ _ _ (own_rng _)]; simp)) e51 (g := (mkF m 166 #[.val (.int i0), .val (.int i1), .val (.int i2), .val (.int i3), .val (.int i4), .val (.int (2 : Int32)), .val (.ref b1), .val (.int (1 : Int32)), .val (.ref rk)] [(.ref rk), (.ref b1)])) rfl (by rw [hml]; rfl) (argsL := [(.ref rk)]) (rest := []) (lenOf pd_12 rfl) rfl (W := 0) (by show 2 * 0 + _ ≤ _; exact Nat.le_of_eq rfl) (hb hby at_166) (by decide) (by decide) (by decide) (by decide)
    obtain ⟨rfl, N52q, hh52⟩ := hQ52
    have N52 := Fr.app N51 N52q
    rw [hh52] at e52
    refine own_st st52 ?_
    show Fin1 p e below s (rm0Q Z i0 i1 i2 i3 i4 vaM xM0 xM1 xM2 xM3 vcM vaJ xJ0 xJ1 xJ2 xJ3 vcJ h0 n0) room_1.cells room_1.slots (T52.setTop (mkF m 169 #[.val (.int i0), .val (.int i1), .val (.int i2), .val (.int i3), .val (.int i4), .val (.int (2 : Int32)), .val (.ref b1), .val (.int (1 : Int32)), .val (.ref rk)] [(.long (0 : Int64))]))
    refine own_st (fun wt wk => XS.lconst X52.here hx rfl (hb hby at_169) wk) ?_
    show Fin1 p e below s (rm0Q Z i0 i1 i2 i3 i4 vaM xM0 xM1 xM2 xM3 vcM vaJ xJ0 xJ1 xJ2 xJ3 vcJ h0 n0) room_1.cells room_1.slots (T52.setTop (mkF m 170 #[.val (.int i0), .val (.int i1), .val (.int i2), .val (.int i3), .val (.int i4), .val (.int (2 : Int32)), .val (.ref b1), .val (.int (1 : Int32)), .val (.ref rk)] [(.long (0 : Int64)), (.long (0 : Int64))]))
    refine own_st (fun wt wk => XS.lcmp X52.here hx rfl (hb hby at_170) rfl wk) ?_
    show Fin1 p e below s (rm0Q Z i0 i1 i2 i3 i4 vaM xM0 xM1 xM2 xM3 vcM vaJ xJ0 xJ1 xJ2 xJ3 vcJ h0 n0) room_1.cells room_1.slots (T52.setTop (mkF m 171 #[.val (.int i0), .val (.int i1), .val (.int i2), .val (.int i3), .val (.int i4), .val (.int (2 : Int32)), .val (.ref b1), .val (.int (1 : Int32)), .val (.ref rk)] [(.int (lcmpW (0 : Int64) (0 : Int64)))]))
    refine own_st (fun wt wk => XS.ifNo X52.here hx rfl (hb hby at_171) rfl ((if0 _ _).trans (teq ((lw_eq _ _).mpr rfl : (lcmpW (0 : Int64) (0 : Int64)) = (0 : Int32))).2) wk) ?_
    show Fin1 p e below s (rm0Q Z i0 i1 i2 i3 i4 vaM xM0 xM1 xM2 xM3 vcM vaJ xJ0 xJ1 xJ2 xJ3 vcJ h0 n0) room_1.cells room_1.slots (T52.setTop (mkF m 174 #[.val (.int i0), .val (.int i1), .val (.int i2), .val (.int i3), .val (.int i4), .val (.int (2 : Int32)), .val (.ref b1), .val (.int (1 : Int32)), .val (.ref rk)] []))
    refine own_st (fun wt wk => XS.aload X52.here hx rfl (hb hby at_174) rfl rfl wk) ?_
    show Fin1 p e below s (rm0Q Z i0 i1 i2 i3 i4 vaM xM0 xM1 xM2 xM3 vcM vaJ xJ0 xJ1 xJ2 xJ3 vcJ h0 n0) room_1.cells room_1.slots (T52.setTop (mkF m 176 #[.val (.int i0), .val (.int i1), .val (.int i2), .val (.int i3), .val (.int i4), .val (.int (2 : Int32)), .val (.ref b1), .val (.int (1 : Int32)), .val (.ref rk)] [(.ref b1)]))
    refine own_st (fun wt wk => XS.aload X52.here hx rfl (hb hby at_176) rfl rfl wk) ?_
    show Fin1 p e below s (rm0Q Z i0 i1 i2 i3 i4 vaM xM0 xM1 xM2 xM3 vcM vaJ xJ0 xJ1 xJ2 xJ3 vcJ h0 n0) room_1.cells room_1.slots (T52.setTop (mkF m 178 #[.val (.int i0), .val (.int i1), .val (.int i2), .val (.int i3), .val (.int i4), .val (.int (2 : Int32)), .val (.ref b1), .val (.int (1 : Int32)), .val (.ref rk)] [(.ref rk), (.ref b1)]))
    obtain ⟨v53, T53, h53, L53, X53, e53, hQ53, st53⟩ := own_virtual X52 hx hZ hown (hw _ (List.mem_of_getElem? (i := 96) rfl)) (hw _ (List.mem_of_getElem? (i := 97) rfl)) (hw _ (List.mem_of_getElem? (i := 99) rfl)) (hw _ (List.mem_of_getElem? (i := 98) rfl)) (hw _ (List.mem_of_getElem? (i := 100) rfl)) (hw _ (List.mem_of_getElem? (i := 2) rfl)) (by decide) (a := b1) E_b1 (rm_getReceived l Z a0 hw b1 rk (i4 &&& (3 : Int32)) t1 k1 [(.long (0 : Int64)), (.long (0 : Int64)), (.long (0 : Int64)), (.long (0 : Int64))] (0 : Int64) h38 n0 Z0 (own_rng _) F1 E_rk O_rk V_t1 (by rw [own_at _ _ _ _ _ (own_rng _)]; simp)) e52 (g := (mkF m 178 #[.val (.int i0), .val (.int i1), .val (.int i2), .val (.int i3), .val (.int i4), .val (.int (2 : Int32)), .val (.ref b1), .val (.int (1 : Int32)), .val (.ref rk)] [(.ref rk), (.ref b1)])) rfl (by rw [hml]; rfl) (argsL := [(.ref rk)]) (rest := []) (lenOf pd_12 rfl) rfl (W := 0) (by show 2 * 0 + _ ≤ _; exact Nat.le_of_eq rfl) (hb hby at_178) (by decide) (by decide) (by decide) (by decide)
    obtain ⟨rfl, N53q, hh53⟩ := hQ53
    have N53 := Fr.app N52 N53q
    rw [hh53] at e53
    refine own_st st53 ?_
    show Fin1 p e below s (rm0Q Z i0 i1 i2 i3 i4 vaM xM0 xM1 xM2 xM3 vcM vaJ xJ0 xJ1 xJ2 xJ3 vcJ h0 n0) room_1.cells room_1.slots (T53.setTop (mkF m 181 #[.val (.int i0), .val (.int i1), .val (.int i2), .val (.int i3), .val (.int i4), .val (.int (2 : Int32)), .val (.ref b1), .val (.int (1 : Int32)), .val (.ref rk)] [(.long (0 : Int64))]))
    refine own_st (fun wt wk => XS.lconst X53.here hx rfl (hb hby at_181) wk) ?_
    show Fin1 p e below s (rm0Q Z i0 i1 i2 i3 i4 vaM xM0 xM1 xM2 xM3 vcM vaJ xJ0 xJ1 xJ2 xJ3 vcJ h0 n0) room_1.cells room_1.slots (T53.setTop (mkF m 182 #[.val (.int i0), .val (.int i1), .val (.int i2), .val (.int i3), .val (.int i4), .val (.int (2 : Int32)), .val (.ref b1), .val (.int (1 : Int32)), .val (.ref rk)] [(.long (0 : Int64)), (.long (0 : Int64))]))
    refine own_st (fun wt wk => XS.lcmp X53.here hx rfl (hb hby at_182) rfl wk) ?_
    show Fin1 p e below s (rm0Q Z i0 i1 i2 i3 i4 vaM xM0 xM1 xM2 xM3 vcM vaJ xJ0 xJ1 xJ2 xJ3 vcJ h0 n0) room_1.cells room_1.slots (T53.setTop (mkF m 183 #[.val (.int i0), .val (.int i1), .val (.int i2), .val (.int i3), .val (.int i4), .val (.int (2 : Int32)), .val (.ref b1), .val (.int (1 : Int32)), .val (.ref rk)] [(.int (lcmpW (0 : Int64) (0 : Int64)))]))
    refine own_st (fun wt wk => XS.ifNo X53.here hx rfl (hb hby at_183) rfl ((if0 _ _).trans (teq ((lw_eq _ _).mpr rfl : (lcmpW (0 : Int64) (0 : Int64)) = (0 : Int32))).2) wk) ?_
    show Fin1 p e below s (rm0Q Z i0 i1 i2 i3 i4 vaM xM0 xM1 xM2 xM3 vcM vaJ xJ0 xJ1 xJ2 xJ3 vcJ h0 n0) room_1.cells room_1.slots (T53.setTop (mkF m 186 #[.val (.int i0), .val (.int i1), .val (.int i2), .val (.int i3), .val (.int i4), .val (.int (2 : Int32)), .val (.ref b1), .val (.int (1 : Int32)), .val (.ref rk)] []))
    refine own_st (fun wt wk => XS.iconst X53.here hx rfl (hb hby at_186) wk) ?_
    show Fin1 p e below s (rm0Q Z i0 i1 i2 i3 i4 vaM xM0 xM1 xM2 xM3 vcM vaJ xJ0 xJ1 xJ2 xJ3 vcJ h0 n0) room_1.cells room_1.slots (T53.setTop (mkF m 187 #[.val (.int i0), .val (.int i1), .val (.int i2), .val (.int i3), .val (.int i4), .val (.int (2 : Int32)), .val (.ref b1), .val (.int (1 : Int32)), .val (.ref rk)] [(.int (1 : Int32))]))
    refine own_st (fun wt wk => XS.goto X53.here hx rfl (pc0 := 187) (pc' := 191) rfl (hb hby at_187) (by decide) (by decide) wk) ?_
    show Fin1 p e below s (rm0Q Z i0 i1 i2 i3 i4 vaM xM0 xM1 xM2 xM3 vcM vaJ xJ0 xJ1 xJ2 xJ3 vcJ h0 n0) room_1.cells room_1.slots (T53.setTop (mkF m 191 #[.val (.int i0), .val (.int i1), .val (.int i2), .val (.int i3), .val (.int i4), .val (.int (2 : Int32)), .val (.ref b1), .val (.int (1 : Int32)), .val (.ref rk)] [(.int (1 : Int32))]))
    exact own_retZ X53 hx hlk hret (hb hby at_191) (z := (1 : Int32)) (by decide) (by rw [e53]; exact ⟨rfl, N53⟩) (by decide) (by decide)
  · show Fin1 p e below s (rm0Q Z i0 i1 i2 i3 i4 vaM xM0 xM1 xM2 xM3 vcM vaJ xJ0 xJ1 xJ2 xJ3 vcJ h0 n0) room_1.cells room_1.slots (T2.setTop (mkF m 17 #[.val (.int i0), .val (.int i1), .val (.int i2), .val (.int i3), .val (.int i4), .val (.int (3 : Int32)), .val (.ref b1), .unset, .unset] [(.int (1 : Int32)), (.int (3 : Int32))]))
    refine own_st (fun wt wk => XS.icmpNo X2.here hx rfl (hb hby at_17) rfl (flt (by decide)).1 wk) ?_
    show Fin1 p e below s (rm0Q Z i0 i1 i2 i3 i4 vaM xM0 xM1 xM2 xM3 vcM vaJ xJ0 xJ1 xJ2 xJ3 vcJ h0 n0) room_1.cells room_1.slots (T2.setTop (mkF m 20 #[.val (.int i0), .val (.int i1), .val (.int i2), .val (.int i3), .val (.int i4), .val (.int (3 : Int32)), .val (.ref b1), .unset, .unset] []))
    refine own_st (fun wt wk => XS.aload X2.here hx rfl (hb hby at_20) rfl rfl wk) ?_
    show Fin1 p e below s (rm0Q Z i0 i1 i2 i3 i4 vaM xM0 xM1 xM2 xM3 vcM vaJ xJ0 xJ1 xJ2 xJ3 vcJ h0 n0) room_1.cells room_1.slots (T2.setTop (mkF m 22 #[.val (.int i0), .val (.int i1), .val (.int i2), .val (.int i3), .val (.int i4), .val (.int (3 : Int32)), .val (.ref b1), .unset, .unset] [(.ref b1)]))
    refine own_st (fun wt wk => XS.iloadN X2.here hx rfl (hb hby at_22) rfl wk) ?_
    show Fin1 p e below s (rm0Q Z i0 i1 i2 i3 i4 vaM xM0 xM1 xM2 xM3 vcM vaJ xJ0 xJ1 xJ2 xJ3 vcJ h0 n0) room_1.cells room_1.slots (T2.setTop (mkF m 23 #[.val (.int i0), .val (.int i1), .val (.int i2), .val (.int i3), .val (.int i4), .val (.int (3 : Int32)), .val (.ref b1), .unset, .unset] [(.int i0), (.ref b1)]))
    obtain ⟨v54, T54, h54, L54, X54, e54, hQ54, st54⟩ := own_static X2 hx hZ hown (hw _ (List.mem_of_getElem? (i := 53) rfl)) (hw _ (List.mem_of_getElem? (i := 54) rfl)) (hw _ (List.mem_of_getElem? (i := 55) rfl)) (hw _ (List.mem_of_getElem? (i := 56) rfl)) (by decide) (rm_reason l Z a0 hw i0 vaJ xJ0 xJ1 xJ2 xJ3 vcJ h2 n0 Z0 O EJ) e2 (g := (mkF m 23 #[.val (.int i0), .val (.int i1), .val (.int i2), .val (.int i3), .val (.int i4), .val (.int (3 : Int32)), .val (.ref b1), .unset, .unset] [(.int i0), (.ref b1)])) rfl (by rw [hml]; rfl) (argsL := [(.int i0)]) (rest := [(.ref b1)]) (lenOf pd_13 rfl) rfl (W := 1) (by show 2 * 0 + _ ≤ _; exact Nat.le_of_eq rfl) (hb hby at_23) (by decide) (by decide) (by decide) (by decide)
    obtain ⟨r0, rfl, N54q, hh54, E_r0, O_r0⟩ := hQ54
    have N54 := Fr.app N2 N54q
    rw [hh54] at e54
    refine own_st st54 ?_
    show Fin1 p e below s (rm0Q Z i0 i1 i2 i3 i4 vaM xM0 xM1 xM2 xM3 vcM vaJ xJ0 xJ1 xJ2 xJ3 vcJ h0 n0) room_1.cells room_1.slots (T54.setTop (mkF m 26 #[.val (.int i0), .val (.int i1), .val (.int i2), .val (.int i3), .val (.int i4), .val (.int (3 : Int32)), .val (.ref b1), .unset, .unset] [(.ref r0), (.ref b1)]))
    obtain ⟨v55, T55, h55, L55, X55, e55, hQ55, st55⟩ := own_virtual X54 hx hZ hown (hw _ (List.mem_of_getElem? (i := 58) rfl)) (hw _ (List.mem_of_getElem? (i := 59) rfl)) (hw _ (List.mem_of_getElem? (i := 61) rfl)) (hw _ (List.mem_of_getElem? (i := 60) rfl)) (hw _ (List.mem_of_getElem? (i := 62) rfl)) (hw _ (List.mem_of_getElem? (i := 2) rfl)) (by decide) (a := b1) E_b1 (rmRej l Z a0 hw b1 r0 (i0 &&& (3 : Int32)) t2 k2 (0 : Int64) (0 : Int64) (0 : Int64) (0 : Int64) h2 n0 Z0 g_t2 (own_rng _) F2 E_r0 O_r0 V_t2) e54 (g := (mkF m 26 #[.val (.int i0), .val (.int i1), .val (.int i2), .val (.int i3), .val (.int i4), .val (.int (3 : Int32)), .val (.ref b1), .unset, .unset] [(.ref r0), (.ref b1)])) rfl (by rw [hml]; rfl) (argsL := [(.ref r0)]) (rest := []) (lenOf pd_14 rfl) rfl (W := 0) (by show 2 * 0 + _ ≤ _; exact Nat.le_of_eq rfl) (hb hby at_26) (by decide) (by decide) (by decide) (by decide)
    obtain ⟨rfl, N55q, K55, V_t2⟩ := hQ55
    have N55 := Fr.app N54 N55q
    have Z0 := Nat.le_trans Z0 K55.1
    have O := O.keep K55 (allS (P := fun x => n0 ≤ x) g_t2 all0)
    have E_b1 := E_b1.keep K55
    have F0 := F0.keep K55 (ninS ne_b1_t2 nin0)
    have F1 := F1.keep K55 (ninS ne_b1_t2 nin0)
    have F2 := F2.keep K55 (ninS ne_b1_t2 nin0)
    have V_t0 := V_t0.keep K55 (ninS ne_t0_t2 nin0)
    have V_t1 := V_t1.keep K55 (ninS ne_t1_t2 nin0)
    refine own_st st55 ?_
    show Fin1 p e below s (rm0Q Z i0 i1 i2 i3 i4 vaM xM0 xM1 xM2 xM3 vcM vaJ xJ0 xJ1 xJ2 xJ3 vcJ h0 n0) room_1.cells room_1.slots (T55.setTop (mkF m 29 #[.val (.int i0), .val (.int i1), .val (.int i2), .val (.int i3), .val (.int i4), .val (.int (3 : Int32)), .val (.ref b1), .unset, .unset] []))
    refine own_st (fun wt wk => XS.iload X55.here hx rfl (hb hby at_29) rfl wk) ?_
    show Fin1 p e below s (rm0Q Z i0 i1 i2 i3 i4 vaM xM0 xM1 xM2 xM3 vcM vaJ xJ0 xJ1 xJ2 xJ3 vcJ h0 n0) room_1.cells room_1.slots (T55.setTop (mkF m 31 #[.val (.int i0), .val (.int i1), .val (.int i2), .val (.int i3), .val (.int i4), .val (.int (3 : Int32)), .val (.ref b1), .unset, .unset] [(.int (3 : Int32))]))
    refine own_st (fun wt wk => XS.iconst X55.here hx rfl (hb hby at_31) wk) ?_
    show Fin1 p e below s (rm0Q Z i0 i1 i2 i3 i4 vaM xM0 xM1 xM2 xM3 vcM vaJ xJ0 xJ1 xJ2 xJ3 vcJ h0 n0) room_1.cells room_1.slots (T55.setTop (mkF m 32 #[.val (.int i0), .val (.int i1), .val (.int i2), .val (.int i3), .val (.int i4), .val (.int (3 : Int32)), .val (.ref b1), .unset, .unset] [(.int (2 : Int32)), (.int (3 : Int32))]))
    refine own_st (fun wt wk => XS.icmpNo X55.here hx rfl (hb hby at_32) rfl (flt (by decide)).1 wk) ?_
    show Fin1 p e below s (rm0Q Z i0 i1 i2 i3 i4 vaM xM0 xM1 xM2 xM3 vcM vaJ xJ0 xJ1 xJ2 xJ3 vcJ h0 n0) room_1.cells room_1.slots (T55.setTop (mkF m 35 #[.val (.int i0), .val (.int i1), .val (.int i2), .val (.int i3), .val (.int i4), .val (.int (3 : Int32)), .val (.ref b1), .unset, .unset] []))
    refine own_st (fun wt wk => XS.aload X55.here hx rfl (hb hby at_35) rfl rfl wk) ?_
    show Fin1 p e below s (rm0Q Z i0 i1 i2 i3 i4 vaM xM0 xM1 xM2 xM3 vcM vaJ xJ0 xJ1 xJ2 xJ3 vcJ h0 n0) room_1.cells room_1.slots (T55.setTop (mkF m 37 #[.val (.int i0), .val (.int i1), .val (.int i2), .val (.int i3), .val (.int i4), .val (.int (3 : Int32)), .val (.ref b1), .unset, .unset] [(.ref b1)]))
    refine own_st (fun wt wk => XS.iloadN X55.here hx rfl (hb hby at_37) rfl wk) ?_
    show Fin1 p e below s (rm0Q Z i0 i1 i2 i3 i4 vaM xM0 xM1 xM2 xM3 vcM vaJ xJ0 xJ1 xJ2 xJ3 vcJ h0 n0) room_1.cells room_1.slots (T55.setTop (mkF m 38 #[.val (.int i0), .val (.int i1), .val (.int i2), .val (.int i3), .val (.int i4), .val (.int (3 : Int32)), .val (.ref b1), .unset, .unset] [(.int i1), (.ref b1)]))
    obtain ⟨v56, T56, h56, L56, X56, e56, hQ56, st56⟩ := own_static X55 hx hZ hown (hw _ (List.mem_of_getElem? (i := 53) rfl)) (hw _ (List.mem_of_getElem? (i := 54) rfl)) (hw _ (List.mem_of_getElem? (i := 55) rfl)) (hw _ (List.mem_of_getElem? (i := 56) rfl)) (by decide) (rm_reason l Z a0 hw i1 vaJ xJ0 xJ1 xJ2 xJ3 vcJ h55 n0 Z0 O EJ) e55 (g := (mkF m 38 #[.val (.int i0), .val (.int i1), .val (.int i2), .val (.int i3), .val (.int i4), .val (.int (3 : Int32)), .val (.ref b1), .unset, .unset] [(.int i1), (.ref b1)])) rfl (by rw [hml]; rfl) (argsL := [(.int i1)]) (rest := [(.ref b1)]) (lenOf pd_13 rfl) rfl (W := 1) (by show 2 * 0 + _ ≤ _; exact Nat.le_of_eq rfl) (hb hby at_38) (by decide) (by decide) (by decide) (by decide)
    obtain ⟨r1, rfl, N56q, hh56, E_r1, O_r1⟩ := hQ56
    have N56 := Fr.app N55 N56q
    rw [hh56] at e56
    refine own_st st56 ?_
    show Fin1 p e below s (rm0Q Z i0 i1 i2 i3 i4 vaM xM0 xM1 xM2 xM3 vcM vaJ xJ0 xJ1 xJ2 xJ3 vcJ h0 n0) room_1.cells room_1.slots (T56.setTop (mkF m 41 #[.val (.int i0), .val (.int i1), .val (.int i2), .val (.int i3), .val (.int i4), .val (.int (3 : Int32)), .val (.ref b1), .unset, .unset] [(.ref r1), (.ref b1)]))
    obtain ⟨v57, T57, h57, L57, X57, e57, hQ57, st57⟩ := own_virtual X56 hx hZ hown (hw _ (List.mem_of_getElem? (i := 58) rfl)) (hw _ (List.mem_of_getElem? (i := 59) rfl)) (hw _ (List.mem_of_getElem? (i := 61) rfl)) (hw _ (List.mem_of_getElem? (i := 60) rfl)) (hw _ (List.mem_of_getElem? (i := 62) rfl)) (hw _ (List.mem_of_getElem? (i := 2) rfl)) (by decide) (a := b1) E_b1 (rmRej l Z a0 hw b1 r1 (i1 &&& (3 : Int32)) t2 k2 ((0 : Int64) + own_hit (0 : Int32) (i0 &&& (3 : Int32))) ((0 : Int64) + own_hit (1 : Int32) (i0 &&& (3 : Int32))) ((0 : Int64) + own_hit (2 : Int32) (i0 &&& (3 : Int32))) ((0 : Int64) + own_hit (3 : Int32) (i0 &&& (3 : Int32))) h55 n0 Z0 g_t2 (own_rng _) F2 E_r1 O_r1 V_t2) e56 (g := (mkF m 41 #[.val (.int i0), .val (.int i1), .val (.int i2), .val (.int i3), .val (.int i4), .val (.int (3 : Int32)), .val (.ref b1), .unset, .unset] [(.ref r1), (.ref b1)])) rfl (by rw [hml]; rfl) (argsL := [(.ref r1)]) (rest := []) (lenOf pd_14 rfl) rfl (W := 0) (by show 2 * 0 + _ ≤ _; exact Nat.le_of_eq rfl) (hb hby at_41) (by decide) (by decide) (by decide) (by decide)
    obtain ⟨rfl, N57q, K57, V_t2⟩ := hQ57
    have N57 := Fr.app N56 N57q
    have Z0 := Nat.le_trans Z0 K57.1
    have O := O.keep K57 (allS (P := fun x => n0 ≤ x) g_t2 all0)
    have E_b1 := E_b1.keep K57
    have F0 := F0.keep K57 (ninS ne_b1_t2 nin0)
    have F1 := F1.keep K57 (ninS ne_b1_t2 nin0)
    have F2 := F2.keep K57 (ninS ne_b1_t2 nin0)
    have V_t0 := V_t0.keep K57 (ninS ne_t0_t2 nin0)
    have V_t1 := V_t1.keep K57 (ninS ne_t1_t2 nin0)
    refine own_st st57 ?_
    show Fin1 p e below s (rm0Q Z i0 i1 i2 i3 i4 vaM xM0 xM1 xM2 xM3 vcM vaJ xJ0 xJ1 xJ2 xJ3 vcJ h0 n0) room_1.cells room_1.slots (T57.setTop (mkF m 44 #[.val (.int i0), .val (.int i1), .val (.int i2), .val (.int i3), .val (.int i4), .val (.int (3 : Int32)), .val (.ref b1), .unset, .unset] []))
    refine own_st (fun wt wk => XS.iload X57.here hx rfl (hb hby at_44) rfl wk) ?_
    show Fin1 p e below s (rm0Q Z i0 i1 i2 i3 i4 vaM xM0 xM1 xM2 xM3 vcM vaJ xJ0 xJ1 xJ2 xJ3 vcJ h0 n0) room_1.cells room_1.slots (T57.setTop (mkF m 46 #[.val (.int i0), .val (.int i1), .val (.int i2), .val (.int i3), .val (.int i4), .val (.int (3 : Int32)), .val (.ref b1), .unset, .unset] [(.int (3 : Int32))]))
    refine own_st (fun wt wk => XS.iconst X57.here hx rfl (hb hby at_46) wk) ?_
    show Fin1 p e below s (rm0Q Z i0 i1 i2 i3 i4 vaM xM0 xM1 xM2 xM3 vcM vaJ xJ0 xJ1 xJ2 xJ3 vcJ h0 n0) room_1.cells room_1.slots (T57.setTop (mkF m 47 #[.val (.int i0), .val (.int i1), .val (.int i2), .val (.int i3), .val (.int i4), .val (.int (3 : Int32)), .val (.ref b1), .unset, .unset] [(.int (3 : Int32)), (.int (3 : Int32))]))
    refine own_st (fun wt wk => XS.icmpNo X57.here hx rfl (hb hby at_47) rfl (flt (by decide)).1 wk) ?_
    show Fin1 p e below s (rm0Q Z i0 i1 i2 i3 i4 vaM xM0 xM1 xM2 xM3 vcM vaJ xJ0 xJ1 xJ2 xJ3 vcJ h0 n0) room_1.cells room_1.slots (T57.setTop (mkF m 50 #[.val (.int i0), .val (.int i1), .val (.int i2), .val (.int i3), .val (.int i4), .val (.int (3 : Int32)), .val (.ref b1), .unset, .unset] []))
    refine own_st (fun wt wk => XS.aload X57.here hx rfl (hb hby at_50) rfl rfl wk) ?_
    show Fin1 p e below s (rm0Q Z i0 i1 i2 i3 i4 vaM xM0 xM1 xM2 xM3 vcM vaJ xJ0 xJ1 xJ2 xJ3 vcJ h0 n0) room_1.cells room_1.slots (T57.setTop (mkF m 52 #[.val (.int i0), .val (.int i1), .val (.int i2), .val (.int i3), .val (.int i4), .val (.int (3 : Int32)), .val (.ref b1), .unset, .unset] [(.ref b1)]))
    refine own_st (fun wt wk => XS.iloadN X57.here hx rfl (hb hby at_52) rfl wk) ?_
    show Fin1 p e below s (rm0Q Z i0 i1 i2 i3 i4 vaM xM0 xM1 xM2 xM3 vcM vaJ xJ0 xJ1 xJ2 xJ3 vcJ h0 n0) room_1.cells room_1.slots (T57.setTop (mkF m 53 #[.val (.int i0), .val (.int i1), .val (.int i2), .val (.int i3), .val (.int i4), .val (.int (3 : Int32)), .val (.ref b1), .unset, .unset] [(.int i2), (.ref b1)]))
    obtain ⟨v58, T58, h58, L58, X58, e58, hQ58, st58⟩ := own_static X57 hx hZ hown (hw _ (List.mem_of_getElem? (i := 53) rfl)) (hw _ (List.mem_of_getElem? (i := 54) rfl)) (hw _ (List.mem_of_getElem? (i := 55) rfl)) (hw _ (List.mem_of_getElem? (i := 56) rfl)) (by decide) (rm_reason l Z a0 hw i2 vaJ xJ0 xJ1 xJ2 xJ3 vcJ h57 n0 Z0 O EJ) e57 (g := (mkF m 53 #[.val (.int i0), .val (.int i1), .val (.int i2), .val (.int i3), .val (.int i4), .val (.int (3 : Int32)), .val (.ref b1), .unset, .unset] [(.int i2), (.ref b1)])) rfl (by rw [hml]; rfl) (argsL := [(.int i2)]) (rest := [(.ref b1)]) (lenOf pd_13 rfl) rfl (W := 1) (by show 2 * 0 + _ ≤ _; exact Nat.le_of_eq rfl) (hb hby at_53) (by decide) (by decide) (by decide) (by decide)
    obtain ⟨r2, rfl, N58q, hh58, E_r2, O_r2⟩ := hQ58
    have N58 := Fr.app N57 N58q
    rw [hh58] at e58
    refine own_st st58 ?_
    show Fin1 p e below s (rm0Q Z i0 i1 i2 i3 i4 vaM xM0 xM1 xM2 xM3 vcM vaJ xJ0 xJ1 xJ2 xJ3 vcJ h0 n0) room_1.cells room_1.slots (T58.setTop (mkF m 56 #[.val (.int i0), .val (.int i1), .val (.int i2), .val (.int i3), .val (.int i4), .val (.int (3 : Int32)), .val (.ref b1), .unset, .unset] [(.ref r2), (.ref b1)]))
    obtain ⟨v59, T59, h59, L59, X59, e59, hQ59, st59⟩ := own_virtual X58 hx hZ hown (hw _ (List.mem_of_getElem? (i := 58) rfl)) (hw _ (List.mem_of_getElem? (i := 59) rfl)) (hw _ (List.mem_of_getElem? (i := 61) rfl)) (hw _ (List.mem_of_getElem? (i := 60) rfl)) (hw _ (List.mem_of_getElem? (i := 62) rfl)) (hw _ (List.mem_of_getElem? (i := 2) rfl)) (by decide) (a := b1) E_b1 (rmRej l Z a0 hw b1 r2 (i2 &&& (3 : Int32)) t2 k2 (((0 : Int64) + own_hit (0 : Int32) (i0 &&& (3 : Int32))) + own_hit (0 : Int32) (i1 &&& (3 : Int32))) (((0 : Int64) + own_hit (1 : Int32) (i0 &&& (3 : Int32))) + own_hit (1 : Int32) (i1 &&& (3 : Int32))) (((0 : Int64) + own_hit (2 : Int32) (i0 &&& (3 : Int32))) + own_hit (2 : Int32) (i1 &&& (3 : Int32))) (((0 : Int64) + own_hit (3 : Int32) (i0 &&& (3 : Int32))) + own_hit (3 : Int32) (i1 &&& (3 : Int32))) h57 n0 Z0 g_t2 (own_rng _) F2 E_r2 O_r2 V_t2) e58 (g := (mkF m 56 #[.val (.int i0), .val (.int i1), .val (.int i2), .val (.int i3), .val (.int i4), .val (.int (3 : Int32)), .val (.ref b1), .unset, .unset] [(.ref r2), (.ref b1)])) rfl (by rw [hml]; rfl) (argsL := [(.ref r2)]) (rest := []) (lenOf pd_14 rfl) rfl (W := 0) (by show 2 * 0 + _ ≤ _; exact Nat.le_of_eq rfl) (hb hby at_56) (by decide) (by decide) (by decide) (by decide)
    obtain ⟨rfl, N59q, K59, V_t2⟩ := hQ59
    have N59 := Fr.app N58 N59q
    have Z0 := Nat.le_trans Z0 K59.1
    have O := O.keep K59 (allS (P := fun x => n0 ≤ x) g_t2 all0)
    have E_b1 := E_b1.keep K59
    have F0 := F0.keep K59 (ninS ne_b1_t2 nin0)
    have F1 := F1.keep K59 (ninS ne_b1_t2 nin0)
    have F2 := F2.keep K59 (ninS ne_b1_t2 nin0)
    have V_t0 := V_t0.keep K59 (ninS ne_t0_t2 nin0)
    have V_t1 := V_t1.keep K59 (ninS ne_t1_t2 nin0)
    refine own_st st59 ?_
    show Fin1 p e below s (rm0Q Z i0 i1 i2 i3 i4 vaM xM0 xM1 xM2 xM3 vcM vaJ xJ0 xJ1 xJ2 xJ3 vcJ h0 n0) room_1.cells room_1.slots (T59.setTop (mkF m 59 #[.val (.int i0), .val (.int i1), .val (.int i2), .val (.int i3), .val (.int i4), .val (.int (3 : Int32)), .val (.ref b1), .unset, .unset] []))
    refine own_st (fun wt wk => XS.aload X59.here hx rfl (hb hby at_59) rfl rfl wk) ?_
    show Fin1 p e below s (rm0Q Z i0 i1 i2 i3 i4 vaM xM0 xM1 xM2 xM3 vcM vaJ xJ0 xJ1 xJ2 xJ3 vcJ h0 n0) room_1.cells room_1.slots (T59.setTop (mkF m 61 #[.val (.int i0), .val (.int i1), .val (.int i2), .val (.int i3), .val (.int i4), .val (.int (3 : Int32)), .val (.ref b1), .unset, .unset] [(.ref b1)]))
    have EJ' := EJ
    obtain ⟨SJv, AJv, XJv, zJv, FJv, ⟨SJ0, QJ0, OJ0⟩, ⟨SJ1, QJ1, OJ1⟩, ⟨SJ2, QJ2, OJ2⟩, ⟨SJ3, QJ3, OJ3⟩⟩ := EJ'
    obtain ⟨T60, X60, e60, st60⟩ := getS2 X59 hx hZ hown (host := "") (Or.inl (hw _ (List.mem_of_getElem? (i := 57) rfl))) Via.refl e59 (SJ0.ext O.2) (g := (mkF m 61 #[.val (.int i0), .val (.int i1), .val (.int i2), .val (.int i3), .val (.int i4), .val (.int (3 : Int32)), .val (.ref b1), .unset, .unset] [(.ref b1)])) rfl (hb hby at_61)
    refine own_st st60 ?_
    show Fin1 p e below s (rm0Q Z i0 i1 i2 i3 i4 vaM xM0 xM1 xM2 xM3 vcM vaJ xJ0 xJ1 xJ2 xJ3 vcJ h0 n0) room_1.cells room_1.slots (T60.setTop (mkF m 64 #[.val (.int i0), .val (.int i1), .val (.int i2), .val (.int i3), .val (.int i4), .val (.int (3 : Int32)), .val (.ref b1), .unset, .unset] [(.ref xJ0), (.ref b1)]))
    obtain ⟨v61, T61, h61, L61, X61, e61, hQ61, st61⟩ := own_virtual X60 hx hZ hown (hw _ (List.mem_of_getElem? (i := 72) rfl)) (hw _ (List.mem_of_getElem? (i := 73) rfl)) (hw _ (List.mem_of_getElem? (i := 75) rfl)) (hw _ (List.mem_of_getElem? (i := 74) rfl)) (hw _ (List.mem_of_getElem? (i := 76) rfl)) (hw _ (List.mem_of_getElem? (i := 2) rfl)) (by decide) (a := b1) E_b1 (rm_getRejected l Z a0 hw b1 xJ0 (0 : Int32) t2 k2 [(.long ((((0 : Int64) + own_hit (0 : Int32) (i0 &&& (3 : Int32))) + own_hit (0 : Int32) (i1 &&& (3 : Int32))) + own_hit (0 : Int32) (i2 &&& (3 : Int32)))), (.long ((((0 : Int64) + own_hit (1 : Int32) (i0 &&& (3 : Int32))) + own_hit (1 : Int32) (i1 &&& (3 : Int32))) + own_hit (1 : Int32) (i2 &&& (3 : Int32)))), (.long ((((0 : Int64) + own_hit (2 : Int32) (i0 &&& (3 : Int32))) + own_hit (2 : Int32) (i1 &&& (3 : Int32))) + own_hit (2 : Int32) (i2 &&& (3 : Int32)))), (.long ((((0 : Int64) + own_hit (3 : Int32) (i0 &&& (3 : Int32))) + own_hit (3 : Int32) (i1 &&& (3 : Int32))) + own_hit (3 : Int32) (i2 &&& (3 : Int32))))] ((((0 : Int64) + own_hit (0 : Int32) (i0 &&& (3 : Int32))) + own_hit (0 : Int32) (i1 &&& (3 : Int32))) + own_hit (0 : Int32) (i2 &&& (3 : Int32))) h59 n0 Z0 (by decide) F2 (QJ0.ext O.2) (OJ0.ext O.2) V_t2 rfl) e60 (g := (mkF m 64 #[.val (.int i0), .val (.int i1), .val (.int i2), .val (.int i3), .val (.int i4), .val (.int (3 : Int32)), .val (.ref b1), .unset, .unset] [(.ref xJ0), (.ref b1)])) rfl (by rw [hml]; rfl) (argsL := [(.ref xJ0)]) (rest := []) (lenOf pd_9 rfl) rfl (W := 0) (by show 2 * 0 + _ ≤ _; exact Nat.le_of_eq rfl) (hb hby at_64) (by decide) (by decide) (by decide) (by decide)
    obtain ⟨rfl, N61q, hh61⟩ := hQ61
    have N61 := Fr.app N59 N61q
    rw [hh61] at e61
    refine own_st st61 ?_
    show Fin1 p e below s (rm0Q Z i0 i1 i2 i3 i4 vaM xM0 xM1 xM2 xM3 vcM vaJ xJ0 xJ1 xJ2 xJ3 vcJ h0 n0) room_1.cells room_1.slots (T61.setTop (mkF m 67 #[.val (.int i0), .val (.int i1), .val (.int i2), .val (.int i3), .val (.int i4), .val (.int (3 : Int32)), .val (.ref b1), .unset, .unset] [(.long ((((0 : Int64) + own_hit (0 : Int32) (i0 &&& (3 : Int32))) + own_hit (0 : Int32) (i1 &&& (3 : Int32))) + own_hit (0 : Int32) (i2 &&& (3 : Int32))))]))
    refine own_st (fun wt wk => XS.iload X61.here hx rfl (hb hby at_67) rfl wk) ?_
    show Fin1 p e below s (rm0Q Z i0 i1 i2 i3 i4 vaM xM0 xM1 xM2 xM3 vcM vaJ xJ0 xJ1 xJ2 xJ3 vcJ h0 n0) room_1.cells room_1.slots (T61.setTop (mkF m 69 #[.val (.int i0), .val (.int i1), .val (.int i2), .val (.int i3), .val (.int i4), .val (.int (3 : Int32)), .val (.ref b1), .unset, .unset] [(.int (3 : Int32)), (.long ((((0 : Int64) + own_hit (0 : Int32) (i0 &&& (3 : Int32))) + own_hit (0 : Int32) (i1 &&& (3 : Int32))) + own_hit (0 : Int32) (i2 &&& (3 : Int32))))]))
    refine own_st (fun wt wk => XS.iloadN X61.here hx rfl (hb hby at_69) rfl wk) ?_
    show Fin1 p e below s (rm0Q Z i0 i1 i2 i3 i4 vaM xM0 xM1 xM2 xM3 vcM vaJ xJ0 xJ1 xJ2 xJ3 vcJ h0 n0) room_1.cells room_1.slots (T61.setTop (mkF m 70 #[.val (.int i0), .val (.int i1), .val (.int i2), .val (.int i3), .val (.int i4), .val (.int (3 : Int32)), .val (.ref b1), .unset, .unset] [(.int i0), (.int (3 : Int32)), (.long ((((0 : Int64) + own_hit (0 : Int32) (i0 &&& (3 : Int32))) + own_hit (0 : Int32) (i1 &&& (3 : Int32))) + own_hit (0 : Int32) (i2 &&& (3 : Int32))))]))
    refine own_st (fun wt wk => XS.iloadN X61.here hx rfl (hb hby at_70) rfl wk) ?_
    show Fin1 p e below s (rm0Q Z i0 i1 i2 i3 i4 vaM xM0 xM1 xM2 xM3 vcM vaJ xJ0 xJ1 xJ2 xJ3 vcJ h0 n0) room_1.cells room_1.slots (T61.setTop (mkF m 71 #[.val (.int i0), .val (.int i1), .val (.int i2), .val (.int i3), .val (.int i4), .val (.int (3 : Int32)), .val (.ref b1), .unset, .unset] [(.int i1), (.int i0), (.int (3 : Int32)), (.long ((((0 : Int64) + own_hit (0 : Int32) (i0 &&& (3 : Int32))) + own_hit (0 : Int32) (i1 &&& (3 : Int32))) + own_hit (0 : Int32) (i2 &&& (3 : Int32))))]))
    refine own_st (fun wt wk => XS.iloadN X61.here hx rfl (hb hby at_71) rfl wk) ?_
    show Fin1 p e below s (rm0Q Z i0 i1 i2 i3 i4 vaM xM0 xM1 xM2 xM3 vcM vaJ xJ0 xJ1 xJ2 xJ3 vcJ h0 n0) room_1.cells room_1.slots (T61.setTop (mkF m 72 #[.val (.int i0), .val (.int i1), .val (.int i2), .val (.int i3), .val (.int i4), .val (.int (3 : Int32)), .val (.ref b1), .unset, .unset] [(.int i2), (.int i1), (.int i0), (.int (3 : Int32)), (.long ((((0 : Int64) + own_hit (0 : Int32) (i0 &&& (3 : Int32))) + own_hit (0 : Int32) (i1 &&& (3 : Int32))) + own_hit (0 : Int32) (i2 &&& (3 : Int32))))]))
    refine own_st (fun wt wk => XS.iconst X61.here hx rfl (hb hby at_72) wk) ?_
    show Fin1 p e below s (rm0Q Z i0 i1 i2 i3 i4 vaM xM0 xM1 xM2 xM3 vcM vaJ xJ0 xJ1 xJ2 xJ3 vcJ h0 n0) room_1.cells room_1.slots (T61.setTop (mkF m 73 #[.val (.int i0), .val (.int i1), .val (.int i2), .val (.int i3), .val (.int i4), .val (.int (3 : Int32)), .val (.ref b1), .unset, .unset] [(.int (0 : Int32)), (.int i2), (.int i1), (.int i0), (.int (3 : Int32)), (.long ((((0 : Int64) + own_hit (0 : Int32) (i0 &&& (3 : Int32))) + own_hit (0 : Int32) (i1 &&& (3 : Int32))) + own_hit (0 : Int32) (i2 &&& (3 : Int32))))]))
    obtain ⟨v62, T62, h62, L62, X62, e62, hQ62, st62⟩ := own_static X61 hx hZ hown (hw _ (List.mem_of_getElem? (i := 77) rfl)) (hw _ (List.mem_of_getElem? (i := 78) rfl)) (hw _ (List.mem_of_getElem? (i := 55) rfl)) (hw _ (List.mem_of_getElem? (i := 79) rfl)) (by decide) (rmX l Z a0 hw (3 : Int32) i0 i1 i2 (0 : Int32) h59 n0 Z0) e61 (g := (mkF m 73 #[.val (.int i0), .val (.int i1), .val (.int i2), .val (.int i3), .val (.int i4), .val (.int (3 : Int32)), .val (.ref b1), .unset, .unset] [(.int (0 : Int32)), (.int i2), (.int i1), (.int i0), (.int (3 : Int32)), (.long ((((0 : Int64) + own_hit (0 : Int32) (i0 &&& (3 : Int32))) + own_hit (0 : Int32) (i1 &&& (3 : Int32))) + own_hit (0 : Int32) (i2 &&& (3 : Int32))))])) rfl (by rw [hml]; rfl) (argsL := [(.int (3 : Int32)), (.int i0), (.int i1), (.int i2), (.int (0 : Int32))]) (rest := [(.long ((((0 : Int64) + own_hit (0 : Int32) (i0 &&& (3 : Int32))) + own_hit (0 : Int32) (i1 &&& (3 : Int32))) + own_hit (0 : Int32) (i2 &&& (3 : Int32))))]) (lenOf pd_10 rfl) rfl (W := 2) (by show 2 * 0 + _ ≤ _; exact Nat.le_of_eq rfl) (hb hby at_73) (by decide) (by decide) (by decide) (by decide)
    obtain ⟨rfl, N62q, hh62⟩ := hQ62
    have N62 := Fr.app N61 N62q
    rw [hh62] at e62
    refine own_st st62 ?_
    show Fin1 p e below s (rm0Q Z i0 i1 i2 i3 i4 vaM xM0 xM1 xM2 xM3 vcM vaJ xJ0 xJ1 xJ2 xJ3 vcJ h0 n0) room_1.cells room_1.slots (T62.setTop (mkF m 76 #[.val (.int i0), .val (.int i1), .val (.int i2), .val (.int i3), .val (.int i4), .val (.int (3 : Int32)), .val (.ref b1), .unset, .unset] [(.long (own_exp (3 : Int32) i0 i1 i2 (0 : Int32))), (.long ((((0 : Int64) + own_hit (0 : Int32) (i0 &&& (3 : Int32))) + own_hit (0 : Int32) (i1 &&& (3 : Int32))) + own_hit (0 : Int32) (i2 &&& (3 : Int32))))]))
    refine own_st (fun wt wk => XS.lcmp X62.here hx rfl (hb hby at_76) rfl wk) ?_
    show Fin1 p e below s (rm0Q Z i0 i1 i2 i3 i4 vaM xM0 xM1 xM2 xM3 vcM vaJ xJ0 xJ1 xJ2 xJ3 vcJ h0 n0) room_1.cells room_1.slots (T62.setTop (mkF m 77 #[.val (.int i0), .val (.int i1), .val (.int i2), .val (.int i3), .val (.int i4), .val (.int (3 : Int32)), .val (.ref b1), .unset, .unset] [(.int (lcmpW ((((0 : Int64) + own_hit (0 : Int32) (i0 &&& (3 : Int32))) + own_hit (0 : Int32) (i1 &&& (3 : Int32))) + own_hit (0 : Int32) (i2 &&& (3 : Int32))) (own_exp (3 : Int32) i0 i1 i2 (0 : Int32))))]))
    refine own_st (fun wt wk => XS.ifNo X62.here hx rfl (hb hby at_77) rfl ((if0 _ _).trans (teq ((lw_eq _ _).mpr (own_same3 i0 i1 i2 (0 : Int32)) : (lcmpW ((((0 : Int64) + own_hit (0 : Int32) (i0 &&& (3 : Int32))) + own_hit (0 : Int32) (i1 &&& (3 : Int32))) + own_hit (0 : Int32) (i2 &&& (3 : Int32))) (own_exp (3 : Int32) i0 i1 i2 (0 : Int32))) = (0 : Int32))).2) wk) ?_
    show Fin1 p e below s (rm0Q Z i0 i1 i2 i3 i4 vaM xM0 xM1 xM2 xM3 vcM vaJ xJ0 xJ1 xJ2 xJ3 vcJ h0 n0) room_1.cells room_1.slots (T62.setTop (mkF m 80 #[.val (.int i0), .val (.int i1), .val (.int i2), .val (.int i3), .val (.int i4), .val (.int (3 : Int32)), .val (.ref b1), .unset, .unset] []))
    refine own_st (fun wt wk => XS.aload X62.here hx rfl (hb hby at_80) rfl rfl wk) ?_
    show Fin1 p e below s (rm0Q Z i0 i1 i2 i3 i4 vaM xM0 xM1 xM2 xM3 vcM vaJ xJ0 xJ1 xJ2 xJ3 vcJ h0 n0) room_1.cells room_1.slots (T62.setTop (mkF m 82 #[.val (.int i0), .val (.int i1), .val (.int i2), .val (.int i3), .val (.int i4), .val (.int (3 : Int32)), .val (.ref b1), .unset, .unset] [(.ref b1)]))
    obtain ⟨T63, X63, e63, st63⟩ := getS2 X62 hx hZ hown (host := "") (Or.inl (hw _ (List.mem_of_getElem? (i := 80) rfl))) Via.refl e62 (SJ1.ext O.2) (g := (mkF m 82 #[.val (.int i0), .val (.int i1), .val (.int i2), .val (.int i3), .val (.int i4), .val (.int (3 : Int32)), .val (.ref b1), .unset, .unset] [(.ref b1)])) rfl (hb hby at_82)
    refine own_st st63 ?_
    show Fin1 p e below s (rm0Q Z i0 i1 i2 i3 i4 vaM xM0 xM1 xM2 xM3 vcM vaJ xJ0 xJ1 xJ2 xJ3 vcJ h0 n0) room_1.cells room_1.slots (T63.setTop (mkF m 85 #[.val (.int i0), .val (.int i1), .val (.int i2), .val (.int i3), .val (.int i4), .val (.int (3 : Int32)), .val (.ref b1), .unset, .unset] [(.ref xJ1), (.ref b1)]))
    obtain ⟨v64, T64, h64, L64, X64, e64, hQ64, st64⟩ := own_virtual X63 hx hZ hown (hw _ (List.mem_of_getElem? (i := 72) rfl)) (hw _ (List.mem_of_getElem? (i := 73) rfl)) (hw _ (List.mem_of_getElem? (i := 75) rfl)) (hw _ (List.mem_of_getElem? (i := 74) rfl)) (hw _ (List.mem_of_getElem? (i := 76) rfl)) (hw _ (List.mem_of_getElem? (i := 2) rfl)) (by decide) (a := b1) E_b1 (rm_getRejected l Z a0 hw b1 xJ1 (1 : Int32) t2 k2 [(.long ((((0 : Int64) + own_hit (0 : Int32) (i0 &&& (3 : Int32))) + own_hit (0 : Int32) (i1 &&& (3 : Int32))) + own_hit (0 : Int32) (i2 &&& (3 : Int32)))), (.long ((((0 : Int64) + own_hit (1 : Int32) (i0 &&& (3 : Int32))) + own_hit (1 : Int32) (i1 &&& (3 : Int32))) + own_hit (1 : Int32) (i2 &&& (3 : Int32)))), (.long ((((0 : Int64) + own_hit (2 : Int32) (i0 &&& (3 : Int32))) + own_hit (2 : Int32) (i1 &&& (3 : Int32))) + own_hit (2 : Int32) (i2 &&& (3 : Int32)))), (.long ((((0 : Int64) + own_hit (3 : Int32) (i0 &&& (3 : Int32))) + own_hit (3 : Int32) (i1 &&& (3 : Int32))) + own_hit (3 : Int32) (i2 &&& (3 : Int32))))] ((((0 : Int64) + own_hit (1 : Int32) (i0 &&& (3 : Int32))) + own_hit (1 : Int32) (i1 &&& (3 : Int32))) + own_hit (1 : Int32) (i2 &&& (3 : Int32))) h59 n0 Z0 (by decide) F2 (QJ1.ext O.2) (OJ1.ext O.2) V_t2 rfl) e63 (g := (mkF m 85 #[.val (.int i0), .val (.int i1), .val (.int i2), .val (.int i3), .val (.int i4), .val (.int (3 : Int32)), .val (.ref b1), .unset, .unset] [(.ref xJ1), (.ref b1)])) rfl (by rw [hml]; rfl) (argsL := [(.ref xJ1)]) (rest := []) (lenOf pd_9 rfl) rfl (W := 0) (by show 2 * 0 + _ ≤ _; exact Nat.le_of_eq rfl) (hb hby at_85) (by decide) (by decide) (by decide) (by decide)
    obtain ⟨rfl, N64q, hh64⟩ := hQ64
    have N64 := Fr.app N62 N64q
    rw [hh64] at e64
    refine own_st st64 ?_
    show Fin1 p e below s (rm0Q Z i0 i1 i2 i3 i4 vaM xM0 xM1 xM2 xM3 vcM vaJ xJ0 xJ1 xJ2 xJ3 vcJ h0 n0) room_1.cells room_1.slots (T64.setTop (mkF m 88 #[.val (.int i0), .val (.int i1), .val (.int i2), .val (.int i3), .val (.int i4), .val (.int (3 : Int32)), .val (.ref b1), .unset, .unset] [(.long ((((0 : Int64) + own_hit (1 : Int32) (i0 &&& (3 : Int32))) + own_hit (1 : Int32) (i1 &&& (3 : Int32))) + own_hit (1 : Int32) (i2 &&& (3 : Int32))))]))
    refine own_st (fun wt wk => XS.iload X64.here hx rfl (hb hby at_88) rfl wk) ?_
    show Fin1 p e below s (rm0Q Z i0 i1 i2 i3 i4 vaM xM0 xM1 xM2 xM3 vcM vaJ xJ0 xJ1 xJ2 xJ3 vcJ h0 n0) room_1.cells room_1.slots (T64.setTop (mkF m 90 #[.val (.int i0), .val (.int i1), .val (.int i2), .val (.int i3), .val (.int i4), .val (.int (3 : Int32)), .val (.ref b1), .unset, .unset] [(.int (3 : Int32)), (.long ((((0 : Int64) + own_hit (1 : Int32) (i0 &&& (3 : Int32))) + own_hit (1 : Int32) (i1 &&& (3 : Int32))) + own_hit (1 : Int32) (i2 &&& (3 : Int32))))]))
    refine own_st (fun wt wk => XS.iloadN X64.here hx rfl (hb hby at_90) rfl wk) ?_
    show Fin1 p e below s (rm0Q Z i0 i1 i2 i3 i4 vaM xM0 xM1 xM2 xM3 vcM vaJ xJ0 xJ1 xJ2 xJ3 vcJ h0 n0) room_1.cells room_1.slots (T64.setTop (mkF m 91 #[.val (.int i0), .val (.int i1), .val (.int i2), .val (.int i3), .val (.int i4), .val (.int (3 : Int32)), .val (.ref b1), .unset, .unset] [(.int i0), (.int (3 : Int32)), (.long ((((0 : Int64) + own_hit (1 : Int32) (i0 &&& (3 : Int32))) + own_hit (1 : Int32) (i1 &&& (3 : Int32))) + own_hit (1 : Int32) (i2 &&& (3 : Int32))))]))
    refine own_st (fun wt wk => XS.iloadN X64.here hx rfl (hb hby at_91) rfl wk) ?_
    show Fin1 p e below s (rm0Q Z i0 i1 i2 i3 i4 vaM xM0 xM1 xM2 xM3 vcM vaJ xJ0 xJ1 xJ2 xJ3 vcJ h0 n0) room_1.cells room_1.slots (T64.setTop (mkF m 92 #[.val (.int i0), .val (.int i1), .val (.int i2), .val (.int i3), .val (.int i4), .val (.int (3 : Int32)), .val (.ref b1), .unset, .unset] [(.int i1), (.int i0), (.int (3 : Int32)), (.long ((((0 : Int64) + own_hit (1 : Int32) (i0 &&& (3 : Int32))) + own_hit (1 : Int32) (i1 &&& (3 : Int32))) + own_hit (1 : Int32) (i2 &&& (3 : Int32))))]))
    refine own_st (fun wt wk => XS.iloadN X64.here hx rfl (hb hby at_92) rfl wk) ?_
    show Fin1 p e below s (rm0Q Z i0 i1 i2 i3 i4 vaM xM0 xM1 xM2 xM3 vcM vaJ xJ0 xJ1 xJ2 xJ3 vcJ h0 n0) room_1.cells room_1.slots (T64.setTop (mkF m 93 #[.val (.int i0), .val (.int i1), .val (.int i2), .val (.int i3), .val (.int i4), .val (.int (3 : Int32)), .val (.ref b1), .unset, .unset] [(.int i2), (.int i1), (.int i0), (.int (3 : Int32)), (.long ((((0 : Int64) + own_hit (1 : Int32) (i0 &&& (3 : Int32))) + own_hit (1 : Int32) (i1 &&& (3 : Int32))) + own_hit (1 : Int32) (i2 &&& (3 : Int32))))]))
    refine own_st (fun wt wk => XS.iconst X64.here hx rfl (hb hby at_93) wk) ?_
    show Fin1 p e below s (rm0Q Z i0 i1 i2 i3 i4 vaM xM0 xM1 xM2 xM3 vcM vaJ xJ0 xJ1 xJ2 xJ3 vcJ h0 n0) room_1.cells room_1.slots (T64.setTop (mkF m 94 #[.val (.int i0), .val (.int i1), .val (.int i2), .val (.int i3), .val (.int i4), .val (.int (3 : Int32)), .val (.ref b1), .unset, .unset] [(.int (1 : Int32)), (.int i2), (.int i1), (.int i0), (.int (3 : Int32)), (.long ((((0 : Int64) + own_hit (1 : Int32) (i0 &&& (3 : Int32))) + own_hit (1 : Int32) (i1 &&& (3 : Int32))) + own_hit (1 : Int32) (i2 &&& (3 : Int32))))]))
    obtain ⟨v65, T65, h65, L65, X65, e65, hQ65, st65⟩ := own_static X64 hx hZ hown (hw _ (List.mem_of_getElem? (i := 77) rfl)) (hw _ (List.mem_of_getElem? (i := 78) rfl)) (hw _ (List.mem_of_getElem? (i := 55) rfl)) (hw _ (List.mem_of_getElem? (i := 79) rfl)) (by decide) (rmX l Z a0 hw (3 : Int32) i0 i1 i2 (1 : Int32) h59 n0 Z0) e64 (g := (mkF m 94 #[.val (.int i0), .val (.int i1), .val (.int i2), .val (.int i3), .val (.int i4), .val (.int (3 : Int32)), .val (.ref b1), .unset, .unset] [(.int (1 : Int32)), (.int i2), (.int i1), (.int i0), (.int (3 : Int32)), (.long ((((0 : Int64) + own_hit (1 : Int32) (i0 &&& (3 : Int32))) + own_hit (1 : Int32) (i1 &&& (3 : Int32))) + own_hit (1 : Int32) (i2 &&& (3 : Int32))))])) rfl (by rw [hml]; rfl) (argsL := [(.int (3 : Int32)), (.int i0), (.int i1), (.int i2), (.int (1 : Int32))]) (rest := [(.long ((((0 : Int64) + own_hit (1 : Int32) (i0 &&& (3 : Int32))) + own_hit (1 : Int32) (i1 &&& (3 : Int32))) + own_hit (1 : Int32) (i2 &&& (3 : Int32))))]) (lenOf pd_10 rfl) rfl (W := 2) (by show 2 * 0 + _ ≤ _; exact Nat.le_of_eq rfl) (hb hby at_94) (by decide) (by decide) (by decide) (by decide)
    obtain ⟨rfl, N65q, hh65⟩ := hQ65
    have N65 := Fr.app N64 N65q
    rw [hh65] at e65
    refine own_st st65 ?_
    show Fin1 p e below s (rm0Q Z i0 i1 i2 i3 i4 vaM xM0 xM1 xM2 xM3 vcM vaJ xJ0 xJ1 xJ2 xJ3 vcJ h0 n0) room_1.cells room_1.slots (T65.setTop (mkF m 97 #[.val (.int i0), .val (.int i1), .val (.int i2), .val (.int i3), .val (.int i4), .val (.int (3 : Int32)), .val (.ref b1), .unset, .unset] [(.long (own_exp (3 : Int32) i0 i1 i2 (1 : Int32))), (.long ((((0 : Int64) + own_hit (1 : Int32) (i0 &&& (3 : Int32))) + own_hit (1 : Int32) (i1 &&& (3 : Int32))) + own_hit (1 : Int32) (i2 &&& (3 : Int32))))]))
    refine own_st (fun wt wk => XS.lcmp X65.here hx rfl (hb hby at_97) rfl wk) ?_
    show Fin1 p e below s (rm0Q Z i0 i1 i2 i3 i4 vaM xM0 xM1 xM2 xM3 vcM vaJ xJ0 xJ1 xJ2 xJ3 vcJ h0 n0) room_1.cells room_1.slots (T65.setTop (mkF m 98 #[.val (.int i0), .val (.int i1), .val (.int i2), .val (.int i3), .val (.int i4), .val (.int (3 : Int32)), .val (.ref b1), .unset, .unset] [(.int (lcmpW ((((0 : Int64) + own_hit (1 : Int32) (i0 &&& (3 : Int32))) + own_hit (1 : Int32) (i1 &&& (3 : Int32))) + own_hit (1 : Int32) (i2 &&& (3 : Int32))) (own_exp (3 : Int32) i0 i1 i2 (1 : Int32))))]))
    refine own_st (fun wt wk => XS.ifNo X65.here hx rfl (hb hby at_98) rfl ((if0 _ _).trans (teq ((lw_eq _ _).mpr (own_same3 i0 i1 i2 (1 : Int32)) : (lcmpW ((((0 : Int64) + own_hit (1 : Int32) (i0 &&& (3 : Int32))) + own_hit (1 : Int32) (i1 &&& (3 : Int32))) + own_hit (1 : Int32) (i2 &&& (3 : Int32))) (own_exp (3 : Int32) i0 i1 i2 (1 : Int32))) = (0 : Int32))).2) wk) ?_
    show Fin1 p e below s (rm0Q Z i0 i1 i2 i3 i4 vaM xM0 xM1 xM2 xM3 vcM vaJ xJ0 xJ1 xJ2 xJ3 vcJ h0 n0) room_1.cells room_1.slots (T65.setTop (mkF m 101 #[.val (.int i0), .val (.int i1), .val (.int i2), .val (.int i3), .val (.int i4), .val (.int (3 : Int32)), .val (.ref b1), .unset, .unset] []))
    refine own_st (fun wt wk => XS.aload X65.here hx rfl (hb hby at_101) rfl rfl wk) ?_
    show Fin1 p e below s (rm0Q Z i0 i1 i2 i3 i4 vaM xM0 xM1 xM2 xM3 vcM vaJ xJ0 xJ1 xJ2 xJ3 vcJ h0 n0) room_1.cells room_1.slots (T65.setTop (mkF m 103 #[.val (.int i0), .val (.int i1), .val (.int i2), .val (.int i3), .val (.int i4), .val (.int (3 : Int32)), .val (.ref b1), .unset, .unset] [(.ref b1)]))
    obtain ⟨T66, X66, e66, st66⟩ := getS2 X65 hx hZ hown (host := "") (Or.inl (hw _ (List.mem_of_getElem? (i := 81) rfl))) Via.refl e65 (SJ2.ext O.2) (g := (mkF m 103 #[.val (.int i0), .val (.int i1), .val (.int i2), .val (.int i3), .val (.int i4), .val (.int (3 : Int32)), .val (.ref b1), .unset, .unset] [(.ref b1)])) rfl (hb hby at_103)
    refine own_st st66 ?_
    show Fin1 p e below s (rm0Q Z i0 i1 i2 i3 i4 vaM xM0 xM1 xM2 xM3 vcM vaJ xJ0 xJ1 xJ2 xJ3 vcJ h0 n0) room_1.cells room_1.slots (T66.setTop (mkF m 106 #[.val (.int i0), .val (.int i1), .val (.int i2), .val (.int i3), .val (.int i4), .val (.int (3 : Int32)), .val (.ref b1), .unset, .unset] [(.ref xJ2), (.ref b1)]))
    obtain ⟨v67, T67, h67, L67, X67, e67, hQ67, st67⟩ := own_virtual X66 hx hZ hown (hw _ (List.mem_of_getElem? (i := 72) rfl)) (hw _ (List.mem_of_getElem? (i := 73) rfl)) (hw _ (List.mem_of_getElem? (i := 75) rfl)) (hw _ (List.mem_of_getElem? (i := 74) rfl)) (hw _ (List.mem_of_getElem? (i := 76) rfl)) (hw _ (List.mem_of_getElem? (i := 2) rfl)) (by decide) (a := b1) E_b1 (rm_getRejected l Z a0 hw b1 xJ2 (2 : Int32) t2 k2 [(.long ((((0 : Int64) + own_hit (0 : Int32) (i0 &&& (3 : Int32))) + own_hit (0 : Int32) (i1 &&& (3 : Int32))) + own_hit (0 : Int32) (i2 &&& (3 : Int32)))), (.long ((((0 : Int64) + own_hit (1 : Int32) (i0 &&& (3 : Int32))) + own_hit (1 : Int32) (i1 &&& (3 : Int32))) + own_hit (1 : Int32) (i2 &&& (3 : Int32)))), (.long ((((0 : Int64) + own_hit (2 : Int32) (i0 &&& (3 : Int32))) + own_hit (2 : Int32) (i1 &&& (3 : Int32))) + own_hit (2 : Int32) (i2 &&& (3 : Int32)))), (.long ((((0 : Int64) + own_hit (3 : Int32) (i0 &&& (3 : Int32))) + own_hit (3 : Int32) (i1 &&& (3 : Int32))) + own_hit (3 : Int32) (i2 &&& (3 : Int32))))] ((((0 : Int64) + own_hit (2 : Int32) (i0 &&& (3 : Int32))) + own_hit (2 : Int32) (i1 &&& (3 : Int32))) + own_hit (2 : Int32) (i2 &&& (3 : Int32))) h59 n0 Z0 (by decide) F2 (QJ2.ext O.2) (OJ2.ext O.2) V_t2 rfl) e66 (g := (mkF m 106 #[.val (.int i0), .val (.int i1), .val (.int i2), .val (.int i3), .val (.int i4), .val (.int (3 : Int32)), .val (.ref b1), .unset, .unset] [(.ref xJ2), (.ref b1)])) rfl (by rw [hml]; rfl) (argsL := [(.ref xJ2)]) (rest := []) (lenOf pd_9 rfl) rfl (W := 0) (by show 2 * 0 + _ ≤ _; exact Nat.le_of_eq rfl) (hb hby at_106) (by decide) (by decide) (by decide) (by decide)
    obtain ⟨rfl, N67q, hh67⟩ := hQ67
    have N67 := Fr.app N65 N67q
    rw [hh67] at e67
    refine own_st st67 ?_
    show Fin1 p e below s (rm0Q Z i0 i1 i2 i3 i4 vaM xM0 xM1 xM2 xM3 vcM vaJ xJ0 xJ1 xJ2 xJ3 vcJ h0 n0) room_1.cells room_1.slots (T67.setTop (mkF m 109 #[.val (.int i0), .val (.int i1), .val (.int i2), .val (.int i3), .val (.int i4), .val (.int (3 : Int32)), .val (.ref b1), .unset, .unset] [(.long ((((0 : Int64) + own_hit (2 : Int32) (i0 &&& (3 : Int32))) + own_hit (2 : Int32) (i1 &&& (3 : Int32))) + own_hit (2 : Int32) (i2 &&& (3 : Int32))))]))
    refine own_st (fun wt wk => XS.iload X67.here hx rfl (hb hby at_109) rfl wk) ?_
    show Fin1 p e below s (rm0Q Z i0 i1 i2 i3 i4 vaM xM0 xM1 xM2 xM3 vcM vaJ xJ0 xJ1 xJ2 xJ3 vcJ h0 n0) room_1.cells room_1.slots (T67.setTop (mkF m 111 #[.val (.int i0), .val (.int i1), .val (.int i2), .val (.int i3), .val (.int i4), .val (.int (3 : Int32)), .val (.ref b1), .unset, .unset] [(.int (3 : Int32)), (.long ((((0 : Int64) + own_hit (2 : Int32) (i0 &&& (3 : Int32))) + own_hit (2 : Int32) (i1 &&& (3 : Int32))) + own_hit (2 : Int32) (i2 &&& (3 : Int32))))]))
    refine own_st (fun wt wk => XS.iloadN X67.here hx rfl (hb hby at_111) rfl wk) ?_
    show Fin1 p e below s (rm0Q Z i0 i1 i2 i3 i4 vaM xM0 xM1 xM2 xM3 vcM vaJ xJ0 xJ1 xJ2 xJ3 vcJ h0 n0) room_1.cells room_1.slots (T67.setTop (mkF m 112 #[.val (.int i0), .val (.int i1), .val (.int i2), .val (.int i3), .val (.int i4), .val (.int (3 : Int32)), .val (.ref b1), .unset, .unset] [(.int i0), (.int (3 : Int32)), (.long ((((0 : Int64) + own_hit (2 : Int32) (i0 &&& (3 : Int32))) + own_hit (2 : Int32) (i1 &&& (3 : Int32))) + own_hit (2 : Int32) (i2 &&& (3 : Int32))))]))
    refine own_st (fun wt wk => XS.iloadN X67.here hx rfl (hb hby at_112) rfl wk) ?_
    show Fin1 p e below s (rm0Q Z i0 i1 i2 i3 i4 vaM xM0 xM1 xM2 xM3 vcM vaJ xJ0 xJ1 xJ2 xJ3 vcJ h0 n0) room_1.cells room_1.slots (T67.setTop (mkF m 113 #[.val (.int i0), .val (.int i1), .val (.int i2), .val (.int i3), .val (.int i4), .val (.int (3 : Int32)), .val (.ref b1), .unset, .unset] [(.int i1), (.int i0), (.int (3 : Int32)), (.long ((((0 : Int64) + own_hit (2 : Int32) (i0 &&& (3 : Int32))) + own_hit (2 : Int32) (i1 &&& (3 : Int32))) + own_hit (2 : Int32) (i2 &&& (3 : Int32))))]))
    refine own_st (fun wt wk => XS.iloadN X67.here hx rfl (hb hby at_113) rfl wk) ?_
    show Fin1 p e below s (rm0Q Z i0 i1 i2 i3 i4 vaM xM0 xM1 xM2 xM3 vcM vaJ xJ0 xJ1 xJ2 xJ3 vcJ h0 n0) room_1.cells room_1.slots (T67.setTop (mkF m 114 #[.val (.int i0), .val (.int i1), .val (.int i2), .val (.int i3), .val (.int i4), .val (.int (3 : Int32)), .val (.ref b1), .unset, .unset] [(.int i2), (.int i1), (.int i0), (.int (3 : Int32)), (.long ((((0 : Int64) + own_hit (2 : Int32) (i0 &&& (3 : Int32))) + own_hit (2 : Int32) (i1 &&& (3 : Int32))) + own_hit (2 : Int32) (i2 &&& (3 : Int32))))]))
    refine own_st (fun wt wk => XS.iconst X67.here hx rfl (hb hby at_114) wk) ?_
    show Fin1 p e below s (rm0Q Z i0 i1 i2 i3 i4 vaM xM0 xM1 xM2 xM3 vcM vaJ xJ0 xJ1 xJ2 xJ3 vcJ h0 n0) room_1.cells room_1.slots (T67.setTop (mkF m 115 #[.val (.int i0), .val (.int i1), .val (.int i2), .val (.int i3), .val (.int i4), .val (.int (3 : Int32)), .val (.ref b1), .unset, .unset] [(.int (2 : Int32)), (.int i2), (.int i1), (.int i0), (.int (3 : Int32)), (.long ((((0 : Int64) + own_hit (2 : Int32) (i0 &&& (3 : Int32))) + own_hit (2 : Int32) (i1 &&& (3 : Int32))) + own_hit (2 : Int32) (i2 &&& (3 : Int32))))]))
    obtain ⟨v68, T68, h68, L68, X68, e68, hQ68, st68⟩ := own_static X67 hx hZ hown (hw _ (List.mem_of_getElem? (i := 77) rfl)) (hw _ (List.mem_of_getElem? (i := 78) rfl)) (hw _ (List.mem_of_getElem? (i := 55) rfl)) (hw _ (List.mem_of_getElem? (i := 79) rfl)) (by decide) (rmX l Z a0 hw (3 : Int32) i0 i1 i2 (2 : Int32) h59 n0 Z0) e67 (g := (mkF m 115 #[.val (.int i0), .val (.int i1), .val (.int i2), .val (.int i3), .val (.int i4), .val (.int (3 : Int32)), .val (.ref b1), .unset, .unset] [(.int (2 : Int32)), (.int i2), (.int i1), (.int i0), (.int (3 : Int32)), (.long ((((0 : Int64) + own_hit (2 : Int32) (i0 &&& (3 : Int32))) + own_hit (2 : Int32) (i1 &&& (3 : Int32))) + own_hit (2 : Int32) (i2 &&& (3 : Int32))))])) rfl (by rw [hml]; rfl) (argsL := [(.int (3 : Int32)), (.int i0), (.int i1), (.int i2), (.int (2 : Int32))]) (rest := [(.long ((((0 : Int64) + own_hit (2 : Int32) (i0 &&& (3 : Int32))) + own_hit (2 : Int32) (i1 &&& (3 : Int32))) + own_hit (2 : Int32) (i2 &&& (3 : Int32))))]) (lenOf pd_10 rfl) rfl (W := 2) (by show 2 * 0 + _ ≤ _; exact Nat.le_of_eq rfl) (hb hby at_115) (by decide) (by decide) (by decide) (by decide)
    obtain ⟨rfl, N68q, hh68⟩ := hQ68
    have N68 := Fr.app N67 N68q
    rw [hh68] at e68
    refine own_st st68 ?_
    show Fin1 p e below s (rm0Q Z i0 i1 i2 i3 i4 vaM xM0 xM1 xM2 xM3 vcM vaJ xJ0 xJ1 xJ2 xJ3 vcJ h0 n0) room_1.cells room_1.slots (T68.setTop (mkF m 118 #[.val (.int i0), .val (.int i1), .val (.int i2), .val (.int i3), .val (.int i4), .val (.int (3 : Int32)), .val (.ref b1), .unset, .unset] [(.long (own_exp (3 : Int32) i0 i1 i2 (2 : Int32))), (.long ((((0 : Int64) + own_hit (2 : Int32) (i0 &&& (3 : Int32))) + own_hit (2 : Int32) (i1 &&& (3 : Int32))) + own_hit (2 : Int32) (i2 &&& (3 : Int32))))]))
    refine own_st (fun wt wk => XS.lcmp X68.here hx rfl (hb hby at_118) rfl wk) ?_
    show Fin1 p e below s (rm0Q Z i0 i1 i2 i3 i4 vaM xM0 xM1 xM2 xM3 vcM vaJ xJ0 xJ1 xJ2 xJ3 vcJ h0 n0) room_1.cells room_1.slots (T68.setTop (mkF m 119 #[.val (.int i0), .val (.int i1), .val (.int i2), .val (.int i3), .val (.int i4), .val (.int (3 : Int32)), .val (.ref b1), .unset, .unset] [(.int (lcmpW ((((0 : Int64) + own_hit (2 : Int32) (i0 &&& (3 : Int32))) + own_hit (2 : Int32) (i1 &&& (3 : Int32))) + own_hit (2 : Int32) (i2 &&& (3 : Int32))) (own_exp (3 : Int32) i0 i1 i2 (2 : Int32))))]))
    refine own_st (fun wt wk => XS.ifNo X68.here hx rfl (hb hby at_119) rfl ((if0 _ _).trans (teq ((lw_eq _ _).mpr (own_same3 i0 i1 i2 (2 : Int32)) : (lcmpW ((((0 : Int64) + own_hit (2 : Int32) (i0 &&& (3 : Int32))) + own_hit (2 : Int32) (i1 &&& (3 : Int32))) + own_hit (2 : Int32) (i2 &&& (3 : Int32))) (own_exp (3 : Int32) i0 i1 i2 (2 : Int32))) = (0 : Int32))).2) wk) ?_
    show Fin1 p e below s (rm0Q Z i0 i1 i2 i3 i4 vaM xM0 xM1 xM2 xM3 vcM vaJ xJ0 xJ1 xJ2 xJ3 vcJ h0 n0) room_1.cells room_1.slots (T68.setTop (mkF m 122 #[.val (.int i0), .val (.int i1), .val (.int i2), .val (.int i3), .val (.int i4), .val (.int (3 : Int32)), .val (.ref b1), .unset, .unset] []))
    refine own_st (fun wt wk => XS.aload X68.here hx rfl (hb hby at_122) rfl rfl wk) ?_
    show Fin1 p e below s (rm0Q Z i0 i1 i2 i3 i4 vaM xM0 xM1 xM2 xM3 vcM vaJ xJ0 xJ1 xJ2 xJ3 vcJ h0 n0) room_1.cells room_1.slots (T68.setTop (mkF m 124 #[.val (.int i0), .val (.int i1), .val (.int i2), .val (.int i3), .val (.int i4), .val (.int (3 : Int32)), .val (.ref b1), .unset, .unset] [(.ref b1)]))
    obtain ⟨T69, X69, e69, st69⟩ := getS2 X68 hx hZ hown (host := "") (Or.inl (hw _ (List.mem_of_getElem? (i := 82) rfl))) Via.refl e68 (SJ3.ext O.2) (g := (mkF m 124 #[.val (.int i0), .val (.int i1), .val (.int i2), .val (.int i3), .val (.int i4), .val (.int (3 : Int32)), .val (.ref b1), .unset, .unset] [(.ref b1)])) rfl (hb hby at_124)
    refine own_st st69 ?_
    show Fin1 p e below s (rm0Q Z i0 i1 i2 i3 i4 vaM xM0 xM1 xM2 xM3 vcM vaJ xJ0 xJ1 xJ2 xJ3 vcJ h0 n0) room_1.cells room_1.slots (T69.setTop (mkF m 127 #[.val (.int i0), .val (.int i1), .val (.int i2), .val (.int i3), .val (.int i4), .val (.int (3 : Int32)), .val (.ref b1), .unset, .unset] [(.ref xJ3), (.ref b1)]))
    obtain ⟨v70, T70, h70, L70, X70, e70, hQ70, st70⟩ := own_virtual X69 hx hZ hown (hw _ (List.mem_of_getElem? (i := 72) rfl)) (hw _ (List.mem_of_getElem? (i := 73) rfl)) (hw _ (List.mem_of_getElem? (i := 75) rfl)) (hw _ (List.mem_of_getElem? (i := 74) rfl)) (hw _ (List.mem_of_getElem? (i := 76) rfl)) (hw _ (List.mem_of_getElem? (i := 2) rfl)) (by decide) (a := b1) E_b1 (rm_getRejected l Z a0 hw b1 xJ3 (3 : Int32) t2 k2 [(.long ((((0 : Int64) + own_hit (0 : Int32) (i0 &&& (3 : Int32))) + own_hit (0 : Int32) (i1 &&& (3 : Int32))) + own_hit (0 : Int32) (i2 &&& (3 : Int32)))), (.long ((((0 : Int64) + own_hit (1 : Int32) (i0 &&& (3 : Int32))) + own_hit (1 : Int32) (i1 &&& (3 : Int32))) + own_hit (1 : Int32) (i2 &&& (3 : Int32)))), (.long ((((0 : Int64) + own_hit (2 : Int32) (i0 &&& (3 : Int32))) + own_hit (2 : Int32) (i1 &&& (3 : Int32))) + own_hit (2 : Int32) (i2 &&& (3 : Int32)))), (.long ((((0 : Int64) + own_hit (3 : Int32) (i0 &&& (3 : Int32))) + own_hit (3 : Int32) (i1 &&& (3 : Int32))) + own_hit (3 : Int32) (i2 &&& (3 : Int32))))] ((((0 : Int64) + own_hit (3 : Int32) (i0 &&& (3 : Int32))) + own_hit (3 : Int32) (i1 &&& (3 : Int32))) + own_hit (3 : Int32) (i2 &&& (3 : Int32))) h59 n0 Z0 (by decide) F2 (QJ3.ext O.2) (OJ3.ext O.2) V_t2 rfl) e69 (g := (mkF m 127 #[.val (.int i0), .val (.int i1), .val (.int i2), .val (.int i3), .val (.int i4), .val (.int (3 : Int32)), .val (.ref b1), .unset, .unset] [(.ref xJ3), (.ref b1)])) rfl (by rw [hml]; rfl) (argsL := [(.ref xJ3)]) (rest := []) (lenOf pd_9 rfl) rfl (W := 0) (by show 2 * 0 + _ ≤ _; exact Nat.le_of_eq rfl) (hb hby at_127) (by decide) (by decide) (by decide) (by decide)
    obtain ⟨rfl, N70q, hh70⟩ := hQ70
    have N70 := Fr.app N68 N70q
    rw [hh70] at e70
    refine own_st st70 ?_
    show Fin1 p e below s (rm0Q Z i0 i1 i2 i3 i4 vaM xM0 xM1 xM2 xM3 vcM vaJ xJ0 xJ1 xJ2 xJ3 vcJ h0 n0) room_1.cells room_1.slots (T70.setTop (mkF m 130 #[.val (.int i0), .val (.int i1), .val (.int i2), .val (.int i3), .val (.int i4), .val (.int (3 : Int32)), .val (.ref b1), .unset, .unset] [(.long ((((0 : Int64) + own_hit (3 : Int32) (i0 &&& (3 : Int32))) + own_hit (3 : Int32) (i1 &&& (3 : Int32))) + own_hit (3 : Int32) (i2 &&& (3 : Int32))))]))
    refine own_st (fun wt wk => XS.iload X70.here hx rfl (hb hby at_130) rfl wk) ?_
    show Fin1 p e below s (rm0Q Z i0 i1 i2 i3 i4 vaM xM0 xM1 xM2 xM3 vcM vaJ xJ0 xJ1 xJ2 xJ3 vcJ h0 n0) room_1.cells room_1.slots (T70.setTop (mkF m 132 #[.val (.int i0), .val (.int i1), .val (.int i2), .val (.int i3), .val (.int i4), .val (.int (3 : Int32)), .val (.ref b1), .unset, .unset] [(.int (3 : Int32)), (.long ((((0 : Int64) + own_hit (3 : Int32) (i0 &&& (3 : Int32))) + own_hit (3 : Int32) (i1 &&& (3 : Int32))) + own_hit (3 : Int32) (i2 &&& (3 : Int32))))]))
    refine own_st (fun wt wk => XS.iloadN X70.here hx rfl (hb hby at_132) rfl wk) ?_
    show Fin1 p e below s (rm0Q Z i0 i1 i2 i3 i4 vaM xM0 xM1 xM2 xM3 vcM vaJ xJ0 xJ1 xJ2 xJ3 vcJ h0 n0) room_1.cells room_1.slots (T70.setTop (mkF m 133 #[.val (.int i0), .val (.int i1), .val (.int i2), .val (.int i3), .val (.int i4), .val (.int (3 : Int32)), .val (.ref b1), .unset, .unset] [(.int i0), (.int (3 : Int32)), (.long ((((0 : Int64) + own_hit (3 : Int32) (i0 &&& (3 : Int32))) + own_hit (3 : Int32) (i1 &&& (3 : Int32))) + own_hit (3 : Int32) (i2 &&& (3 : Int32))))]))
    refine own_st (fun wt wk => XS.iloadN X70.here hx rfl (hb hby at_133) rfl wk) ?_
    show Fin1 p e below s (rm0Q Z i0 i1 i2 i3 i4 vaM xM0 xM1 xM2 xM3 vcM vaJ xJ0 xJ1 xJ2 xJ3 vcJ h0 n0) room_1.cells room_1.slots (T70.setTop (mkF m 134 #[.val (.int i0), .val (.int i1), .val (.int i2), .val (.int i3), .val (.int i4), .val (.int (3 : Int32)), .val (.ref b1), .unset, .unset] [(.int i1), (.int i0), (.int (3 : Int32)), (.long ((((0 : Int64) + own_hit (3 : Int32) (i0 &&& (3 : Int32))) + own_hit (3 : Int32) (i1 &&& (3 : Int32))) + own_hit (3 : Int32) (i2 &&& (3 : Int32))))]))
    refine own_st (fun wt wk => XS.iloadN X70.here hx rfl (hb hby at_134) rfl wk) ?_
    show Fin1 p e below s (rm0Q Z i0 i1 i2 i3 i4 vaM xM0 xM1 xM2 xM3 vcM vaJ xJ0 xJ1 xJ2 xJ3 vcJ h0 n0) room_1.cells room_1.slots (T70.setTop (mkF m 135 #[.val (.int i0), .val (.int i1), .val (.int i2), .val (.int i3), .val (.int i4), .val (.int (3 : Int32)), .val (.ref b1), .unset, .unset] [(.int i2), (.int i1), (.int i0), (.int (3 : Int32)), (.long ((((0 : Int64) + own_hit (3 : Int32) (i0 &&& (3 : Int32))) + own_hit (3 : Int32) (i1 &&& (3 : Int32))) + own_hit (3 : Int32) (i2 &&& (3 : Int32))))]))
    refine own_st (fun wt wk => XS.iconst X70.here hx rfl (hb hby at_135) wk) ?_
    show Fin1 p e below s (rm0Q Z i0 i1 i2 i3 i4 vaM xM0 xM1 xM2 xM3 vcM vaJ xJ0 xJ1 xJ2 xJ3 vcJ h0 n0) room_1.cells room_1.slots (T70.setTop (mkF m 136 #[.val (.int i0), .val (.int i1), .val (.int i2), .val (.int i3), .val (.int i4), .val (.int (3 : Int32)), .val (.ref b1), .unset, .unset] [(.int (3 : Int32)), (.int i2), (.int i1), (.int i0), (.int (3 : Int32)), (.long ((((0 : Int64) + own_hit (3 : Int32) (i0 &&& (3 : Int32))) + own_hit (3 : Int32) (i1 &&& (3 : Int32))) + own_hit (3 : Int32) (i2 &&& (3 : Int32))))]))
    obtain ⟨v71, T71, h71, L71, X71, e71, hQ71, st71⟩ := own_static X70 hx hZ hown (hw _ (List.mem_of_getElem? (i := 77) rfl)) (hw _ (List.mem_of_getElem? (i := 78) rfl)) (hw _ (List.mem_of_getElem? (i := 55) rfl)) (hw _ (List.mem_of_getElem? (i := 79) rfl)) (by decide) (rmX l Z a0 hw (3 : Int32) i0 i1 i2 (3 : Int32) h59 n0 Z0) e70 (g := (mkF m 136 #[.val (.int i0), .val (.int i1), .val (.int i2), .val (.int i3), .val (.int i4), .val (.int (3 : Int32)), .val (.ref b1), .unset, .unset] [(.int (3 : Int32)), (.int i2), (.int i1), (.int i0), (.int (3 : Int32)), (.long ((((0 : Int64) + own_hit (3 : Int32) (i0 &&& (3 : Int32))) + own_hit (3 : Int32) (i1 &&& (3 : Int32))) + own_hit (3 : Int32) (i2 &&& (3 : Int32))))])) rfl (by rw [hml]; rfl) (argsL := [(.int (3 : Int32)), (.int i0), (.int i1), (.int i2), (.int (3 : Int32))]) (rest := [(.long ((((0 : Int64) + own_hit (3 : Int32) (i0 &&& (3 : Int32))) + own_hit (3 : Int32) (i1 &&& (3 : Int32))) + own_hit (3 : Int32) (i2 &&& (3 : Int32))))]) (lenOf pd_10 rfl) rfl (W := 2) (by show 2 * 0 + _ ≤ _; exact Nat.le_of_eq rfl) (hb hby at_136) (by decide) (by decide) (by decide) (by decide)
    obtain ⟨rfl, N71q, hh71⟩ := hQ71
    have N71 := Fr.app N70 N71q
    rw [hh71] at e71
    refine own_st st71 ?_
    show Fin1 p e below s (rm0Q Z i0 i1 i2 i3 i4 vaM xM0 xM1 xM2 xM3 vcM vaJ xJ0 xJ1 xJ2 xJ3 vcJ h0 n0) room_1.cells room_1.slots (T71.setTop (mkF m 139 #[.val (.int i0), .val (.int i1), .val (.int i2), .val (.int i3), .val (.int i4), .val (.int (3 : Int32)), .val (.ref b1), .unset, .unset] [(.long (own_exp (3 : Int32) i0 i1 i2 (3 : Int32))), (.long ((((0 : Int64) + own_hit (3 : Int32) (i0 &&& (3 : Int32))) + own_hit (3 : Int32) (i1 &&& (3 : Int32))) + own_hit (3 : Int32) (i2 &&& (3 : Int32))))]))
    refine own_st (fun wt wk => XS.lcmp X71.here hx rfl (hb hby at_139) rfl wk) ?_
    show Fin1 p e below s (rm0Q Z i0 i1 i2 i3 i4 vaM xM0 xM1 xM2 xM3 vcM vaJ xJ0 xJ1 xJ2 xJ3 vcJ h0 n0) room_1.cells room_1.slots (T71.setTop (mkF m 140 #[.val (.int i0), .val (.int i1), .val (.int i2), .val (.int i3), .val (.int i4), .val (.int (3 : Int32)), .val (.ref b1), .unset, .unset] [(.int (lcmpW ((((0 : Int64) + own_hit (3 : Int32) (i0 &&& (3 : Int32))) + own_hit (3 : Int32) (i1 &&& (3 : Int32))) + own_hit (3 : Int32) (i2 &&& (3 : Int32))) (own_exp (3 : Int32) i0 i1 i2 (3 : Int32))))]))
    refine own_st (fun wt wk => XS.ifNo X71.here hx rfl (hb hby at_140) rfl ((if0 _ _).trans (teq ((lw_eq _ _).mpr (own_same3 i0 i1 i2 (3 : Int32)) : (lcmpW ((((0 : Int64) + own_hit (3 : Int32) (i0 &&& (3 : Int32))) + own_hit (3 : Int32) (i1 &&& (3 : Int32))) + own_hit (3 : Int32) (i2 &&& (3 : Int32))) (own_exp (3 : Int32) i0 i1 i2 (3 : Int32))) = (0 : Int32))).2) wk) ?_
    show Fin1 p e below s (rm0Q Z i0 i1 i2 i3 i4 vaM xM0 xM1 xM2 xM3 vcM vaJ xJ0 xJ1 xJ2 xJ3 vcJ h0 n0) room_1.cells room_1.slots (T71.setTop (mkF m 143 #[.val (.int i0), .val (.int i1), .val (.int i2), .val (.int i3), .val (.int i4), .val (.int (3 : Int32)), .val (.ref b1), .unset, .unset] []))
    refine own_st (fun wt wk => XS.iconst X71.here hx rfl (hb hby at_143) wk) ?_
    show Fin1 p e below s (rm0Q Z i0 i1 i2 i3 i4 vaM xM0 xM1 xM2 xM3 vcM vaJ xJ0 xJ1 xJ2 xJ3 vcJ h0 n0) room_1.cells room_1.slots (T71.setTop (mkF m 144 #[.val (.int i0), .val (.int i1), .val (.int i2), .val (.int i3), .val (.int i4), .val (.int (3 : Int32)), .val (.ref b1), .unset, .unset] [(.int (1 : Int32))]))
    refine own_st (fun wt wk => XS.goto X71.here hx rfl (pc0 := 144) (pc' := 148) rfl (hb hby at_144) (by decide) (by decide) wk) ?_
    show Fin1 p e below s (rm0Q Z i0 i1 i2 i3 i4 vaM xM0 xM1 xM2 xM3 vcM vaJ xJ0 xJ1 xJ2 xJ3 vcJ h0 n0) room_1.cells room_1.slots (T71.setTop (mkF m 148 #[.val (.int i0), .val (.int i1), .val (.int i2), .val (.int i3), .val (.int i4), .val (.int (3 : Int32)), .val (.ref b1), .unset, .unset] [(.int (1 : Int32))]))
    refine own_st (fun wt wk => XS.istore X71.here hx rfl (hb hby at_148) rfl (l' := #[.val (.int i0), .val (.int i1), .val (.int i2), .val (.int i3), .val (.int i4), .val (.int (3 : Int32)), .val (.ref b1), .val (.int (1 : Int32)), .unset]) rfl wk) ?_
    show Fin1 p e below s (rm0Q Z i0 i1 i2 i3 i4 vaM xM0 xM1 xM2 xM3 vcM vaJ xJ0 xJ1 xJ2 xJ3 vcJ h0 n0) room_1.cells room_1.slots (T71.setTop (mkF m 150 #[.val (.int i0), .val (.int i1), .val (.int i2), .val (.int i3), .val (.int i4), .val (.int (3 : Int32)), .val (.ref b1), .val (.int (1 : Int32)), .unset] []))
    refine own_st (fun wt wk => XS.iload X71.here hx rfl (hb hby at_150) rfl wk) ?_
    show Fin1 p e below s (rm0Q Z i0 i1 i2 i3 i4 vaM xM0 xM1 xM2 xM3 vcM vaJ xJ0 xJ1 xJ2 xJ3 vcJ h0 n0) room_1.cells room_1.slots (T71.setTop (mkF m 152 #[.val (.int i0), .val (.int i1), .val (.int i2), .val (.int i3), .val (.int i4), .val (.int (3 : Int32)), .val (.ref b1), .val (.int (1 : Int32)), .unset] [(.int i4)]))
    obtain ⟨v72, T72, h72, L72, X72, e72, hQ72, st72⟩ := own_static X71 hx hZ hown (hw _ (List.mem_of_getElem? (i := 83) rfl)) (hw _ (List.mem_of_getElem? (i := 84) rfl)) (hw _ (List.mem_of_getElem? (i := 55) rfl)) (hw _ (List.mem_of_getElem? (i := 85) rfl)) (by decide) (rm_kind l Z a0 hw i4 vaM xM0 xM1 xM2 xM3 vcM h59 n0 Z0 O EM) e71 (g := (mkF m 152 #[.val (.int i0), .val (.int i1), .val (.int i2), .val (.int i3), .val (.int i4), .val (.int (3 : Int32)), .val (.ref b1), .val (.int (1 : Int32)), .unset] [(.int i4)])) rfl (by rw [hml]; rfl) (argsL := [(.int i4)]) (rest := []) (lenOf pd_11 rfl) rfl (W := 0) (by show 2 * 0 + _ ≤ _; exact Nat.le_of_eq rfl) (hb hby at_152) (by decide) (by decide) (by decide) (by decide)
    obtain ⟨rk, rfl, N72q, hh72, E_rk, O_rk⟩ := hQ72
    have N72 := Fr.app N71 N72q
    rw [hh72] at e72
    refine own_st st72 ?_
    show Fin1 p e below s (rm0Q Z i0 i1 i2 i3 i4 vaM xM0 xM1 xM2 xM3 vcM vaJ xJ0 xJ1 xJ2 xJ3 vcJ h0 n0) room_1.cells room_1.slots (T72.setTop (mkF m 155 #[.val (.int i0), .val (.int i1), .val (.int i2), .val (.int i3), .val (.int i4), .val (.int (3 : Int32)), .val (.ref b1), .val (.int (1 : Int32)), .unset] [(.ref rk)]))
    refine own_st (fun wt wk => XS.astore X72.here hx rfl (hb hby at_155) rfl rfl (l' := #[.val (.int i0), .val (.int i1), .val (.int i2), .val (.int i3), .val (.int i4), .val (.int (3 : Int32)), .val (.ref b1), .val (.int (1 : Int32)), .val (.ref rk)]) rfl wk) ?_
    show Fin1 p e below s (rm0Q Z i0 i1 i2 i3 i4 vaM xM0 xM1 xM2 xM3 vcM vaJ xJ0 xJ1 xJ2 xJ3 vcJ h0 n0) room_1.cells room_1.slots (T72.setTop (mkF m 157 #[.val (.int i0), .val (.int i1), .val (.int i2), .val (.int i3), .val (.int i4), .val (.int (3 : Int32)), .val (.ref b1), .val (.int (1 : Int32)), .val (.ref rk)] []))
    refine own_st (fun wt wk => XS.iload X72.here hx rfl (hb hby at_157) rfl wk) ?_
    show Fin1 p e below s (rm0Q Z i0 i1 i2 i3 i4 vaM xM0 xM1 xM2 xM3 vcM vaJ xJ0 xJ1 xJ2 xJ3 vcJ h0 n0) room_1.cells room_1.slots (T72.setTop (mkF m 159 #[.val (.int i0), .val (.int i1), .val (.int i2), .val (.int i3), .val (.int i4), .val (.int (3 : Int32)), .val (.ref b1), .val (.int (1 : Int32)), .val (.ref rk)] [(.int (1 : Int32))]))
    refine own_st (fun wt wk => XS.ifNo X72.here hx rfl (hb hby at_159) rfl ((if0 _ _).trans (feq (by decide)).1) wk) ?_
    show Fin1 p e below s (rm0Q Z i0 i1 i2 i3 i4 vaM xM0 xM1 xM2 xM3 vcM vaJ xJ0 xJ1 xJ2 xJ3 vcJ h0 n0) room_1.cells room_1.slots (T72.setTop (mkF m 162 #[.val (.int i0), .val (.int i1), .val (.int i2), .val (.int i3), .val (.int i4), .val (.int (3 : Int32)), .val (.ref b1), .val (.int (1 : Int32)), .val (.ref rk)] []))
    refine own_st (fun wt wk => XS.aload X72.here hx rfl (hb hby at_162) rfl rfl wk) ?_
    show Fin1 p e below s (rm0Q Z i0 i1 i2 i3 i4 vaM xM0 xM1 xM2 xM3 vcM vaJ xJ0 xJ1 xJ2 xJ3 vcJ h0 n0) room_1.cells room_1.slots (T72.setTop (mkF m 164 #[.val (.int i0), .val (.int i1), .val (.int i2), .val (.int i3), .val (.int i4), .val (.int (3 : Int32)), .val (.ref b1), .val (.int (1 : Int32)), .val (.ref rk)] [(.ref b1)]))
    refine own_st (fun wt wk => XS.aload X72.here hx rfl (hb hby at_164) rfl rfl wk) ?_
    show Fin1 p e below s (rm0Q Z i0 i1 i2 i3 i4 vaM xM0 xM1 xM2 xM3 vcM vaJ xJ0 xJ1 xJ2 xJ3 vcJ h0 n0) room_1.cells room_1.slots (T72.setTop (mkF m 166 #[.val (.int i0), .val (.int i1), .val (.int i2), .val (.int i3), .val (.int i4), .val (.int (3 : Int32)), .val (.ref b1), .val (.int (1 : Int32)), .val (.ref rk)] [(.ref rk), (.ref b1)]))
    obtain ⟨v73, T73, h73, L73, X73, e73, hQ73, st73⟩ := own_virtual X72 hx hZ hown (hw _ (List.mem_of_getElem? (i := 87) rfl)) (hw _ (List.mem_of_getElem? (i := 88) rfl)) (hw _ (List.mem_of_getElem? (i := 90) rfl)) (hw _ (List.mem_of_getElem? (i := 89) rfl)) (hw _ (List.mem_of_getElem? (i := 91) rfl)) (hw _ (List.mem_of_getElem? (i := 2) rfl)) (by decide) (a := b1) E_b1 (rm_getSent l Z a0 hw b1 rk (i4 &&& (3 : Int32)) t0 k0 [(.long (0 : Int64)), (.long (0 : Int64)), (.long (0 : Int64)), (.long (0 : Int64))] (0 : Int64) h59 n0 Z0 (own_rng _) F0 E_rk O_rk V_t0 (by rw [own_at _ _ _ _ _ (own_rng _)]; simp)) e72 (g := (mkF m 166 #[.val (.int i0), .val (.int i1), .val (.int i2), .val (.int i3), .val (.int i4), .val (.int (3 : Int32)), .val (.ref b1), .val (.int (1 : Int32)), .val (.ref rk)] [(.ref rk), (.ref b1)])) rfl (by rw [hml]; rfl) (argsL := [(.ref rk)]) (rest := []) (lenOf pd_12 rfl) rfl (W := 0) (by show 2 * 0 + _ ≤ _; exact Nat.le_of_eq rfl) (hb hby at_166) (by decide) (by decide) (by decide) (by decide)
    obtain ⟨rfl, N73q, hh73⟩ := hQ73
    have N73 := Fr.app N72 N73q
    rw [hh73] at e73
    refine own_st st73 ?_
    show Fin1 p e below s (rm0Q Z i0 i1 i2 i3 i4 vaM xM0 xM1 xM2 xM3 vcM vaJ xJ0 xJ1 xJ2 xJ3 vcJ h0 n0) room_1.cells room_1.slots (T73.setTop (mkF m 169 #[.val (.int i0), .val (.int i1), .val (.int i2), .val (.int i3), .val (.int i4), .val (.int (3 : Int32)), .val (.ref b1), .val (.int (1 : Int32)), .val (.ref rk)] [(.long (0 : Int64))]))
    refine own_st (fun wt wk => XS.lconst X73.here hx rfl (hb hby at_169) wk) ?_
    show Fin1 p e below s (rm0Q Z i0 i1 i2 i3 i4 vaM xM0 xM1 xM2 xM3 vcM vaJ xJ0 xJ1 xJ2 xJ3 vcJ h0 n0) room_1.cells room_1.slots (T73.setTop (mkF m 170 #[.val (.int i0), .val (.int i1), .val (.int i2), .val (.int i3), .val (.int i4), .val (.int (3 : Int32)), .val (.ref b1), .val (.int (1 : Int32)), .val (.ref rk)] [(.long (0 : Int64)), (.long (0 : Int64))]))
    refine own_st (fun wt wk => XS.lcmp X73.here hx rfl (hb hby at_170) rfl wk) ?_
    show Fin1 p e below s (rm0Q Z i0 i1 i2 i3 i4 vaM xM0 xM1 xM2 xM3 vcM vaJ xJ0 xJ1 xJ2 xJ3 vcJ h0 n0) room_1.cells room_1.slots (T73.setTop (mkF m 171 #[.val (.int i0), .val (.int i1), .val (.int i2), .val (.int i3), .val (.int i4), .val (.int (3 : Int32)), .val (.ref b1), .val (.int (1 : Int32)), .val (.ref rk)] [(.int (lcmpW (0 : Int64) (0 : Int64)))]))
    refine own_st (fun wt wk => XS.ifNo X73.here hx rfl (hb hby at_171) rfl ((if0 _ _).trans (teq ((lw_eq _ _).mpr rfl : (lcmpW (0 : Int64) (0 : Int64)) = (0 : Int32))).2) wk) ?_
    show Fin1 p e below s (rm0Q Z i0 i1 i2 i3 i4 vaM xM0 xM1 xM2 xM3 vcM vaJ xJ0 xJ1 xJ2 xJ3 vcJ h0 n0) room_1.cells room_1.slots (T73.setTop (mkF m 174 #[.val (.int i0), .val (.int i1), .val (.int i2), .val (.int i3), .val (.int i4), .val (.int (3 : Int32)), .val (.ref b1), .val (.int (1 : Int32)), .val (.ref rk)] []))
    refine own_st (fun wt wk => XS.aload X73.here hx rfl (hb hby at_174) rfl rfl wk) ?_
    show Fin1 p e below s (rm0Q Z i0 i1 i2 i3 i4 vaM xM0 xM1 xM2 xM3 vcM vaJ xJ0 xJ1 xJ2 xJ3 vcJ h0 n0) room_1.cells room_1.slots (T73.setTop (mkF m 176 #[.val (.int i0), .val (.int i1), .val (.int i2), .val (.int i3), .val (.int i4), .val (.int (3 : Int32)), .val (.ref b1), .val (.int (1 : Int32)), .val (.ref rk)] [(.ref b1)]))
    refine own_st (fun wt wk => XS.aload X73.here hx rfl (hb hby at_176) rfl rfl wk) ?_
    show Fin1 p e below s (rm0Q Z i0 i1 i2 i3 i4 vaM xM0 xM1 xM2 xM3 vcM vaJ xJ0 xJ1 xJ2 xJ3 vcJ h0 n0) room_1.cells room_1.slots (T73.setTop (mkF m 178 #[.val (.int i0), .val (.int i1), .val (.int i2), .val (.int i3), .val (.int i4), .val (.int (3 : Int32)), .val (.ref b1), .val (.int (1 : Int32)), .val (.ref rk)] [(.ref rk), (.ref b1)]))
    obtain ⟨v74, T74, h74, L74, X74, e74, hQ74, st74⟩ := own_virtual X73 hx hZ hown (hw _ (List.mem_of_getElem? (i := 96) rfl)) (hw _ (List.mem_of_getElem? (i := 97) rfl)) (hw _ (List.mem_of_getElem? (i := 99) rfl)) (hw _ (List.mem_of_getElem? (i := 98) rfl)) (hw _ (List.mem_of_getElem? (i := 100) rfl)) (hw _ (List.mem_of_getElem? (i := 2) rfl)) (by decide) (a := b1) E_b1 (rm_getReceived l Z a0 hw b1 rk (i4 &&& (3 : Int32)) t1 k1 [(.long (0 : Int64)), (.long (0 : Int64)), (.long (0 : Int64)), (.long (0 : Int64))] (0 : Int64) h59 n0 Z0 (own_rng _) F1 E_rk O_rk V_t1 (by rw [own_at _ _ _ _ _ (own_rng _)]; simp)) e73 (g := (mkF m 178 #[.val (.int i0), .val (.int i1), .val (.int i2), .val (.int i3), .val (.int i4), .val (.int (3 : Int32)), .val (.ref b1), .val (.int (1 : Int32)), .val (.ref rk)] [(.ref rk), (.ref b1)])) rfl (by rw [hml]; rfl) (argsL := [(.ref rk)]) (rest := []) (lenOf pd_12 rfl) rfl (W := 0) (by show 2 * 0 + _ ≤ _; exact Nat.le_of_eq rfl) (hb hby at_178) (by decide) (by decide) (by decide) (by decide)
    obtain ⟨rfl, N74q, hh74⟩ := hQ74
    have N74 := Fr.app N73 N74q
    rw [hh74] at e74
    refine own_st st74 ?_
    show Fin1 p e below s (rm0Q Z i0 i1 i2 i3 i4 vaM xM0 xM1 xM2 xM3 vcM vaJ xJ0 xJ1 xJ2 xJ3 vcJ h0 n0) room_1.cells room_1.slots (T74.setTop (mkF m 181 #[.val (.int i0), .val (.int i1), .val (.int i2), .val (.int i3), .val (.int i4), .val (.int (3 : Int32)), .val (.ref b1), .val (.int (1 : Int32)), .val (.ref rk)] [(.long (0 : Int64))]))
    refine own_st (fun wt wk => XS.lconst X74.here hx rfl (hb hby at_181) wk) ?_
    show Fin1 p e below s (rm0Q Z i0 i1 i2 i3 i4 vaM xM0 xM1 xM2 xM3 vcM vaJ xJ0 xJ1 xJ2 xJ3 vcJ h0 n0) room_1.cells room_1.slots (T74.setTop (mkF m 182 #[.val (.int i0), .val (.int i1), .val (.int i2), .val (.int i3), .val (.int i4), .val (.int (3 : Int32)), .val (.ref b1), .val (.int (1 : Int32)), .val (.ref rk)] [(.long (0 : Int64)), (.long (0 : Int64))]))
    refine own_st (fun wt wk => XS.lcmp X74.here hx rfl (hb hby at_182) rfl wk) ?_
    show Fin1 p e below s (rm0Q Z i0 i1 i2 i3 i4 vaM xM0 xM1 xM2 xM3 vcM vaJ xJ0 xJ1 xJ2 xJ3 vcJ h0 n0) room_1.cells room_1.slots (T74.setTop (mkF m 183 #[.val (.int i0), .val (.int i1), .val (.int i2), .val (.int i3), .val (.int i4), .val (.int (3 : Int32)), .val (.ref b1), .val (.int (1 : Int32)), .val (.ref rk)] [(.int (lcmpW (0 : Int64) (0 : Int64)))]))
    refine own_st (fun wt wk => XS.ifNo X74.here hx rfl (hb hby at_183) rfl ((if0 _ _).trans (teq ((lw_eq _ _).mpr rfl : (lcmpW (0 : Int64) (0 : Int64)) = (0 : Int32))).2) wk) ?_
    show Fin1 p e below s (rm0Q Z i0 i1 i2 i3 i4 vaM xM0 xM1 xM2 xM3 vcM vaJ xJ0 xJ1 xJ2 xJ3 vcJ h0 n0) room_1.cells room_1.slots (T74.setTop (mkF m 186 #[.val (.int i0), .val (.int i1), .val (.int i2), .val (.int i3), .val (.int i4), .val (.int (3 : Int32)), .val (.ref b1), .val (.int (1 : Int32)), .val (.ref rk)] []))
    refine own_st (fun wt wk => XS.iconst X74.here hx rfl (hb hby at_186) wk) ?_
    show Fin1 p e below s (rm0Q Z i0 i1 i2 i3 i4 vaM xM0 xM1 xM2 xM3 vcM vaJ xJ0 xJ1 xJ2 xJ3 vcJ h0 n0) room_1.cells room_1.slots (T74.setTop (mkF m 187 #[.val (.int i0), .val (.int i1), .val (.int i2), .val (.int i3), .val (.int i4), .val (.int (3 : Int32)), .val (.ref b1), .val (.int (1 : Int32)), .val (.ref rk)] [(.int (1 : Int32))]))
    refine own_st (fun wt wk => XS.goto X74.here hx rfl (pc0 := 187) (pc' := 191) rfl (hb hby at_187) (by decide) (by decide) wk) ?_
    show Fin1 p e below s (rm0Q Z i0 i1 i2 i3 i4 vaM xM0 xM1 xM2 xM3 vcM vaJ xJ0 xJ1 xJ2 xJ3 vcJ h0 n0) room_1.cells room_1.slots (T74.setTop (mkF m 191 #[.val (.int i0), .val (.int i1), .val (.int i2), .val (.int i3), .val (.int i4), .val (.int (3 : Int32)), .val (.ref b1), .val (.int (1 : Int32)), .val (.ref rk)] [(.int (1 : Int32))]))
    exact own_retZ X74 hx hlk hret (hb hby at_191) (z := (1 : Int32)) (by decide) (by rw [e74]; exact ⟨rfl, N74⟩) (by decide) (by decide)
set_option maxRecDepth 65536 in
set_option maxHeartbeats 40000000 in
theorem comes_1 {Post : Tables → Env → Array Value → State → Outcome → State → Prop} (hpost : ∀ tb e args s v u, (limb_1_1.after args s (.returned v) u = true ∧ limb_1_2.after args s (.returned v) u = true ∧ True) → FrameEnd s (.returned v) u (Jvm.fieldLocs frame_1_writes args s ++ Jvm.arrayLocs frame_1_arrays args s ++ Jvm.staticLocs frame_1_statics s) 24 128 → Post tb e args s (.returned v) u) :
    ArmFor flags0 classFile x code maxLocals ret World_1 tables_1 room_1 Calls_1 rest_1 Pre_1 Post := by
  intro l hfl _ _ p e ha hc hk s m args below hf hA hF happ hP
  obtain ⟨hcalls, hrest, hpre⟩ := hP
  obtain ⟨-, -, -, hnamed, -, -, -, hat⟩ := (Spec.applies_iff hf).mp happ
  obtain ⟨hg, hn⟩ := and_e (Cond.before_iff.mp (show (Jvm.Cond.and given_1 narrow_1).before args s = true from hpre))
  obtain ⟨hcnt, hg1⟩ := and_e hg
  obtain ⟨hv0, hg2⟩ := and_e hg1
  obtain ⟨hv1, hg3⟩ := and_e hg2
  obtain ⟨hv2, hg4⟩ := and_e hg3
  obtain ⟨hv3, hg5⟩ := and_e hg4
  have hv4 := hg5
  obtain ⟨w0, w1, w2, w3, w4, rfl⟩ : ∃ w0 w1 w2 w3 w4 : Value, args = #[w0, w1, w2, w3, w4] := by
    have hs : args.size = 5 := by simpa [Cond.value, given_1] using hcnt
    obtain ⟨L⟩ := args
    match L, hs with
    | [w0, w1, w2, w3, w4], _ => exact ⟨w0, w1, w2, w3, w4, rfl⟩
  have hw := fun d (hd : d ∈ tables_1) => atoms_spec (ws := Jvm.Cond.code x code maxLocals ret :: tables_1) hat d (List.mem_cons_of_mem _ hd)
  have hfit : Fit s := fun {y c} hc i hi => by
    obtain ⟨ha, rfl⟩ := Array.getElem?_eq_some_iff.mp hc
    have q := List.all_eq_true.mp ((Array.all_eq_true_iff_forall_mem.mp hF) _ (Array.getElem_mem ha)) i (List.mem_range.mpr hi)
    simpa [Array.getElem?_eq_getElem hi] using q
  obtain ⟨i0, ei0⟩ := is_v hv0
  obtain rfl : w0 = (.int i0) := Option.some.inj ei0
  obtain ⟨i1, ei1⟩ := is_v hv1
  obtain rfl : w1 = (.int i1) := Option.some.inj ei1
  obtain ⟨i2, ei2⟩ := is_v hv2
  obtain rfl : w2 = (.int i2) := Option.some.inj ei2
  obtain ⟨i3, ei3⟩ := is_v hv3
  obtain rfl : w3 = (.int i3) := Option.some.inj ei3
  obtain ⟨i4, ei4⟩ := is_v hv4
  obtain rfl : w4 = (.int i4) := Option.some.inj ei4
  obtain ⟨z0, hn⟩ := and_e hn
  obtain ⟨z1, hn⟩ := and_e hn
  obtain ⟨z2, hn⟩ := and_e hn
  obtain ⟨z3, hn⟩ := and_e hn
  obtain ⟨z4, hn⟩ := and_e hn
  obtain ⟨z5, hn⟩ := and_e hn
  obtain ⟨z6, hn⟩ := and_e hn
  obtain ⟨z7, hn⟩ := and_e hn
  obtain ⟨z8, hn⟩ := and_e hn
  obtain ⟨z9, hn⟩ := and_e hn
  obtain ⟨z10, hn⟩ := and_e hn
  obtain ⟨z11, hn⟩ := and_e hn
  obtain ⟨z12, hn⟩ := and_e hn
  obtain ⟨z13, hn⟩ := and_e hn
  obtain ⟨z14, hn⟩ := and_e hn
  obtain ⟨z15, hn⟩ := and_e hn
  obtain ⟨z16, hn⟩ := and_e hn
  obtain ⟨z17, hn⟩ := and_e hn
  obtain ⟨z18, hn⟩ := and_e hn
  obtain ⟨z19, hn⟩ := and_e hn
  obtain ⟨z20, hn⟩ := and_e hn
  obtain ⟨z21, hn⟩ := and_e hn
  obtain ⟨z22, hn⟩ := and_e hn
  obtain ⟨z23, hn⟩ := and_e hn
  obtain ⟨z24, hn⟩ := and_e hn
  obtain ⟨z25, hn⟩ := and_e hn
  obtain ⟨z26, hn⟩ := and_e hn
  obtain ⟨z27, hn⟩ := and_e hn
  obtain ⟨z28, hn⟩ := and_e hn
  have z29 := hn
  obtain ⟨vaM, evM⟩ := arr_v z0
  obtain ⟨vcM, AM⟩ := Arr.start evM z0
  obtain ⟨xM0, pM0⟩ := own_con (hw _ (List.mem_of_getElem? (i := 11) rfl)) (hw _ (List.mem_of_getElem? (i := 22) rfl)) z3 z26
  obtain ⟨xM1, pM1⟩ := own_con (hw _ (List.mem_of_getElem? (i := 11) rfl)) (hw _ (List.mem_of_getElem? (i := 23) rfl)) z5 z28
  obtain ⟨xM2, pM2⟩ := own_con (hw _ (List.mem_of_getElem? (i := 11) rfl)) (hw _ (List.mem_of_getElem? (i := 24) rfl)) z7 z29
  obtain ⟨xM3, pM3⟩ := own_con (hw _ (List.mem_of_getElem? (i := 11) rfl)) (hw _ (List.mem_of_getElem? (i := 25) rfl)) z9 z27
  have EM : own_M s vaM xM0 xM1 xM2 xM3 vcM := ⟨Sta.start evM (Or.inr ⟨(hw _ (List.mem_of_getElem? (i := 11) rfl)), (hw _ (List.mem_of_getElem? (i := 14) rfl))⟩), AM, Exa.start evM z1, own_size evM AM z2, FitC.start hfit AM, pM0, pM1, pM2, pM3⟩
  obtain ⟨vaJ, evJ⟩ := arr_v z11
  obtain ⟨vcJ, AJ⟩ := Arr.start evJ z11
  obtain ⟨xJ0, pJ0⟩ := own_con (hw _ (List.mem_of_getElem? (i := 36) rfl)) (hw _ (List.mem_of_getElem? (i := 44) rfl)) z14 z22
  obtain ⟨xJ1, pJ1⟩ := own_con (hw _ (List.mem_of_getElem? (i := 36) rfl)) (hw _ (List.mem_of_getElem? (i := 45) rfl)) z16 z23
  obtain ⟨xJ2, pJ2⟩ := own_con (hw _ (List.mem_of_getElem? (i := 36) rfl)) (hw _ (List.mem_of_getElem? (i := 46) rfl)) z18 z24
  obtain ⟨xJ3, pJ3⟩ := own_con (hw _ (List.mem_of_getElem? (i := 36) rfl)) (hw _ (List.mem_of_getElem? (i := 47) rfl)) z20 z25
  have EJ : own_J s vaJ xJ0 xJ1 xJ2 xJ3 vcJ := ⟨Sta.start evJ (Or.inr ⟨(hw _ (List.mem_of_getElem? (i := 36) rfl)), (hw _ (List.mem_of_getElem? (i := 39) rfl))⟩), AJ, Exa.start evJ z12, own_size evJ AJ z13, FitC.start hfit AJ, pJ0, pJ1, pJ2, pJ3⟩
  obtain ⟨n, o, h1, h2, h3, _, L, rfl, ⟨rfl, N⟩, hq⟩ := rm0 l s _ hw i0 i1 i2 i3 i4 vaM xM0 xM1 xM2 xM3 vcM vaJ xJ0 xJ1 xJ2 xJ3 vcJ s.heap s.heap.size (Nat.le_refl _) (Old.start s) EM EJ p e ha hc hk s m _ below hf ((Spec.applies_iff_loose hf).mp happ).1 ⟨rfl, State.Warmed39.refl s, rfl⟩ trivial
  refine ⟨n, _, h1, h2, h3, hpost _ _ _ _ _ _ ⟨Cond.after_iff.mpr rfl, Cond.after_iff.mpr (eq_i res_at (Term.int_eval (1)) rfl), trivial⟩ ⟨hq.1, hq.2.1, (hq.2.2.sift fun y hy => Or.inr (N y hy)).mono (by decide) (by decide)⟩⟩
theorem main_1_1 : Claimed_1_1 := comes_1 fun _ _ _ _ _ _ h hF => ⟨h.1, hF⟩
theorem main_1_2 : Claimed_1_2 := comes_1 fun _ _ _ _ _ _ h hF => ⟨h.2.1, hF⟩
end Jvm.Pilot.@@N@@
namespace Jvm.Pilot.@@N@@
open Jvm Jvm.ClassFile Sem Op Lib Jvm.Free Jvm.Stand Jvm.Pilot.@@N@@.Jvm.D
/-! MADE BY PROGRAM (witnessworld.py) out of the Statement's table words and the real class files: 18 classes; the members and pool entries that the words name. The judged class is class 1, her method 4. -/
namespace start1
open Jvm.ClassFile
def u (s : String) : CpInfo := .utf8 (stringToUtf16 s)
/-- a pool by its gaps: so many unusable entries, then the entry; so many at the end -/
def gap : Nat → List CpInfo → List CpInfo
  | 0, r => r
  | n + 1, r => .unusable :: gap n r
def poolList (es : List (Nat × CpInfo)) (last : Nat) : List CpInfo := es.foldr (fun e r => gap e.1 (e.2 :: r)) (gap last [])
def pool (es : List (Nat × CpInfo)) (last : Nat) : Array CpInfo := ⟨poolList es last⟩
def fileOf (pool : Array CpInfo) (this : Nat) (attrs : Array Attribute := #[]) (ms : Array MethodInfo := #[]) (fl : Nat := 33) (sup : Nat := 0) (ifs : Array Nat := #[]) (fds : Array FieldInfo := #[]) : ClassFile where
  minorVersion := 0
  majorVersion := 65
  constantPool := pool
  accessFlags := fl
  thisClass := this
  superClass := sup
  interfaces := ifs
  fields := fds
  methods := ms
  attributes := attrs
def plain (name : String) (sup : Option ClassId) : Class where
  name := name
  kind := .ordinary
  loader := none
  accessFlags := 33
  super := sup
  interfaces := #[]
  cf := none
  fields := #[]
  methods := #[]
  instanceTypes := #[]
  staticTypes := #[]
  resolved := #[]
  callSites := []
  init := .initialized
  statics := none
  mirror := none

def pool0 : Array CpInfo := pool [(5, u "<init>"), (0, u "()V"), (1, .class_ 10), (1, u "java/lang/Object"), (85, u "clone"), (0, u "()Ljava/lang/Object;")] 26

def k0c0 : Code := { maxStack := 0, maxLocals := 1, code := object_method_1_code, exceptionTable := #[], attributes := #[] }
def k0m0 : Method := { name := "<init>", desc := "()V", sig := { parameters := [], returnType := none }, accessFlags := 1, code := some k0c0 }
def k0m1 : Method := { name := "clone", desc := "()Ljava/lang/Object;", sig := { parameters := [], returnType := some (.object "java/lang/Object") }, accessFlags := 260, code := none }
/-- java/lang/Object -/
def k0 : Class := { plain "java/lang/Object" none with
  accessFlags := 33
  interfaces := #[]
  cf := some (fileOf pool0 8 #[] #[{ accessFlags := 1, nameIndex := 5, descriptorIndex := 6, attributes := #[] }, { accessFlags := 260, nameIndex := 96, descriptorIndex := 97, attributes := #[] }] 33 0 #[] #[])
  fields := #[]
  methods := #[k0m0, k0m1]
  instanceTypes := #[]
  staticTypes := #[]
  resolved := Array.replicate 124 none
  statics := none }

def pool1 : Array CpInfo := pool [(2, .class_ 4), (0, .nameAndType 5 6), (0, u "java/lang/Object"), (0, u "<init>"), (0, u "()V"), (0, .fieldref 8 9), (0, .class_ 10), (0, .nameAndType 11 12), (0, u "com/example/electd/electd/io/Rejection"), (0, u "MALFORMED"), (0, u "Lcom/example/electd/electd/io/Rejection;"), (0, .fieldref 8 14), (0, .nameAndType 15 12), (0, u "BAD_TAG"), (0, .fieldref 8 17), (0, .nameAndType 18 12), (0, u "UNCONFIRMED"), (0, .fieldref 8 20), (0, .nameAndType 21 12), (0, u "REPLAYED"), (0, .fieldref 23 24), (0, .class_ 25), (0, .nameAndType 26 27), (0, u "com/example/electd/electd/model/MessageKind"), (0, u "REQUEST"), (0, u "Lcom/example/electd/electd/model/MessageKind;"), (0, .fieldref 23 29), (0, .nameAndType 30 27), (0, u "REPLY"), (0, .fieldref 23 32), (0, .nameAndType 33 27), (0, u "RELEASE"), (0, .fieldref 23 35), (0, .nameAndType 36 27), (0, u "HELLO"), (0, .class_ 38), (0, u "com/example/electd/electd/service/DatagramCounts"), (0, .methodref 37 3), (0, .methodref 41 42), (0, .class_ 43), (0, .nameAndType 44 45), (0, u "com/example/electd/electd/service/DatagramCountsRejectedPinLaw"), (0, u "reason"), (0, u "(I)Lcom/example/electd/electd/io/Rejection;"), (0, .methodref 37 47), (0, .nameAndType 48 49), (0, u "rejected"), (0, u "(Lcom/example/electd/electd/io/Rejection;)V"), (0, .methodref 37 51), (0, .nameAndType 52 53), (0, u "getRejected"), (0, u "(Lcom/example/electd/electd/io/Rejection;)J"), (0, .methodref 41 55), (0, .nameAndType 56 57), (0, u "expected"), (0, u "(IIIII)J"), (0, .methodref 41 59), (0, .nameAndType 60 61), (0, u "kind"), (0, u "(I)Lcom/example/electd/electd/model/MessageKind;"), (0, .methodref 37 63), (0, .nameAndType 64 65), (0, u "getSent"), (0, u "(Lcom/example/electd/electd/model/MessageKind;)J"), (0, .methodref 37 67), (0, .nameAndType 68 65), (0, u "getReceived"), (3, u "law"), (0, u "(IIIII)Z")] 2

def k1m0 : Method := { name := "<init>", desc := "()V", sig := { parameters := [], returnType := none }, accessFlags := 1, code := none }
def k1c1 : Code := { maxStack := 2, maxLocals := 2, code := method_2_code, exceptionTable := #[], attributes := #[] }
def k1m1 : Method := { name := "reason", desc := "(I)Lcom/example/electd/electd/io/Rejection;", sig := { parameters := [.int], returnType := some (.object "com/example/electd/electd/io/Rejection") }, accessFlags := 10, code := some k1c1 }
def k1c2 : Code := { maxStack := 2, maxLocals := 2, code := method_3_code, exceptionTable := #[], attributes := #[] }
def k1m2 : Method := { name := "kind", desc := "(I)Lcom/example/electd/electd/model/MessageKind;", sig := { parameters := [.int], returnType := some (.object "com/example/electd/electd/model/MessageKind") }, accessFlags := 10, code := some k1c2 }
def k1c3 : Code := { maxStack := 4, maxLocals := 7, code := method_4_code, exceptionTable := #[], attributes := #[] }
def k1m3 : Method := { name := "expected", desc := "(IIIII)J", sig := { parameters := [.int, .int, .int, .int, .int], returnType := some .long }, accessFlags := 10, code := some k1c3 }
def k1c4 : Code := { maxStack := 7, maxLocals := 9, code := code, exceptionTable := #[], attributes := #[] }
def k1m4 : Method := { name := "law", desc := "(IIIII)Z", sig := { parameters := [.int, .int, .int, .int, .int], returnType := some .boolean }, accessFlags := 9, code := some k1c4 }
/-- com/example/electd/electd/service/DatagramCountsRejectedPinLaw -/
def k1 : Class := { plain "com/example/electd/electd/service/DatagramCountsRejectedPinLaw" (some 0) with
  accessFlags := 49
  interfaces := #[]
  cf := some (fileOf pool1 41 #[] #[{ accessFlags := 1, nameIndex := 5, descriptorIndex := 6, attributes := #[] }, { accessFlags := 10, nameIndex := 44, descriptorIndex := 45, attributes := #[] }, { accessFlags := 10, nameIndex := 60, descriptorIndex := 61, attributes := #[] }, { accessFlags := 10, nameIndex := 56, descriptorIndex := 57, attributes := #[] }, { accessFlags := 9, nameIndex := 72, descriptorIndex := 73, attributes := #[] }] 49 2 #[] #[])
  fields := #[]
  methods := #[k1m0, k1m1, k1m2, k1m3, k1m4]
  instanceTypes := #[]
  staticTypes := #[]
  resolved := Array.replicate 76 none
  statics := none }

def pool2 : Array CpInfo := pool [(1, .methodref 2 3), (0, .class_ 4), (0, .nameAndType 5 6), (0, u "java/lang/Object"), (0, u "<init>"), (0, u "()V"), (0, .methodref 8 9), (0, .class_ 10), (0, .nameAndType 11 12), (0, u "com/example/electd/electd/model/MessageKind"), (0, u "values"), (0, u "()[Lcom/example/electd/electd/model/MessageKind;"), (0, .fieldref 14 15), (0, .class_ 16), (0, .nameAndType 17 18), (0, u "com/example/electd/electd/service/DatagramCounts"), (0, u "sent"), (0, u "[J"), (0, .fieldref 14 20), (0, .nameAndType 21 18), (0, u "received"), (0, .methodref 23 24), (0, .class_ 25), (0, .nameAndType 11 26), (0, u "com/example/electd/electd/io/Rejection"), (0, u "()[Lcom/example/electd/electd/io/Rejection;"), (0, .fieldref 14 28), (0, .nameAndType 29 18), (0, u "rejected"), (6, .methodref 8 37), (0, .nameAndType 38 39), (0, u "ordinal"), (0, u "()I"), (0, .methodref 23 37), (10, u "(Lcom/example/electd/electd/io/Rejection;)V"), (2, u "getSent"), (0, u "(Lcom/example/electd/electd/model/MessageKind;)J"), (0, u "getReceived"), (0, u "getRejected"), (0, u "(Lcom/example/electd/electd/io/Rejection;)J")] 2

def k2c0 : Code := { maxStack := 2, maxLocals := 1, code := prog_25_method_1_code, exceptionTable := #[], attributes := #[] }
def k2m0 : Method := { name := "<init>", desc := "()V", sig := { parameters := [], returnType := none }, accessFlags := 0, code := some k2c0 }
def k2c1 : Code := { maxStack := 6, maxLocals := 2, code := prog_25_method_4_code, exceptionTable := #[], attributes := #[] }
def k2m1 : Method := { name := "rejected", desc := "(Lcom/example/electd/electd/io/Rejection;)V", sig := { parameters := [(.object "com/example/electd/electd/io/Rejection")], returnType := none }, accessFlags := 0, code := some k2c1 }
def k2c2 : Code := { maxStack := 2, maxLocals := 2, code := prog_25_method_6_code, exceptionTable := #[], attributes := #[] }
def k2m2 : Method := { name := "getSent", desc := "(Lcom/example/electd/electd/model/MessageKind;)J", sig := { parameters := [(.object "com/example/electd/electd/model/MessageKind")], returnType := some .long }, accessFlags := 0, code := some k2c2 }
def k2c3 : Code := { maxStack := 2, maxLocals := 2, code := prog_25_method_7_code, exceptionTable := #[], attributes := #[] }
def k2m3 : Method := { name := "getReceived", desc := "(Lcom/example/electd/electd/model/MessageKind;)J", sig := { parameters := [(.object "com/example/electd/electd/model/MessageKind")], returnType := some .long }, accessFlags := 0, code := some k2c3 }
def k2c4 : Code := { maxStack := 2, maxLocals := 2, code := prog_25_method_8_code, exceptionTable := #[], attributes := #[] }
def k2m4 : Method := { name := "getRejected", desc := "(Lcom/example/electd/electd/io/Rejection;)J", sig := { parameters := [(.object "com/example/electd/electd/io/Rejection")], returnType := some .long }, accessFlags := 0, code := some k2c4 }
/-- com/example/electd/electd/service/DatagramCounts -/
def k2 : Class := { plain "com/example/electd/electd/service/DatagramCounts" (some 0) with
  accessFlags := 48
  interfaces := #[]
  cf := some (fileOf pool2 14 #[] #[{ accessFlags := 0, nameIndex := 5, descriptorIndex := 6, attributes := #[] }, { accessFlags := 0, nameIndex := 29, descriptorIndex := 51, attributes := #[] }, { accessFlags := 0, nameIndex := 54, descriptorIndex := 55, attributes := #[] }, { accessFlags := 0, nameIndex := 56, descriptorIndex := 55, attributes := #[] }, { accessFlags := 0, nameIndex := 57, descriptorIndex := 58, attributes := #[] }] 48 2 #[] #[{ accessFlags := 18, nameIndex := 17, descriptorIndex := 18, attributes := #[] }, { accessFlags := 18, nameIndex := 21, descriptorIndex := 18, attributes := #[] }, { accessFlags := 18, nameIndex := 29, descriptorIndex := 18, attributes := #[] }])
  fields := #[{ name := "sent", type := (.array .long), accessFlags := 18, slot := 0, constantValue := 0 }, { name := "received", type := (.array .long), accessFlags := 18, slot := 1, constantValue := 0 }, { name := "rejected", type := (.array .long), accessFlags := 18, slot := 2, constantValue := 0 }]
  methods := #[k2m0, k2m1, k2m2, k2m3, k2m4]
  instanceTypes := #[(.array .long), (.array .long), (.array .long)]
  staticTypes := #[]
  resolved := Array.replicate 61 none
  statics := none }

def pool3 : Array CpInfo := pool [(1, .class_ 2), (0, u "java/lang/constant/Constable"), (0, .class_ 4), (0, u "java/lang/Object")] 6

/-- java/lang/constant/Constable -/
def k3 : Class := { plain "java/lang/constant/Constable" (some 0) with
  accessFlags := 1537
  interfaces := #[]
  cf := some (fileOf pool3 1 #[] #[] 1537 3 #[] #[])
  fields := #[]
  methods := #[]
  instanceTypes := #[]
  staticTypes := #[]
  resolved := Array.replicate 11 none
  statics := none }

def pool4 : Array CpInfo := pool [(1, .class_ 2), (0, u "java/lang/Comparable"), (0, .class_ 4), (0, u "java/lang/Object")] 7

/-- java/lang/Comparable -/
def k4 : Class := { plain "java/lang/Comparable" (some 0) with
  accessFlags := 1537
  interfaces := #[]
  cf := some (fileOf pool4 1 #[] #[] 1537 3 #[] #[])
  fields := #[]
  methods := #[]
  instanceTypes := #[]
  staticTypes := #[]
  resolved := Array.replicate 12 none
  statics := none }

def pool5 : Array CpInfo := pool [(1, .class_ 2), (0, u "java/io/Serializable"), (0, .class_ 4), (0, u "java/lang/Object")] 2

/-- java/io/Serializable -/
def k5 : Class := { plain "java/io/Serializable" (some 0) with
  accessFlags := 1537
  interfaces := #[]
  cf := some (fileOf pool5 1 #[] #[] 1537 3 #[] #[])
  fields := #[]
  methods := #[]
  instanceTypes := #[]
  staticTypes := #[]
  resolved := Array.replicate 7 none
  statics := none }

def pool6 : Array CpInfo := pool [(2, .class_ 4), (1, u "java/lang/Enum"), (0, u "name"), (0, u "Ljava/lang/String;"), (0, .fieldref 2 8), (0, .nameAndType 9 10), (0, u "ordinal"), (0, u "I"), (1, .class_ 14), (1, u "java/lang/Object"), (4, u "hash"), (86, .class_ 108), (1, u "java/lang/Enum$EnumDesc"), (2, .class_ 112), (0, u "java/lang/constant/Constable"), (0, .class_ 114), (0, u "java/lang/Comparable"), (0, .class_ 116), (0, u "java/io/Serializable"), (9, u "()I")] 77

def k6c0 : Code := { maxStack := 1, maxLocals := 1, code := jdk_37_method_2_code, exceptionTable := #[], attributes := #[] }
def k6m0 : Method := { name := "ordinal", desc := "()I", sig := { parameters := [], returnType := some .int }, accessFlags := 17, code := some k6c0 }
/-- java/lang/Enum -/
def k6 : Class := { plain "java/lang/Enum" (some 0) with
  accessFlags := 1057
  interfaces := #[3, 4, 5]
  cf := some (fileOf pool6 2 #[.nestMembers #[106]] #[{ accessFlags := 17, nameIndex := 9, descriptorIndex := 126, attributes := #[] }] 1057 12 #[111, 113, 115] #[{ accessFlags := 18, nameIndex := 5, descriptorIndex := 6, attributes := #[] }, { accessFlags := 18, nameIndex := 9, descriptorIndex := 10, attributes := #[] }, { accessFlags := 2, nameIndex := 19, descriptorIndex := 10, attributes := #[] }])
  fields := #[{ name := "name", type := (.object "java/lang/String"), accessFlags := 18, slot := 0, constantValue := 0 }, { name := "ordinal", type := .int, accessFlags := 18, slot := 1, constantValue := 0 }, { name := "hash", type := .int, accessFlags := 2, slot := 2, constantValue := 0 }]
  methods := #[k6m0]
  instanceTypes := #[(.object "java/lang/String"), .int, .int]
  staticTypes := #[]
  resolved := Array.replicate 204 none
  statics := none }

def pool7 : Array CpInfo := pool [(1, .class_ 2), (0, u "com/example/electd/electd/model/MessageKind"), (2, u "REQUEST"), (0, u "Lcom/example/electd/electd/model/MessageKind;"), (2, u "REPLY"), (2, u "RELEASE"), (2, u "HELLO"), (0, .fieldref 1 17), (0, .nameAndType 18 19), (0, u "$VALUES"), (0, u "[Lcom/example/electd/electd/model/MessageKind;"), (0, .methodref 21 22), (0, .class_ 19), (0, .nameAndType 23 24), (0, u "clone"), (0, u "()Ljava/lang/Object;"), (1, .class_ 28), (1, u "java/lang/Enum"), (8, u "text"), (0, u "Ljava/lang/String;"), (18, u "()[Lcom/example/electd/electd/model/MessageKind;"), (0, u "values")] 13

def k7c0 : Code := { maxStack := 1, maxLocals := 0, code := prog_16_method_1_code, exceptionTable := #[], attributes := #[] }
def k7m0 : Method := { name := "values", desc := "()[Lcom/example/electd/electd/model/MessageKind;", sig := { parameters := [], returnType := some (.array (.object "com/example/electd/electd/model/MessageKind")) }, accessFlags := 9, code := some k7c0 }
/-- com/example/electd/electd/model/MessageKind -/
def k7 : Class := { plain "com/example/electd/electd/model/MessageKind" (some 6) with
  accessFlags := 16433
  interfaces := #[]
  cf := some (fileOf pool7 1 #[] #[{ accessFlags := 9, nameIndex := 58, descriptorIndex := 57, attributes := #[] }] 16433 26 #[] #[{ accessFlags := 16409, nameIndex := 5, descriptorIndex := 6, attributes := #[] }, { accessFlags := 16409, nameIndex := 9, descriptorIndex := 6, attributes := #[] }, { accessFlags := 16409, nameIndex := 12, descriptorIndex := 6, attributes := #[] }, { accessFlags := 16409, nameIndex := 15, descriptorIndex := 6, attributes := #[] }, { accessFlags := 18, nameIndex := 37, descriptorIndex := 38, attributes := #[] }, { accessFlags := 4122, nameIndex := 18, descriptorIndex := 19, attributes := #[] }])
  fields := #[{ name := "REQUEST", type := (.object "com/example/electd/electd/model/MessageKind"), accessFlags := 16409, slot := 0, constantValue := 0 }, { name := "REPLY", type := (.object "com/example/electd/electd/model/MessageKind"), accessFlags := 16409, slot := 1, constantValue := 0 }, { name := "RELEASE", type := (.object "com/example/electd/electd/model/MessageKind"), accessFlags := 16409, slot := 2, constantValue := 0 }, { name := "HELLO", type := (.object "com/example/electd/electd/model/MessageKind"), accessFlags := 16409, slot := 3, constantValue := 0 }, { name := "text", type := (.object "java/lang/String"), accessFlags := 18, slot := 3, constantValue := 0 }, { name := "$VALUES", type := (.array (.object "com/example/electd/electd/model/MessageKind")), accessFlags := 4122, slot := 4, constantValue := 0 }]
  methods := #[k7m0]
  instanceTypes := #[(.object "java/lang/String"), .int, .int, (.object "java/lang/String")]
  staticTypes := #[(.object "com/example/electd/electd/model/MessageKind"), (.object "com/example/electd/electd/model/MessageKind"), (.object "com/example/electd/electd/model/MessageKind"), (.object "com/example/electd/electd/model/MessageKind"), (.array (.object "com/example/electd/electd/model/MessageKind"))]
  resolved := Array.replicate 72 none
  statics := some 0 }

def pool8 : Array CpInfo := pool [(1, .class_ 2), (0, u "java/lang/Cloneable"), (0, .class_ 4), (0, u "java/lang/Object")] 2

/-- java/lang/Cloneable -/
def k8 : Class := { plain "java/lang/Cloneable" (some 0) with
  accessFlags := 1537
  interfaces := #[]
  cf := some (fileOf pool8 1 #[] #[] 1537 3 #[] #[])
  fields := #[]
  methods := #[]
  instanceTypes := #[]
  staticTypes := #[]
  resolved := Array.replicate 7 none
  statics := none }

def pool9 : Array CpInfo := pool [(1, .class_ 2), (0, u "com/example/electd/electd/io/Rejection"), (2, u "MALFORMED"), (0, u "Lcom/example/electd/electd/io/Rejection;"), (2, u "BAD_TAG"), (2, u "UNCONFIRMED"), (2, u "REPLAYED"), (0, .fieldref 1 17), (0, .nameAndType 18 19), (0, u "$VALUES"), (0, u "[Lcom/example/electd/electd/io/Rejection;"), (0, .methodref 21 22), (0, .class_ 19), (0, .nameAndType 23 24), (0, u "clone"), (0, u "()Ljava/lang/Object;"), (1, .class_ 28), (1, u "java/lang/Enum"), (8, u "text"), (0, u "Ljava/lang/String;"), (18, u "()[Lcom/example/electd/electd/io/Rejection;"), (0, u "values")] 13

def k9c0 : Code := { maxStack := 1, maxLocals := 0, code := prog_4_method_1_code, exceptionTable := #[], attributes := #[] }
def k9m0 : Method := { name := "values", desc := "()[Lcom/example/electd/electd/io/Rejection;", sig := { parameters := [], returnType := some (.array (.object "com/example/electd/electd/io/Rejection")) }, accessFlags := 9, code := some k9c0 }
/-- com/example/electd/electd/io/Rejection -/
def k9 : Class := { plain "com/example/electd/electd/io/Rejection" (some 6) with
  accessFlags := 16433
  interfaces := #[]
  cf := some (fileOf pool9 1 #[] #[{ accessFlags := 9, nameIndex := 58, descriptorIndex := 57, attributes := #[] }] 16433 26 #[] #[{ accessFlags := 16409, nameIndex := 5, descriptorIndex := 6, attributes := #[] }, { accessFlags := 16409, nameIndex := 9, descriptorIndex := 6, attributes := #[] }, { accessFlags := 16409, nameIndex := 12, descriptorIndex := 6, attributes := #[] }, { accessFlags := 16409, nameIndex := 15, descriptorIndex := 6, attributes := #[] }, { accessFlags := 18, nameIndex := 37, descriptorIndex := 38, attributes := #[] }, { accessFlags := 4122, nameIndex := 18, descriptorIndex := 19, attributes := #[] }])
  fields := #[{ name := "MALFORMED", type := (.object "com/example/electd/electd/io/Rejection"), accessFlags := 16409, slot := 0, constantValue := 0 }, { name := "BAD_TAG", type := (.object "com/example/electd/electd/io/Rejection"), accessFlags := 16409, slot := 1, constantValue := 0 }, { name := "UNCONFIRMED", type := (.object "com/example/electd/electd/io/Rejection"), accessFlags := 16409, slot := 2, constantValue := 0 }, { name := "REPLAYED", type := (.object "com/example/electd/electd/io/Rejection"), accessFlags := 16409, slot := 3, constantValue := 0 }, { name := "text", type := (.object "java/lang/String"), accessFlags := 18, slot := 3, constantValue := 0 }, { name := "$VALUES", type := (.array (.object "com/example/electd/electd/io/Rejection")), accessFlags := 4122, slot := 4, constantValue := 0 }]
  methods := #[k9m0]
  instanceTypes := #[(.object "java/lang/String"), .int, .int, (.object "java/lang/String")]
  staticTypes := #[(.object "com/example/electd/electd/io/Rejection"), (.object "com/example/electd/electd/io/Rejection"), (.object "com/example/electd/electd/io/Rejection"), (.object "com/example/electd/electd/io/Rejection"), (.array (.object "com/example/electd/electd/io/Rejection"))]
  resolved := Array.replicate 72 none
  statics := some 1 }

/-- the primitive byte -/
def k10 : Class := { plain "byte" none with kind := .primitive 'B', accessFlags := 0x411 }
/-- [B -/
def k11 : Class := { plain "[B" (some 0) with kind := .array 10 .byte, interfaces := #[8, 5], accessFlags := 1041 }

/-- the primitive int -/
def k12 : Class := { plain "int" none with kind := .primitive 'I', accessFlags := 0x411 }
/-- [I -/
def k13 : Class := { plain "[I" (some 0) with kind := .array 12 .int, interfaces := #[8, 5], accessFlags := 1041 }

/-- the primitive long -/
def k14 : Class := { plain "long" none with kind := .primitive 'J', accessFlags := 0x411 }
/-- [J -/
def k15 : Class := { plain "[J" (some 0) with kind := .array 14 .long, interfaces := #[8, 5], accessFlags := 1041 }

/-- [Lcom/example/electd/electd/io/Rejection; -/
def k16 : Class := { plain "[Lcom/example/electd/electd/io/Rejection;" (some 0) with kind := .array 9 (.object "com/example/electd/electd/io/Rejection"), interfaces := #[8, 5], accessFlags := 1041 }

/-- [Lcom/example/electd/electd/model/MessageKind; -/
def k17 : Class := { plain "[Lcom/example/electd/electd/model/MessageKind;" (some 0) with kind := .array 7 (.object "com/example/electd/electd/model/MessageKind"), interfaces := #[8, 5], accessFlags := 1041 }

def heap : Heap := #[{ cls := 7, slots := #[.ref 4, .ref 5, .ref 6, .ref 7, .ref 2], vm := .statics 7 },
  { cls := 9, slots := #[.ref 8, .ref 9, .ref 10, .ref 11, .ref 3], vm := .statics 9 },
  { cls := 17, slots := #[.ref 4, .ref 5, .ref 6, .ref 7], vm := .none },
  { cls := 16, slots := #[.ref 8, .ref 9, .ref 10, .ref 11], vm := .none },
  { cls := 7, slots := #[.null, .int 0, .int 0, .null], vm := .none },
  { cls := 7, slots := #[.null, .int 1, .int 0, .null], vm := .none },
  { cls := 7, slots := #[.null, .int 2, .int 0, .null], vm := .none },
  { cls := 7, slots := #[.null, .int 3, .int 0, .null], vm := .none },
  { cls := 9, slots := #[.null, .int 0, .int 0, .null], vm := .none },
  { cls := 9, slots := #[.null, .int 1, .int 0, .null], vm := .none },
  { cls := 9, slots := #[.null, .int 2, .int 0, .null], vm := .none },
  { cls := 9, slots := #[.null, .int 3, .int 0, .null], vm := .none }]
def classes : Array Class := #[k0, k1, k2, k3, k4, k5, k6, k7, k8, k9, k10, k11, k12, k13, k14, k15, k16, k17]
def interned : List (Array UInt16 × Addr) := []
def slotsUsed : Nat := 50
def theMethod : MethodId := ⟨1, 4⟩
def args0 : Array Value := #[.int 5, .int 7, .int 7, .int 5, .int 7]
def aboutOver (below : List Frame) : State where
  vm := { classes := classes, interned := interned.toArray }
  heap := heap
  slotsUsed := slotsUsed
  threads := #[{ frames := .invoking theMethod args0 :: below }]
def below0 : List Frame := [.native { method := ⟨0, 0⟩, args := #[] }]
def about1 : State := aboutOver below0
def p0 : Program := .bare "" "" ""
def e0 : Env := launch0.env 0 0 0
theorem w_frames : about1.frames = Frame.invoking theMethod args0 :: below0 := rfl
set_option maxRecDepth 65536 in
theorem w_args : argsFit about1.vm theMethod args0 = true := by decide +kernel
set_option maxRecDepth 65536 in
theorem w_heap : heapFits about1 = true := by decide +kernel
set_option maxRecDepth 65536 in
theorem w_runnable : about1.curStatus? = some .runnable := by decide +kernel
set_option maxRecDepth 65536 in
theorem w_alone : about1.alone = true := by decide +kernel
set_option maxRecDepth 65536 in
theorem w_named : about1.methodNamed? x = some theMethod := by decide +kernel
set_option maxRecDepth 65536 in
theorem w_hears : about1.hears theMethod below0 = true := by decide +kernel
set_option maxRecDepth 65536 in
theorem w_ripe : about1.ripe theMethod args0 below0 = true := by decide +kernel
theorem w_running : about1.status = .running := rfl
set_option maxRecDepth 65536 in
theorem w_room : about1.hasRoom e0.platform room_1 = true :=
  launch0.hasRoom_least _ room_1 (by decide +kernel) (by decide +kernel) (by decide +kernel) (by decide +kernel) (by decide +kernel) (by decide +kernel)
theorem allAtoms_all (ts : List Jvm.Cond) (a : Array Jvm.Value) (st : Jvm.State) : (allAtoms ts).before a st = ts.all (fun c => c.before a st) := by
  induction ts with
  | nil => rfl
  | cons c t ih =>
    show (Jvm.Cond.and c (allAtoms t)).before a st = _
    rw [Jvm.Cond.before_and, ih, List.all_cons]
def words1 : List Jvm.Cond := Jvm.Cond.code x code maxLocals ret :: tables_1
/-- a 'code' word, met by the world's own term for the bytes: nothing is compared byte by byte -/
theorem code_word {y : MethodName} {bytes : ByteArray} {mx : Nat} {rt : Option FieldType} {a : Array Value} {s : State} {m : MethodId} {meth : Method} {c : Code} (h1 : s.methodNamed? y = some m) (h2 : s.vm.method? m = some meth) (h3 : meth.code = some c) (h4 : c.code = bytes)
    (h5 : (c.maxLocals == mx && c.exceptionTable.isEmpty && decide (c.maxStack ≤ mostOperands) && decide (meth.sig.returnType = rt) && !meth.locks && decide (parseMethodDescriptor y.desc = some meth.sig)) = true) : (Jvm.Cond.code y bytes mx rt).before a s = true := by
  simp only [Bool.and_eq_true, beq_iff_eq, Bool.not_eq_true', decide_eq_true_eq] at h5
  obtain ⟨⟨⟨⟨⟨g1, g2⟩, g3⟩, g4⟩, g5⟩, g6⟩ := h5
  simp [Cond.before, Cond.holds, Cond.value, h1, h2, h3, h4, g1, g2, g3, g4, g5, g6]
def isCode : Jvm.Cond → Bool
  | .code _ _ _ _ => true
  | _ => false
theorem all_split {L : List Jvm.Cond} {P : Jvm.Cond → Bool} (h1 : L.all (fun c => isCode c || P c) = true) (h2 : ∀ c ∈ L.filter isCode, P c = true) : L.all P = true := by
  refine List.all_eq_true.mpr fun c hc => ?_
  have h := List.all_eq_true.mp h1 c hc
  rcases Bool.eq_false_or_eq_true (isCode c) with hi | hi
  · exact h2 c (List.mem_filter.mpr ⟨hc, hi⟩)
  · simpa [hi] using h
set_option maxRecDepth 65536 in
theorem w_c0 : (Jvm.Cond.code x code maxLocals ret).before args0 about1 = true := code_word (m := ⟨1, 4⟩) (meth := k1m4) (c := k1c4) (by decide +kernel) rfl rfl rfl (by decide +kernel)
set_option maxRecDepth 65536 in
theorem w_c1 : (Jvm.Cond.code ({ cls := "com/example/electd/electd/service/DatagramCounts", name := "<init>", desc := "()V" } : Jvm.MethodName) prog_25_method_1_code (1 : Nat) (Option.none : Option Jvm.ClassFile.FieldType)).before args0 about1 = true := code_word (m := ⟨2, 0⟩) (meth := k2m0) (c := k2c0) (by decide +kernel) rfl rfl rfl (by decide +kernel)
set_option maxRecDepth 65536 in
theorem w_c2 : (Jvm.Cond.code ({ cls := "java/lang/Object", name := "<init>", desc := "()V" } : Jvm.MethodName) object_method_1_code (1 : Nat) (Option.none : Option Jvm.ClassFile.FieldType)).before args0 about1 = true := code_word (m := ⟨0, 0⟩) (meth := k0m0) (c := k0c0) (by decide +kernel) rfl rfl rfl (by decide +kernel)
set_option maxRecDepth 65536 in
theorem w_c3 : (Jvm.Cond.code ({ cls := "com/example/electd/electd/model/MessageKind", name := "values", desc := "()[Lcom/example/electd/electd/model/MessageKind;" } : Jvm.MethodName) prog_16_method_1_code (0 : Nat) (Option.some (Jvm.ClassFile.FieldType.array (Jvm.ClassFile.FieldType.object "com/example/electd/electd/model/MessageKind")))).before args0 about1 = true := code_word (m := ⟨7, 0⟩) (meth := k7m0) (c := k7c0) (by decide +kernel) rfl rfl rfl (by decide +kernel)
set_option maxRecDepth 65536 in
theorem w_c4 : (Jvm.Cond.code ({ cls := "com/example/electd/electd/io/Rejection", name := "values", desc := "()[Lcom/example/electd/electd/io/Rejection;" } : Jvm.MethodName) prog_4_method_1_code (0 : Nat) (Option.some (Jvm.ClassFile.FieldType.array (Jvm.ClassFile.FieldType.object "com/example/electd/electd/io/Rejection")))).before args0 about1 = true := code_word (m := ⟨9, 0⟩) (meth := k9m0) (c := k9c0) (by decide +kernel) rfl rfl rfl (by decide +kernel)
set_option maxRecDepth 65536 in
theorem w_c5 : (Jvm.Cond.code ({ cls := "com/example/electd/electd/service/DatagramCountsRejectedPinLaw", name := "reason", desc := "(I)Lcom/example/electd/electd/io/Rejection;" } : Jvm.MethodName) method_2_code (2 : Nat) (Option.some (Jvm.ClassFile.FieldType.object "com/example/electd/electd/io/Rejection"))).before args0 about1 = true := code_word (m := ⟨1, 1⟩) (meth := k1m1) (c := k1c1) (by decide +kernel) rfl rfl rfl (by decide +kernel)
set_option maxRecDepth 65536 in
theorem w_c6 : (Jvm.Cond.code ({ cls := "com/example/electd/electd/service/DatagramCounts", name := "rejected", desc := "(Lcom/example/electd/electd/io/Rejection;)V" } : Jvm.MethodName) prog_25_method_4_code (2 : Nat) (Option.none : Option Jvm.ClassFile.FieldType)).before args0 about1 = true := code_word (m := ⟨2, 1⟩) (meth := k2m1) (c := k2c1) (by decide +kernel) rfl rfl rfl (by decide +kernel)
set_option maxRecDepth 65536 in
theorem w_c7 : (Jvm.Cond.code ({ cls := "java/lang/Enum", name := "ordinal", desc := "()I" } : Jvm.MethodName) jdk_37_method_2_code (1 : Nat) (Option.some Jvm.ClassFile.FieldType.int)).before args0 about1 = true := code_word (m := ⟨6, 0⟩) (meth := k6m0) (c := k6c0) (by decide +kernel) rfl rfl rfl (by decide +kernel)
set_option maxRecDepth 65536 in
theorem w_c8 : (Jvm.Cond.code ({ cls := "com/example/electd/electd/service/DatagramCounts", name := "getRejected", desc := "(Lcom/example/electd/electd/io/Rejection;)J" } : Jvm.MethodName) prog_25_method_8_code (2 : Nat) (Option.some Jvm.ClassFile.FieldType.long)).before args0 about1 = true := code_word (m := ⟨2, 4⟩) (meth := k2m4) (c := k2c4) (by decide +kernel) rfl rfl rfl (by decide +kernel)
set_option maxRecDepth 65536 in
theorem w_c9 : (Jvm.Cond.code ({ cls := "com/example/electd/electd/service/DatagramCountsRejectedPinLaw", name := "expected", desc := "(IIIII)J" } : Jvm.MethodName) method_4_code (7 : Nat) (Option.some Jvm.ClassFile.FieldType.long)).before args0 about1 = true := code_word (m := ⟨1, 3⟩) (meth := k1m3) (c := k1c3) (by decide +kernel) rfl rfl rfl (by decide +kernel)
set_option maxRecDepth 65536 in
theorem w_c10 : (Jvm.Cond.code ({ cls := "com/example/electd/electd/service/DatagramCountsRejectedPinLaw", name := "kind", desc := "(I)Lcom/example/electd/electd/model/MessageKind;" } : Jvm.MethodName) method_3_code (2 : Nat) (Option.some (Jvm.ClassFile.FieldType.object "com/example/electd/electd/model/MessageKind"))).before args0 about1 = true := code_word (m := ⟨1, 2⟩) (meth := k1m2) (c := k1c2) (by decide +kernel) rfl rfl rfl (by decide +kernel)
set_option maxRecDepth 65536 in
theorem w_c11 : (Jvm.Cond.code ({ cls := "com/example/electd/electd/service/DatagramCounts", name := "getSent", desc := "(Lcom/example/electd/electd/model/MessageKind;)J" } : Jvm.MethodName) prog_25_method_6_code (2 : Nat) (Option.some Jvm.ClassFile.FieldType.long)).before args0 about1 = true := code_word (m := ⟨2, 2⟩) (meth := k2m2) (c := k2c2) (by decide +kernel) rfl rfl rfl (by decide +kernel)
set_option maxRecDepth 65536 in
theorem w_c12 : (Jvm.Cond.code ({ cls := "com/example/electd/electd/service/DatagramCounts", name := "getReceived", desc := "(Lcom/example/electd/electd/model/MessageKind;)J" } : Jvm.MethodName) prog_25_method_7_code (2 : Nat) (Option.some Jvm.ClassFile.FieldType.long)).before args0 about1 = true := code_word (m := ⟨2, 3⟩) (meth := k2m3) (c := k2c3) (by decide +kernel) rfl rfl rfl (by decide +kernel)
def codes1 : List Jvm.Cond := [Jvm.Cond.code x code maxLocals ret, Jvm.Cond.code ({ cls := "com/example/electd/electd/service/DatagramCounts", name := "<init>", desc := "()V" } : Jvm.MethodName) prog_25_method_1_code (1 : Nat) (Option.none : Option Jvm.ClassFile.FieldType), Jvm.Cond.code ({ cls := "java/lang/Object", name := "<init>", desc := "()V" } : Jvm.MethodName) object_method_1_code (1 : Nat) (Option.none : Option Jvm.ClassFile.FieldType), Jvm.Cond.code ({ cls := "com/example/electd/electd/model/MessageKind", name := "values", desc := "()[Lcom/example/electd/electd/model/MessageKind;" } : Jvm.MethodName) prog_16_method_1_code (0 : Nat) (Option.some (Jvm.ClassFile.FieldType.array (Jvm.ClassFile.FieldType.object "com/example/electd/electd/model/MessageKind"))), Jvm.Cond.code ({ cls := "com/example/electd/electd/io/Rejection", name := "values", desc := "()[Lcom/example/electd/electd/io/Rejection;" } : Jvm.MethodName) prog_4_method_1_code (0 : Nat) (Option.some (Jvm.ClassFile.FieldType.array (Jvm.ClassFile.FieldType.object "com/example/electd/electd/io/Rejection"))), Jvm.Cond.code ({ cls := "com/example/electd/electd/service/DatagramCountsRejectedPinLaw", name := "reason", desc := "(I)Lcom/example/electd/electd/io/Rejection;" } : Jvm.MethodName) method_2_code (2 : Nat) (Option.some (Jvm.ClassFile.FieldType.object "com/example/electd/electd/io/Rejection")), Jvm.Cond.code ({ cls := "com/example/electd/electd/service/DatagramCounts", name := "rejected", desc := "(Lcom/example/electd/electd/io/Rejection;)V" } : Jvm.MethodName) prog_25_method_4_code (2 : Nat) (Option.none : Option Jvm.ClassFile.FieldType), Jvm.Cond.code ({ cls := "java/lang/Enum", name := "ordinal", desc := "()I" } : Jvm.MethodName) jdk_37_method_2_code (1 : Nat) (Option.some Jvm.ClassFile.FieldType.int), Jvm.Cond.code ({ cls := "com/example/electd/electd/service/DatagramCounts", name := "getRejected", desc := "(Lcom/example/electd/electd/io/Rejection;)J" } : Jvm.MethodName) prog_25_method_8_code (2 : Nat) (Option.some Jvm.ClassFile.FieldType.long), Jvm.Cond.code ({ cls := "com/example/electd/electd/service/DatagramCountsRejectedPinLaw", name := "expected", desc := "(IIIII)J" } : Jvm.MethodName) method_4_code (7 : Nat) (Option.some Jvm.ClassFile.FieldType.long), Jvm.Cond.code ({ cls := "com/example/electd/electd/service/DatagramCountsRejectedPinLaw", name := "kind", desc := "(I)Lcom/example/electd/electd/model/MessageKind;" } : Jvm.MethodName) method_3_code (2 : Nat) (Option.some (Jvm.ClassFile.FieldType.object "com/example/electd/electd/model/MessageKind")), Jvm.Cond.code ({ cls := "com/example/electd/electd/service/DatagramCounts", name := "getSent", desc := "(Lcom/example/electd/electd/model/MessageKind;)J" } : Jvm.MethodName) prog_25_method_6_code (2 : Nat) (Option.some Jvm.ClassFile.FieldType.long), Jvm.Cond.code ({ cls := "com/example/electd/electd/service/DatagramCounts", name := "getReceived", desc := "(Lcom/example/electd/electd/model/MessageKind;)J" } : Jvm.MethodName) prog_25_method_7_code (2 : Nat) (Option.some Jvm.ClassFile.FieldType.long)]
set_option maxRecDepth 65536 in
theorem codes_eq : words1.filter isCode = codes1 := rfl
theorem w_codes : ∀ c ∈ words1.filter isCode, c.before args0 about1 = true := by
  rw [codes_eq]
  intro c hc
  simp only [codes1, List.mem_cons, List.not_mem_nil, or_false] at hc
  rcases hc with rfl | rfl | rfl | rfl | rfl | rfl | rfl | rfl | rfl | rfl | rfl | rfl | rfl
  · exact w_c0
  · exact w_c1
  · exact w_c2
  · exact w_c3
  · exact w_c4
  · exact w_c5
  · exact w_c6
  · exact w_c7
  · exact w_c8
  · exact w_c9
  · exact w_c10
  · exact w_c11
  · exact w_c12
set_option maxRecDepth 65536 in
theorem w_t1 : (words1.take 24).all (fun c => isCode c || c.before args0 about1) = true := by decide +kernel
set_option maxRecDepth 65536 in
theorem w_t2 : ((words1.drop 24).take 24).all (fun c => isCode c || c.before args0 about1) = true := by decide +kernel
set_option maxRecDepth 65536 in
theorem w_t3 : (((words1.drop 24).drop 24).take 24).all (fun c => isCode c || c.before args0 about1) = true := by decide +kernel
set_option maxRecDepth 65536 in
theorem w_t4 : ((((words1.drop 24).drop 24).drop 24).take 24).all (fun c => isCode c || c.before args0 about1) = true := by decide +kernel
set_option maxRecDepth 65536 in
theorem w_t5 : ((((words1.drop 24).drop 24).drop 24).drop 24).all (fun c => isCode c || c.before args0 about1) = true := by decide +kernel
theorem w_tables : (allAtoms (Jvm.Cond.code x code maxLocals ret :: tables_1)).before args0 about1 = true := by
  rw [allAtoms_all]
  show words1.all (fun c => c.before args0 about1) = true
  refine all_split ?_ w_codes
  rw [← List.take_append_drop 24 words1, List.all_append, w_t1, ← List.take_append_drop 24 (words1.drop 24), List.all_append, w_t2, ← List.take_append_drop 24 ((words1.drop 24).drop 24), List.all_append, w_t3, ← List.take_append_drop 24 (((words1.drop 24).drop 24).drop 24), List.all_append, w_t4, w_t5]
  rfl
set_option maxRecDepth 65536 in
theorem w_case : (Jvm.Cond.and given_1 narrow_1).before args0 about1 = true := by decide +kernel
theorem w_applies : (headSpec (Jvm.Cond.code x code maxLocals ret :: tables_1) room_1).applies x e0.platform about1 = true :=
  (Spec.applies_iff w_frames).mpr ⟨w_running, w_runnable, w_alone, w_named, w_hears, w_ripe, w_room, w_tables⟩
theorem atStart : AtStart classFile x code maxLocals ret World_1 tables_1 room_1 Calls_1 rest_1 Pre_1 launch0 p0 e0 about1 theMethod args0 below0 :=
  ⟨lists_1, trivial, launch0.admits_env _ _ _, launch0.least_env, fairChoices_fair.cas, fairChoices_fair.clock, w_frames, w_args, w_heap, w_applies, trivial, trivial, w_case⟩
end start1
theorem witness_1 : WitnessClaimed_1 := ⟨start1.p0, start1.e0, start1.about1, start1.theMethod, start1.args0, start1.below0, start1.atStart⟩
end Jvm.Pilot.@@N@@
