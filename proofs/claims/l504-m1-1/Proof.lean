import JvmDerived
import JvmDerived.Pilot.@@N@@Statement
import JvmDerived.Pilot.@@N@@Code
set_option linter.unusedVariables false
set_option linter.unusedSimpArgs false
namespace Jvm.Pilot.@@N@@
open Jvm Jvm.ClassFile Sem Op Lib Jvm.Free Jvm.Stand Jvm.LawKit Jvm.RoadKit Bundle Jvm.Pilot.@@N@@.Jvm.D
section OwnKit
variable {p : Program} {l : Launch} {e : Env} {R : Room} {s : State} {m : MethodId} {args : Array Value} {below : List Frame} {meth : Method} {c : Code} {T : State} {locs : List Loc} {cells slots : Nat} {Z : State} {a0 : Array Value} {h : Heap} {Q : Option Value → Heap → List Loc → Prop} {cl sl : Nat}
/-- from the state U the run comes back, and what it leaves is as Q says -/
def Fin1 (p : Program) (e : Env) (below : List Frame) (s : State) (Q : Option Value → Heap → List Loc → Prop) (cl sl : Nat) (U : State) : Prop :=
  ∃ s₂ o, Steps p.tables e below U s₂ ∧ s₂.status = .running ∧ Ended s₂ below o ∧ ∃ v L, o = .returned v ∧ Q v s₂.heap L ∧ FrameEnd s o s₂ L cl sl
theorem own_st {U V : State} (h : ∀ t, Steps p.tables e below V t → Steps p.tables e below U t) (k : Fin1 p e below s Q cl sl V) : Fin1 p e below s Q cl sl U := by
  obtain ⟨s₂, o, h1, r⟩ := k
  exact ⟨s₂, o, h _ h1, r⟩
/-- a contract -/
def Ct (l : Launch) (Z : State) (ws : List Jvm.Cond) (y : MethodName) (bytes : ByteArray) (maxL : Nat) (ret : Option FieldType) (rm : Room) (as' : Array Value) (h : Heap) (Q : Option Value → Heap → List Loc → Prop) : Prop :=
  MetFree l y (head1 (Jvm.Cond.code y bytes maxL ret :: ws) rm) (fun a U => a = as' ∧ Z.Warmed39 U.vm ∧ U.heap = h) (fun _ _ _ _ _ => True) (fun _ U o U' => ∃ v L, o = .returned v ∧ Q v U'.heap L ∧ FrameEnd U o U' L rm.cells rm.slots)
theorem own_enter {ws : List Jvm.Cond} {y : MethodName} {bytes : ByteArray} {maxL : Nat} {ret : Option FieldType} {rm : Room} {as' : Array Value} (hp : plainFor y = true)
    (body : ∀ (p : Program) (e : Env) (s : State) (m : MethodId) (below : List Frame) (meth : Method) (c : Code) (T : State), Stand p l e rm s m as' below meth c T [] 0 0 → p.tables.exec = Jvm.exec → c.code = bytes → c.maxLocals = maxL → Z.Warmed39 s.vm → s.vm.findClass y.cls = some m.cls → meth.name = y.name →
      meth.sig.returnType = ret → meth.locks = false → T.heap = h → Fin1 p e below s Q rm.cells rm.slots (T.setTop (entryFrame m as' maxL))) : Ct l Z ws y bytes maxL ret rm as' h Q := by
  refine MetFree.of_bodySF hp hisR ?_
  intro p e s m args below meth c s₁ Bd hml hP _
  obtain ⟨rfl, hZ, hh⟩ := hP
  exact body p e s m below meth c s₁ (Stand.of_body Bd) Bd.exec Bd.bytes hml hZ (findClass_of_methodNamed Bd.named) (name_of_methodNamed Bd.named Bd.method).1 Bd.returns (BodyLoose.notSynchronized Bd) (by rw [← hh, Bd.state]; rfl)
/-- a stronger promise pays a weaker one -/
theorem Ct.mono {ws : List Jvm.Cond} {y : MethodName} {bytes : ByteArray} {maxL : Nat} {ret : Option FieldType} {rm : Room} {as' : Array Value} {Q' : Option Value → Heap → List Loc → Prop} (hC : Ct l Z ws y bytes maxL ret rm as' h Q) (hQ : ∀ v h' L, Q v h' L → Q' v h' L) : Ct l Z ws y bytes maxL ret rm as' h Q' := by
  intro p e ha hc hk s m args below hf happ hP hK
  obtain ⟨n, o, h1, h2, h3, v, L, h4, h5, h6⟩ := hC p e ha hc hk s m args below hf happ hP hK
  exact ⟨n, o, h1, h2, h3, v, L, h4, hQ _ _ _ h5, h6⟩
theorem own_leave (X : Stand p l e R s m args below meth c T locs cells slots) (hlk : meth.locks = false) {v : Option Value} (hv : meth.sig.returnType = none → v = none) {U : State}
    (hst : ∀ fs, (∀ (f : JFrame) (acts : List Action), f.method = m → f.locked = none → f.entered = [] → (doReturn e (T.setTop f) acts v).1 = T.setFrames fs) → Steps p.tables e below U (T.setFrames fs))
    (hQ : Q v T.heap locs) (hc : cells ≤ cl) (hs : slots ≤ sl) : Fin1 p e below s Q cl sl U := by
  obtain ⟨fs, hr, hrun, hended, hW, hsame⟩ := X.leave (v := v) hv hlk
  exact ⟨_, _, hst fs hr, hrun, hended, v, locs, rfl, hQ, ⟨_, rfl⟩, hW, hsame.mono hc hs⟩
theorem own_retV (X : Stand p l e R s m args below meth c T locs cells slots) (hx : p.tables.exec = Jvm.exec) (hlk : meth.locks = false) {pc : Nat} {Ls : Array Slot} (hret : meth.sig.returnType = none) (hd : decode c.code pc = .ok (.return_, 1))
    (hQ : Q none T.heap locs) (hc : cells ≤ cl) (hs : slots ≤ sl) : Fin1 p e below s Q cl sl (T.setTop (mkF m pc Ls [])) :=
  own_leave X hlk (fun _ => rfl) (fun fs hr => X.returnOut hx hret hd hr) hQ hc hs
theorem own_retI (X : Stand p l e R s m args below meth c T locs cells slots) (hx : p.tables.exec = Jvm.exec) (hlk : meth.locks = false) {pc : Nat} {Ls : Array Slot} {z : Int32} {rest : List Value} (hret : meth.sig.returnType = some .int) (hd : decode c.code pc = .ok (.ireturn, 1))
    (hQ : Q (some (.int z)) T.heap locs) (hc : cells ≤ cl) (hs : slots ≤ sl) : Fin1 p e below s Q cl sl (T.setTop (mkF m pc Ls (.int z :: rest))) :=
  own_leave X hlk (fun h => by rw [hret] at h; cases h) (fun fs hr => retOut X hx hret rfl (Or.inl ⟨rfl, Or.inl rfl, _, rfl⟩) hd hr) hQ hc hs
theorem own_retZ (X : Stand p l e R s m args below meth c T locs cells slots) (hx : p.tables.exec = Jvm.exec) (hlk : meth.locks = false) {pc : Nat} {Ls : Array Slot} {rest : List Value} (hret : meth.sig.returnType = some .boolean) (hd : decode c.code pc = .ok (.ireturn, 1)) {z : Int32} (hz : z = 0 ∨ z = 1)
    (hQ : Q (some (.int z)) T.heap locs) (hc : cells ≤ cl) (hs : slots ≤ sl) : Fin1 p e below s Q cl sl (T.setTop (mkF m pc Ls (.int z :: rest))) :=
  own_leave X hlk (fun h => by rw [hret] at h; cases h) (fun fs hr => retOut X hx hret (by rcases hz with rfl | rfl <;> rfl) (Or.inl ⟨rfl, Or.inr (Or.inl rfl), _, rfl⟩) hd hr) hQ hc hs
theorem own_retJ (X : Stand p l e R s m args below meth c T locs cells slots) (hx : p.tables.exec = Jvm.exec) (hlk : meth.locks = false) {pc : Nat} {Ls : Array Slot} {z : Int64} {rest : List Value} (hret : meth.sig.returnType = some .long) (hd : decode c.code pc = .ok (.lreturn, 1))
    (hQ : Q (some (.long z)) T.heap locs) (hc : cells ≤ cl) (hs : slots ≤ sl) : Fin1 p e below s Q cl sl (T.setTop (mkF m pc Ls (.long z :: rest))) :=
  own_leave X hlk (fun h => by rw [hret] at h; cases h) (fun fs hr => retOut X hx hret rfl (Or.inr (Or.inl ⟨rfl, rfl, _, rfl⟩)) hd hr) hQ hc hs
theorem own_retA (X : Stand p l e R s m args below meth c T locs cells slots) (hx : p.tables.exec = Jvm.exec) (hlk : meth.locks = false) {pc : Nat} {Ls : Array Slot} {z : Value} {rest : List Value} {t : FieldType} (hret : meth.sig.returnType = some t) (ht : t.isReference = true) (hz : z.isRef = true) (hd : decode c.code pc = .ok (.areturn, 1))
    (hQ : Q (some z) T.heap locs) (hc : cells ≤ cl) (hs : slots ≤ sl) : Fin1 p e below s Q cl sl (T.setTop (mkF m pc Ls (z :: rest))) :=
  own_leave X hlk (fun h => by rw [hret] at h; cases h) (fun fs hr => retOut X hx hret (by cases t <;> first | (cases ht; done) | (cases z <;> first | (cases hz; done) | rfl)) (Or.inr (Or.inr (Or.inr (Or.inr ⟨rfl, ht, hz⟩)))) hd hr) hQ hc hs
variable {own : String} {index : Nat} {y z : MethodName} {bytes : ByteArray} {maxL : Nat} {ret : Option FieldType} {rm : Room} {argsL rest : List Value} {a : Addr}
theorem own_static (X : Stand p l e R s m args below meth c T locs cells slots) (hx : p.tables.exec = Jvm.exec) (hZ : Z.Warmed39 s.vm) (hown : s.vm.findClass own = some m.cls) (w1 : (Jvm.Cond.methodLink own index y).before a0 Z = true) (w2 : (Jvm.Cond.static y).before a0 Z = true) (w3 : (Jvm.Cond.initialized y.cls).before a0 Z = true)
    (w4 : (Jvm.Cond.code y bytes maxL ret).before a0 Z = true) (hy : y.cls ≠ "java/lang/invoke/MethodHandle" ∧ y.cls ≠ "java/lang/invoke/VarHandle") (hC : Ct l Z [] y bytes maxL ret rm argsL.toArray h Q) (eT : T.heap = h) {g : JFrame} (hg : g.method = m) (hsize : g.locals.size = c.maxLocals)
    (hlen : ∀ sig, parseMethodDescriptor y.desc = some sig → argsL.length = sig.parameters.length) (hs : g.stack = argsL.reverse ++ rest) {W : Nat} (hW : 2 * g.monitorRoom + (rest.map fun v => v.category).sum ≤ W) (hd : decode c.code g.pc = .ok (.invokestatic index, 3))
    (hf : rm.frames + 1 ≤ R.frames) (hl : W + (maxL + 11) + rm.locals ≤ R.locals) (hc : cells + rm.cells ≤ R.cells) (hsl : slots + rm.slots ≤ R.slots) :
    ∃ v T' h' L, Stand p l e R s m args below meth c T' (locs ++ L) (cells + rm.cells) (slots + rm.slots) ∧ T'.heap = h' ∧ Q v h' L ∧ ∀ t, Steps p.tables e below (T'.setTop { g with pc := g.pc + 3, stack := v.toList ++ rest }) t → Steps p.tables e below (T.setTop g) t := by
  obtain ⟨v, _, ⟨T', L', k', n'⟩, -, X', ⟨Lc, hQ, l1, y1, z1⟩, st⟩ := Jvm.LawKit.callS X hx (y := y) hown (mvT hZ w1) (mvT hZ w2) (mvT hZ w3) (mvT hZ w4) hy (backOf (W := W) hC hZ w4 w3 hf hl) hg hsize hlen hs hW hd (fun _ _ => ⟨rfl, eT, hc, hsl⟩)
  dsimp only [Pt.U, Pt.locs, Pt.cells, Pt.slots] at X' l1 y1 z1 st hQ
  subst l1 y1 z1
  exact ⟨v, T', _, Lc, X', rfl, hQ, st⟩
theorem own_special (X : Stand p l e R s m args below meth c T locs cells slots) (hx : p.tables.exec = Jvm.exec) (hZ : Z.Warmed39 s.vm) (hown : s.vm.findClass own = some m.cls) (hy1 : y.name = "<init>") (w1 : (Jvm.Cond.methodLink own index y).before a0 Z = true) (w2 : (Jvm.Cond.instanceMethod y).before a0 Z = true)
    (w4 : (Jvm.Cond.code y bytes maxL none).before a0 Z = true) (w3 : (Jvm.Cond.initialized y.cls).before a0 Z = true) (hy : y.cls ≠ "java/lang/invoke/MethodHandle" ∧ y.cls ≠ "java/lang/invoke/VarHandle") (hC : Ct l Z [] y bytes maxL none rm (.ref a :: argsL).toArray h Q) (eT : T.heap = h) {g : JFrame} (hg : g.method = m) (hsize : g.locals.size = c.maxLocals)
    (hlen : ∀ sig, parseMethodDescriptor y.desc = some sig → argsL.length = sig.parameters.length) (hs : g.stack = argsL.reverse ++ .ref a :: rest) {W : Nat} (hW : 2 * g.monitorRoom + (rest.map fun v => v.category).sum ≤ W) (hd : decode c.code g.pc = .ok (.invokespecial index, 3))
    (hf : rm.frames + 1 ≤ R.frames) (hl : W + (maxL + 11) + rm.locals ≤ R.locals) (hc : cells + rm.cells ≤ R.cells) (hsl : slots + rm.slots ≤ R.slots) :
    ∃ v T' h' L, Stand p l e R s m args below meth c T' (locs ++ L) (cells + rm.cells) (slots + rm.slots) ∧ T'.heap = h' ∧ Q v h' L ∧ ∀ t, Steps p.tables e below (T'.setTop { g with pc := g.pc + 3, stack := v.toList ++ rest }) t → Steps p.tables e below (T.setTop g) t := by
  obtain ⟨v, _, ⟨T', L', k', n'⟩, -, X', ⟨Lc, hQ, l1, y1, z1⟩, st⟩ := X.specialBack hx (y := y) hy1 hown (mvT hZ w1) (mvT hZ w2) (mvT hZ w4) hy (backOf (W := W) hC hZ w4 w3 hf hl) hg hsize (Steps.refl _) (a := a) hlen hs hW hd (fun _ _ => ⟨rfl, eT, hc, hsl⟩)
  dsimp only [Pt.U, Pt.locs, Pt.cells, Pt.slots] at X' l1 y1 z1 st hQ
  subst l1 y1 z1
  exact ⟨v, T', _, Lc, X', rfl, hQ, fun t k => st.trans k⟩
theorem own_virtual {C : String} (X : Stand p l e R s m args below meth c T locs cells slots) (hx : p.tables.exec = Jvm.exec) (hZ : Z.Warmed39 s.vm) (hown : s.vm.findClass own = some m.cls) (w1 : (Jvm.Cond.methodLink own index y).before a0 Z = true) (w2 : (Jvm.Cond.declares y).before a0 Z = true) (w5 : (Jvm.Cond.selects C y y).before a0 Z = true)
    (w6 : (Jvm.Cond.instanceMethod y).before a0 Z = true) (w4 : (Jvm.Cond.code y bytes maxL ret).before a0 Z = true) (w3 : (Jvm.Cond.initialized y.cls).before a0 Z = true) (hy : y.cls ≠ "java/lang/invoke/MethodHandle" ∧ y.cls ≠ "java/lang/invoke/VarHandle") (E : Exa Z h a C) (hC : Ct l Z [] y bytes maxL ret rm (.ref a :: argsL).toArray h Q) (eT : T.heap = h) {g : JFrame} (hg : g.method = m) (hsize : g.locals.size = c.maxLocals)
    (hlen : ∀ sig, parseMethodDescriptor y.desc = some sig → argsL.length = sig.parameters.length) (hs : g.stack = argsL.reverse ++ .ref a :: rest) {W : Nat} (hW : 2 * g.monitorRoom + (rest.map fun v => v.category).sum ≤ W) (hd : decode c.code g.pc = .ok (.invokevirtual index, 3))
    (hf : rm.frames + 1 ≤ R.frames) (hl : W + (maxL + 11) + rm.locals ≤ R.locals) (hc : cells + rm.cells ≤ R.cells) (hsl : slots + rm.slots ≤ R.slots) :
    ∃ v T' h' L, Stand p l e R s m args below meth c T' (locs ++ L) (cells + rm.cells) (slots + rm.slots) ∧ T'.heap = h' ∧ Q v h' L ∧ ∀ t, Steps p.tables e below (T'.setTop { g with pc := g.pc + 3, stack := v.toList ++ rest }) t → Steps p.tables e below (T.setTop g) t := by
  obtain ⟨cq, kq, qa, qb, qc⟩ := isOf hZ eT E
  obtain ⟨v, _, ⟨T', L', k', n'⟩, -, X', ⟨Lc, hQ, l1, y1, z1⟩, st⟩ := X.virtualBack hx (y := y) (z := y) hown (mvT hZ w1) (mvT hZ w2) (notFace_of_selects (args := #[]) (mvT hZ w5)) (mvT hZ w5) (mvT hZ w6) hy (backOf (W := W) hC hZ w4 w3 hf hl) qa qc hg hsize (Steps.refl _) hlen hs hW hd (fun _ _ => ⟨rfl, eT, hc, hsl⟩)
  dsimp only [Pt.U, Pt.locs, Pt.cells, Pt.slots] at X' l1 y1 z1 st hQ
  subst l1 y1 z1
  exact ⟨v, T', _, Lc, X', rfl, hQ, fun t k => st.trans k⟩
theorem own_private {nn : Nat} (X : Stand p l e R s m args below meth c T locs cells slots) (hx : p.tables.exec = Jvm.exec) (hZ : Z.Warmed39 s.vm) (hown : s.vm.findClass own = some m.cls) (w1 : (Jvm.Cond.methodLink own index y).before a0 Z = true) (w2 : (Jvm.Cond.instanceMethod y).before a0 Z = true) (wi : (Jvm.Cond.instantiable y.cls nn).before a0 Z = true)
    (wp : (Jvm.Cond.privateMethod y).before a0 Z = true) (w4 : (Jvm.Cond.code y bytes maxL ret).before a0 Z = true) (w3 : (Jvm.Cond.initialized y.cls).before a0 Z = true) (hy : y.cls ≠ "java/lang/invoke/MethodHandle" ∧ y.cls ≠ "java/lang/invoke/VarHandle") (E : Exa Z h a y.cls) (hC : Ct l Z [] y bytes maxL ret rm (.ref a :: argsL).toArray h Q) (eT : T.heap = h) {g : JFrame} (hg : g.method = m) (hsize : g.locals.size = c.maxLocals)
    (hlen : ∀ sig, parseMethodDescriptor y.desc = some sig → argsL.length = sig.parameters.length) (hs : g.stack = argsL.reverse ++ .ref a :: rest) {W : Nat} (hW : 2 * g.monitorRoom + (rest.map fun v => v.category).sum ≤ W) (hd : decode c.code g.pc = .ok (.invokevirtual index, 3))
    (hf : rm.frames + 1 ≤ R.frames) (hl : W + (maxL + 11) + rm.locals ≤ R.locals) (hc : cells + rm.cells ≤ R.cells) (hsl : slots + rm.slots ≤ R.slots) :
    ∃ v T' h' L, Stand p l e R s m args below meth c T' (locs ++ L) (cells + rm.cells) (slots + rm.slots) ∧ T'.heap = h' ∧ Q v h' L ∧ ∀ t, Steps p.tables e below (T'.setTop { g with pc := g.pc + 3, stack := v.toList ++ rest }) t → Steps p.tables e below (T.setTop g) t := by
  obtain ⟨cell, hcell, hobj⟩ := E.cell
  have hsel : (Jvm.Cond.selects y.cls y y).before args s = true := by
    obtain ⟨c', k', i1, i2, -, i4, -⟩ := Cond.instantiable_spec (mvT hZ wi : (Jvm.Cond.instantiable y.cls nn).before args s = true)
    exact selects_self_of_private i1 i2 (Bool.or_eq_false_iff.mp i4).1 (Cond.privateMethod_at (mvP hZ wp (args := args))) (mvT hZ w2) hy
  obtain ⟨v, _, ⟨T', L', k', n'⟩, -, X', ⟨Lc, hQ, l1, y1, z1⟩, st⟩ := X.privateBack hx (y := y) hown (mvT hZ w1) (mvT hZ w2) hsel (Cond.privateMethod_at (mvP hZ wp (args := #[]))) (mvT hZ w4) hy (backOf (W := W) hC hZ w4 w3 hf hl) hg hsize (Steps.refl _) (a := a) (by rw [eT]; exact hcell) hobj hlen hs hW hd (fun _ _ => ⟨rfl, eT, hc, hsl⟩)
  dsimp only [Pt.U, Pt.locs, Pt.cells, Pt.slots] at X' l1 y1 z1 st hQ
  subst l1 y1 z1
  exact ⟨v, T', _, Lc, X', rfl, hQ, fun t k => st.trans k⟩
theorem own_virtualUp {C owner : String} (X : Stand p l e R s m args below meth c T locs cells slots) (hx : p.tables.exec = Jvm.exec) (hZ : Z.Warmed39 s.vm) (hown : s.vm.findClass own = some m.cls) (w1 : (Jvm.Cond.methodLink own index y).before a0 Z = true) (ws : (Jvm.Cond.sameMethod y.cls owner y.name y.desc).before a0 Z = true) (w2 : (Jvm.Cond.declares ⟨owner, y.name, y.desc⟩).before a0 Z = true) (w5 : (Jvm.Cond.selects C y z).before a0 Z = true)
    (w6 : (Jvm.Cond.instanceMethod z).before a0 Z = true) (w4 : (Jvm.Cond.code z bytes maxL ret).before a0 Z = true) (w3 : (Jvm.Cond.initialized z.cls).before a0 Z = true) (ho : owner ≠ "java/lang/invoke/MethodHandle" ∧ owner ≠ "java/lang/invoke/VarHandle") (E : Exa Z h a C) (hC : Ct l Z [] z bytes maxL ret rm (.ref a :: argsL).toArray h Q) (eT : T.heap = h) {g : JFrame} (hg : g.method = m) (hsize : g.locals.size = c.maxLocals)
    (hlen : ∀ sig, parseMethodDescriptor y.desc = some sig → argsL.length = sig.parameters.length) (hs : g.stack = argsL.reverse ++ .ref a :: rest) {W : Nat} (hW : 2 * g.monitorRoom + (rest.map fun v => v.category).sum ≤ W) (hd : decode c.code g.pc = .ok (.invokevirtual index, 3))
    (hf : rm.frames + 1 ≤ R.frames) (hl : W + (maxL + 11) + rm.locals ≤ R.locals) (hc : cells + rm.cells ≤ R.cells) (hsl : slots + rm.slots ≤ R.slots) :
    ∃ v T' h' L, Stand p l e R s m args below meth c T' (locs ++ L) (cells + rm.cells) (slots + rm.slots) ∧ T'.heap = h' ∧ Q v h' L ∧ ∀ t, Steps p.tables e below (T'.setTop { g with pc := g.pc + 3, stack := v.toList ++ rest }) t → Steps p.tables e below (T.setTop g) t := by
  obtain ⟨cq, kq, qa, qb, qc⟩ := isOf hZ eT E
  obtain ⟨v, _, ⟨T', L', k', n'⟩, -, X', ⟨Lc, hQ, l1, y1, z1⟩, st⟩ := X.virtualBackUp hx (x := y) (y := z) (owner := owner) hown (mvT hZ w1) (mvT hZ ws) (mvT hZ w2) ho (mvT hZ w5) (mvT hZ w6) (backOf (W := W) hC hZ w4 w3 hf hl) qa qc hg hsize (Steps.refl _) hlen hs hW hd (fun _ _ => ⟨rfl, eT, hc, hsl⟩)
  dsimp only [Pt.U, Pt.locs, Pt.cells, Pt.slots] at X' l1 y1 z1 st hQ
  subst l1 y1 z1
  exact ⟨v, T', _, Lc, X', rfl, hQ, fun t k => st.trans k⟩
theorem own_ref {x : Value} (hq : x = .null ∨ ∃ b, x = .ref b) : x.isRef = true := by rcases hq with rfl | ⟨_, rfl⟩ <;> rfl
theorem own_cat {x : Value} (hq : x = .null ∨ ∃ b, x = .ref b) : x.category = 1 := by rcases hq with rfl | ⟨_, rfl⟩ <;> rfl
theorem own_nar {x : Value} {t : FieldType} (hq : x = .null ∨ ∃ b, x = .ref b) (ht : t.isReference = true) : narrow t x = x := by rcases hq with rfl | ⟨_, rfl⟩ <;> cases t <;> first | rfl | (cases ht; done)
theorem own_fit {x : Value} {t : FieldType} (hq : x = .null ∨ ∃ b, x = .ref b) (ht : t.isReference = true) : fits t x = true := by rcases hq with rfl | ⟨_, rfl⟩ <;> cases t <;> first | rfl | (cases ht; done)
variable {k : ClassId} {ty : FieldType} {n j : Int32} {vs : List Value} {dv v : Value}
theorem own_ld (X : Stand p l e R s m args below meth c T locs cells slots) (hx : p.tables.exec = Jvm.exec) (hZ : Z.Warmed39 s.vm) (eT : T.heap = h) (F : Arv Z h a k ty n vs dv) (hj : ¬ j < 0 ∧ j < n) (hv : vs.getD j.toNatClampNeg dv = v) {g : JFrame} (hg : g.method = m) (hs : g.stack = .int j :: .ref a :: rest) {i : Instr}
    (hi : (i = .iaload ∧ ty = .int) ∨ (i = .laload ∧ ty = .long) ∨ (i = .aaload ∧ ty.isReference = true)) (hd : decode c.code g.pc = .ok (i, 1)) : ∀ t, Steps p.tables e below (T.setTop { g with pc := g.pc + 1, stack := v :: rest }) t → Steps p.tables e below (T.setTop g) t := by
  obtain ⟨cl, A, -, S, -, H, -⟩ := F
  have hin := inb_of S hj
  have hat := H.at hin hv
  rcases hi with ⟨rfl, rfl⟩ | ⟨rfl, rfl⟩ | ⟨rfl, ht⟩
  · exact X.iaload hx (j := j) (v := v) (by rw [eT]; exact A.1) (State.isArrayOf_alike hZ.alike A.2.1) A.2.2 hin hat hg hs hd
  · exact X.laload hx (j := j) (v := v) (by rw [eT]; exact A.1) (State.isArrayOf_alike hZ.alike A.2.1) A.2.2 hin hat hg hs hd
  · exact X.aaload hx (j := j) (v := v) (by rw [eT]; exact A.1) (State.isArrayOf_alike hZ.alike A.2.1) ht A.2.2 hin hat hg hs hd
theorem own_len (X : Stand p l e R s m args below meth c T locs cells slots) (hx : p.tables.exec = Jvm.exec) (hZ : Z.Warmed39 s.vm) (eT : T.heap = h) (F : Arv Z h a k ty n vs dv) {g : JFrame} (hg : g.method = m) (hs : g.stack = .ref a :: rest) (hd : decode c.code g.pc = .ok (.arraylength, 1)) :
    ∀ t, Steps p.tables e below (T.setTop { g with pc := g.pc + 1, stack := .int n :: rest }) t → Steps p.tables e below (T.setTop g) t := by
  obtain ⟨cl, A, -, S, q, -, -⟩ := F
  intro t kt
  refine X.arraylength hx (by rw [eT]; exact A.1) (State.isArrayOf_alike hZ.alike A.2.1) hg hs hd t ?_
  rw [len_of S q]
  exact kt
theorem own_lenA {cc : Cell} (X : Stand p l e R s m args below meth c T locs cells slots) (hx : p.tables.exec = Jvm.exec) (hZ : Z.Warmed39 s.vm) (eT : T.heap = h) (A : Arr Z h a cc ty) (hn : cc.slots.size.toInt32 = n) {g : JFrame} (hg : g.method = m) (hs : g.stack = .ref a :: rest) (hd : decode c.code g.pc = .ok (.arraylength, 1)) :
    ∀ t, Steps p.tables e below (T.setTop { g with pc := g.pc + 1, stack := .int n :: rest }) t → Steps p.tables e below (T.setTop g) t := by
  intro t kt
  refine X.arraylength hx (by rw [eT]; exact A.1) (State.isArrayOf_alike hZ.alike A.2.1) hg hs hd t ?_
  rw [hn]
  exact kt
theorem own_stI (X : Stand p l e R s m args below meth c T locs cells slots) (hx : p.tables.exec = Jvm.exec) (hZ : Z.Warmed39 s.vm) (eT : T.heap = h) (F : Arv Z h a k .int n vs dv) (hj : ¬ j < 0 ∧ j < n) (i : Nat) (hi : j.toNatClampNeg = i) (hl : i < vs.length) {x : Int32} {g : JFrame} (hg : g.method = m) (hs : g.stack = .int x :: .int j :: .ref a :: rest) (hd : decode c.code g.pc = .ok (.iastore, 1)) :
    ∃ T' h', Stand p l e R s m args below meth c T' (locs ++ [⟨a, j.toNatClampNeg⟩]) cells slots ∧ T'.heap = h' ∧ Wr h h' a j.toNatClampNeg (.int x) ∧ Arv Z h' a k .int n (vs.set i (.int x)) dv ∧ ∀ t, Steps p.tables e below (T'.setTop { g with pc := g.pc + 1, stack := rest }) t → Steps p.tables e below (T.setTop g) t := by
  obtain ⟨cl, A, q1, S, q3, H, G⟩ := F
  obtain ⟨T', h', X', e', W, st⟩ := stI X hx hZ eT A (inb_of S hj) hg hs hd
  exact ⟨T', h', X', e', W, Arv.set A q1 S q3 H G rfl W i hi hl, st⟩
theorem own_stJ (X : Stand p l e R s m args below meth c T locs cells slots) (hx : p.tables.exec = Jvm.exec) (hZ : Z.Warmed39 s.vm) (eT : T.heap = h) (F : Arv Z h a k .long n vs dv) (hj : ¬ j < 0 ∧ j < n) (i : Nat) (hi : j.toNatClampNeg = i) (hl : i < vs.length) {x : Int64} {g : JFrame} (hg : g.method = m) (hs : g.stack = .long x :: .int j :: .ref a :: rest) (hd : decode c.code g.pc = .ok (.lastore, 1)) :
    ∃ T' h', Stand p l e R s m args below meth c T' (locs ++ [⟨a, j.toNatClampNeg⟩]) cells slots ∧ T'.heap = h' ∧ Wr h h' a j.toNatClampNeg (.long x) ∧ Arv Z h' a k .long n (vs.set i (.long x)) dv ∧ ∀ t, Steps p.tables e below (T'.setTop { g with pc := g.pc + 1, stack := rest }) t → Steps p.tables e below (T.setTop g) t := by
  obtain ⟨cl, A, q1, S, q3, H, G⟩ := F
  obtain ⟨T', h', X', e', W, st⟩ := stJ X hx hZ eT A (inb_of S hj) hg hs hd
  exact ⟨T', h', X', e', W, Arv.set A q1 S q3 H G rfl W i hi hl, st⟩
theorem own_stR {C : String} {y : Value} (X : Stand p l e R s m args below meth c T locs cells slots) (hx : p.tables.exec = Jvm.exec) (hZ : Z.Warmed39 s.vm) (eT : T.heap = h) (F : Arv Z h a k ty n vs dv) (ht : ty.isReference = true) (hf : fits ty y = true) (O : y = .null ∨ ∃ b, y = .ref b ∧ Ovr Z k C ∧ Ins Z h b C true) (hj : ¬ j < 0 ∧ j < n) (i : Nat) (hi : j.toNatClampNeg = i) (hl : i < vs.length) {g : JFrame} (hg : g.method = m) (hs : g.stack = y :: .int j :: .ref a :: rest) (hd : decode c.code g.pc = .ok (.aastore, 1)) :
    ∃ T' h', Stand p l e R s m args below meth c T' (locs ++ [⟨a, j.toNatClampNeg⟩]) cells slots ∧ T'.heap = h' ∧ Wr h h' a j.toNatClampNeg y ∧ Arv Z h' a k ty n (vs.set i y) dv ∧ ∀ t, Steps p.tables e below (T'.setTop { g with pc := g.pc + 1, stack := rest }) t → Steps p.tables e below (T.setTop g) t := by
  obtain ⟨cl, A, q1, S, q3, H, G⟩ := F
  obtain ⟨T', h', X', e', W, st⟩ := stR X hx hZ eT A (inb_of S hj) ht (by rcases O with rfl | ⟨b, rfl, O, I⟩; exact Or.inl rfl; exact Sto.ofV A q1 O I) hg hs hd
  exact ⟨T', h', X', e', W, Arv.set A q1 S q3 H G hf W i hi hl, st⟩
end OwnKit
theorem own_lens {Z : State} {a0 : Array Value} {t : Term} {a : Addr} {cc : Cell} {x : Value} (ec : t.eval a0 Z none [] Z = some (.ref a)) (ha : Z.arrayAt? a = some cc) (el : (Term.length t).eval a0 Z none [] Z = some x) : cc.slots.size < 2 ^ 31 := by
  by_cases q : cc.slots.size < 2 ^ 31
  · exact q
  · simp [Term.eval, ec, ha] at el; omega
def own_IC (Z : State) : Prop := Sta Z Z.heap "java/lang/Integer$IntegerCache" "high" "I" (.int (127 : Int32)) ∧ ∃ (ca : Addr) (cc : Cell), Sta Z Z.heap "java/lang/Integer$IntegerCache" "cache" "[Ljava/lang/Integer;" (.ref ca) ∧ Bxs Z ca cc "java/lang/Integer" "I" (256 : Int32) (fun j => .int (j - (128 : Int32)))
set_option maxRecDepth 65536 in
theorem own_ic {Z : State} {a0 : Array Value} (hw : ∀ d ∈ tables_1, d.before a0 Z = true) (hsets : ∀ d ∈ jdkStatics_1, d.before a0 Z = true) : own_IC Z := by
  have w1 := hsets _ (List.mem_of_getElem? (i := 1) rfl)
  have w2 := hsets _ (List.mem_of_getElem? (i := 2) rfl)
  have w3 := Cond.before_iff.mp (hsets _ (List.mem_of_getElem? (i := 3) rfl))
  have w4 := Cond.before_iff.mp (hsets _ (List.mem_of_getElem? (i := 4) rfl))
  have w6 := Cond.before_iff.mp (hsets _ (List.mem_of_getElem? (i := 6) rfl))
  have w7 := Cond.before_iff.mp (hsets _ (List.mem_of_getElem? (i := 7) rfl))
  have eh := eqv_i (Term.int_eval 127) w3
  obtain ⟨ca, ec⟩ := arr_v w4
  obtain ⟨cc, A⟩ := Arr.start ec w4
  have el := eqv_i (Term.int_eval 256) w6
  have ha := A.fin (Vm.Alike.refl _)
  have hl : cc.slots.size < 2 ^ 31 := own_lens ec ha el
  have el2 := len_f ec ha hl
  have es : cc.slots.size.toInt32 = (256 : Int32) := by
    have := el2.symm.trans el
    simpa using this
  refine ⟨Sta.start eh (Or.inl w1), ca, cc, Sta.start ec (Or.inr ⟨(hw _ (List.mem_of_getElem? (i := 23) rfl)), w2⟩), Bxs.start (fun _ => ec) A hl es (by decide) w7 (fun X j nn hX => ?_)⟩
  refine eqv_i ?_ hX
  have ei := idx_at (args := a0) (s := Z) (first := Z) (o := none) nn
  simp [Term.eval] at ei
  simp [Term.eval, ei]
theorem own_idx (i : Int32) (h1 : ¬ i < (-128 : Int32)) (h2 : ¬ (127 : Int32) < i) : ¬ (i + (128 : Int32)) < 0 ∧ (i + (128 : Int32)) < (256 : Int32) ∧ (i + (128 : Int32)) - (128 : Int32) = i := by
  rw [Int32.lt_iff_toInt_lt] at h1 h2
  have e1 : (-128 : Int32).toInt = -128 := rfl
  have e2 : (127 : Int32).toInt = 127 := rfl
  have e3 : (0 : Int32).toInt = 0 := rfl
  have e4 : (256 : Int32).toInt = 256 := rfl
  have e5 : (128 : Int32).toInt = 128 := rfl
  have q := c_iadd i (128 : Int32)
  have r := rng32 (i + (128 : Int32))
  have r' := rng32 i
  refine ⟨?_, ?_, Int32.add_sub_cancel _ _⟩
  · rw [Int32.lt_iff_toInt_lt]; omega
  · rw [Int32.lt_iff_toInt_lt]; omega
theorem own_nsroot {Z : State} {a0 : Array Value} {O K : String} {n : Nat} (w : (Jvm.Cond.noSuperclass O).before a0 Z = true) (wk : (Jvm.Cond.instantiable K n).before a0 Z = true) (hn : O ≠ K) : NS Z O K := by
  obtain ⟨c, kc, h1, h2, h3, -, -⟩ := Cond.noSuperclass_spec w
  obtain ⟨t, kt, g1, g2, -⟩ := Cond.instantiable_spec wk
  have ne := ids_ne h1 g1 hn
  refine ⟨c, t, h1, g1, fun fuel => ?_⟩
  cases fuel with
  | zero => rfl
  | succ f => simp [Vm.isSubclassAux, ne, h2, h3]
theorem own_nsno {Z : State} {a0 : Array Value} {C S K : String} {n : Nat} (w : (Jvm.Cond.superclass C S).before a0 Z = true) (wk : (Jvm.Cond.instantiable K n).before a0 Z = true) (hN : NS Z C K) (hn : C ≠ K) : ∃ c t, Z.vm.findClass C = some c ∧ Z.vm.findClass K = some t ∧ Z.vm.assignable c t = false := by
  obtain ⟨c, t, h0, g0, n3⟩ := hN
  obtain ⟨q, kc, kq, h1, h2, h3, h4, h5, h6, h7⟩ := Cond.superclass_spec h0 w
  obtain ⟨t', kt, g1, g2, g3, g4, -⟩ := Cond.instantiable_spec wk
  cases g0.symm.trans g1
  have g5 : kt.isInterface = false := by cases hI : kt.isInterface <;> simp [hI] at g4 ⊢
  have ne := ids_ne h0 g0 hn
  refine ⟨c, t, h0, g0, ?_⟩
  show Z.vm.assignableAux (255 + 1) c t = false
  simp [Vm.assignableAux, ne, h2, g2, h5, g3, g5, Vm.isSubclass, n3]
theorem own_no_0 {Z : State} {a0 : Array Value} (hw : ∀ d ∈ tables_1, d.before a0 Z = true) : ∃ c t, Z.vm.findClass "java/lang/Integer" = some c ∧ Z.vm.findClass "com/example/electd/electd/model/Mode" = some t ∧ Z.vm.assignable c t = false :=
  own_nsno (hw _ (List.mem_of_getElem? (i := 26) rfl)) (hw _ (List.mem_of_getElem? (i := 1) rfl)) (NS.step (hw _ (List.mem_of_getElem? (i := 26) rfl)) (NS.step (hw _ (List.mem_of_getElem? (i := 27) rfl)) (own_nsroot (hw _ (List.mem_of_getElem? (i := 28) rfl)) (hw _ (List.mem_of_getElem? (i := 1) rfl)) (by decide)) (by decide)) (by decide)) (by decide)
theorem d6_0 : decode jdk_18_method_1_code 0 = .ok (.aload_n 0, 1) := by decide +kernel
theorem d6_1 : decode jdk_18_method_1_code 1 = .ok (.invokespecial 1, 3) := by decide +kernel
theorem d6_4 : decode jdk_18_method_1_code 4 = .ok (.return_, 1) := by decide +kernel
theorem pn_0 : plainName "java/lang/Number" = true := by first | (simp [plainName, overriddenIn]; done) | decide +kernel
def rmNumQ (Z : State) (a1 : Addr) (h0 : Heap) (n0 : Nat) (v : Option Value) (h : Heap) (L : List Loc) : Prop := v = none ∧ Fr n0 L ∧ h = h0
set_option maxRecDepth 65536 in
set_option maxHeartbeats 40000000 in
theorem rmNum (l : Launch) (Z : State) (a0 : Array Value) (hw : ∀ d ∈ tables_1, d.before a0 Z = true) (a1 : Addr) (h0 : Heap) (n0 : Nat) (Z0 : n0 ≤ h0.size) :
    Ct l Z [] (⟨"java/lang/Number", "<init>", "()V"⟩ : MethodName) jdk_18_method_1_code 1 none ({ frames := 1, cells := 0, slots := 0, locals := 12 } : Room) #[(.ref a1)] h0 (rmNumQ Z a1 h0 n0) := by
  refine own_enter (plainFor_of_name pn_0) ?_
  intro p e s m below meth c T0 X0 hx hby hml hZ hown hnm hret hlk e0
  have hown : s.vm.findClass "java/lang/Number" = some m.cls := hown
  have N0 := Fr.nil n0
  have K0 := Keep.refl h0 []
  refine own_st (fun wt wk => castTop (g' := mkF m 0 #[.val (.ref a1)] []) (by first | (simp [entryFrame, mkF, argsToLocals, Value.category]; done) | rfl) wk) ?_
  show Fin1 p e below s (rmNumQ Z a1 h0 n0) ({ frames := 1, cells := 0, slots := 0, locals := 12 } : Room).cells ({ frames := 1, cells := 0, slots := 0, locals := 12 } : Room).slots (T0.setTop (mkF m 0 #[.val (.ref a1)] []))
  refine own_st (fun wt wk => XS.aloadN X0.here hx rfl (hb hby d6_0) rfl rfl wk) ?_
  show Fin1 p e below s (rmNumQ Z a1 h0 n0) ({ frames := 1, cells := 0, slots := 0, locals := 12 } : Room).cells ({ frames := 1, cells := 0, slots := 0, locals := 12 } : Room).slots (T0.setTop (mkF m 1 #[.val (.ref a1)] [(.ref a1)]))
  obtain ⟨T1, X1, e1, st1⟩ := initO X0 hx hZ hown (hw _ (List.mem_of_getElem? (i := 42) rfl)) (hw _ (List.mem_of_getElem? (i := 7) rfl)) (hw _ (List.mem_of_getElem? (i := 8) rfl)) e0 (g := (mkF m 1 #[.val (.ref a1)] [(.ref a1)])) rfl (by rw [hml]; rfl) rfl (hb hby d6_1) (by decide) (W := 0) (by show 2 * 0 + _ ≤ _; exact Nat.le_of_eq rfl) (by decide)
  refine own_st st1 ?_
  show Fin1 p e below s (rmNumQ Z a1 h0 n0) ({ frames := 1, cells := 0, slots := 0, locals := 12 } : Room).cells ({ frames := 1, cells := 0, slots := 0, locals := 12 } : Room).slots (T1.setTop (mkF m 4 #[.val (.ref a1)] []))
  exact own_retV X1 hx hlk hret (hb hby d6_4) (by rw [e1]; exact ⟨rfl, N0, rfl⟩) (by decide) (by decide)
theorem d5_0 : decode jdk_33_method_23_code 0 = .ok (.aload_n 0, 1) := by decide +kernel
theorem d5_1 : decode jdk_33_method_23_code 1 = .ok (.invokespecial 202, 3) := by decide +kernel
theorem d5_4 : decode jdk_33_method_23_code 4 = .ok (.aload_n 0, 1) := by decide +kernel
theorem d5_5 : decode jdk_33_method_23_code 5 = .ok (.iload_n 1, 1) := by decide +kernel
theorem d5_6 : decode jdk_33_method_23_code 6 = .ok (.putfield 205, 3) := by decide +kernel
theorem d5_9 : decode jdk_33_method_23_code 9 = .ok (.return_, 1) := by decide +kernel
theorem pn_1 : plainName "java/lang/Integer" = true := by first | (simp [plainName, overriddenIn]; done) | decide +kernel
theorem pd_2 : parseMethodDescriptor "()V" = some ⟨[], none⟩ := by decide +kernel
def rmIniQ (Z : State) (a1 : Addr) (i : Int32) (h0 : Heap) (n0 : Nat) (v : Option Value) (h : Heap) (L : List Loc) : Prop := v = none ∧ Fr n0 L ∧ Keep h0 h [a1] ∧ Fld Z h a1 "java/lang/Integer" "value" "I" (.int i)
set_option maxRecDepth 65536 in
set_option maxHeartbeats 40000000 in
theorem rmIni (l : Launch) (Z : State) (a0 : Array Value) (hw : ∀ d ∈ tables_1, d.before a0 Z = true) (a1 : Addr) (i : Int32) (h0 : Heap) (n0 : Nat) (Z0 : n0 ≤ h0.size) (g_a1 : n0 ≤ a1) (E_a1 : Exa Z h0 a1 "java/lang/Integer") (F0 : Fld Z h0 a1 "java/lang/Integer" "value" "I" (.int (0 : Int32))) :
    Ct l Z [] (⟨"java/lang/Integer", "<init>", "(I)V"⟩ : MethodName) jdk_33_method_23_code 2 none ({ frames := 2, cells := 0, slots := 0, locals := 24 } : Room) #[(.ref a1), (.int i)] h0 (rmIniQ Z a1 i h0 n0) := by
  refine own_enter (plainFor_of_name pn_1) ?_
  intro p e s m below meth c T0 X0 hx hby hml hZ hown hnm hret hlk e0
  have hown : s.vm.findClass "java/lang/Integer" = some m.cls := hown
  have N0 := Fr.nil n0
  have K0 := Keep.refl h0 [a1]
  refine own_st (fun wt wk => castTop (g' := mkF m 0 #[.val (.ref a1), .val (.int i)] []) (by first | (simp [entryFrame, mkF, argsToLocals, Value.category]; done) | rfl) wk) ?_
  show Fin1 p e below s (rmIniQ Z a1 i h0 n0) ({ frames := 2, cells := 0, slots := 0, locals := 24 } : Room).cells ({ frames := 2, cells := 0, slots := 0, locals := 24 } : Room).slots (T0.setTop (mkF m 0 #[.val (.ref a1), .val (.int i)] []))
  refine own_st (fun wt wk => XS.aloadN X0.here hx rfl (hb hby d5_0) rfl rfl wk) ?_
  show Fin1 p e below s (rmIniQ Z a1 i h0 n0) ({ frames := 2, cells := 0, slots := 0, locals := 24 } : Room).cells ({ frames := 2, cells := 0, slots := 0, locals := 24 } : Room).slots (T0.setTop (mkF m 1 #[.val (.ref a1), .val (.int i)] [(.ref a1)]))
  obtain ⟨v1, T1, h1, L1, X1, e1, hQ1, st1⟩ := own_special X0 hx hZ hown rfl (hw _ (List.mem_of_getElem? (i := 36) rfl)) (hw _ (List.mem_of_getElem? (i := 37) rfl)) (hw _ (List.mem_of_getElem? (i := 41) rfl)) (hw _ (List.mem_of_getElem? (i := 40) rfl)) (by decide) (a := a1) (rmNum l Z a0 hw a1 h0 n0 Z0) e0 (g := (mkF m 1 #[.val (.ref a1), .val (.int i)] [(.ref a1)])) rfl (by rw [hml]; rfl) (argsL := []) (rest := []) (lenOf pd_2 rfl) rfl (W := 0) (by show 2 * 0 + _ ≤ _; exact Nat.le_of_eq rfl) (hb hby d5_1) (by decide) (by decide) (by decide) (by decide)
  obtain ⟨rfl, N1q, hh1⟩ := hQ1
  have N1 := Fr.app N0 N1q
  rw [hh1] at e1
  refine own_st st1 ?_
  show Fin1 p e below s (rmIniQ Z a1 i h0 n0) ({ frames := 2, cells := 0, slots := 0, locals := 24 } : Room).cells ({ frames := 2, cells := 0, slots := 0, locals := 24 } : Room).slots (T1.setTop (mkF m 4 #[.val (.ref a1), .val (.int i)] []))
  refine own_st (fun wt wk => XS.aloadN X1.here hx rfl (hb hby d5_4) rfl rfl wk) ?_
  show Fin1 p e below s (rmIniQ Z a1 i h0 n0) ({ frames := 2, cells := 0, slots := 0, locals := 24 } : Room).cells ({ frames := 2, cells := 0, slots := 0, locals := 24 } : Room).slots (T1.setTop (mkF m 5 #[.val (.ref a1), .val (.int i)] [(.ref a1)]))
  refine own_st (fun wt wk => XS.iloadN X1.here hx rfl (hb hby d5_5) rfl wk) ?_
  show Fin1 p e below s (rmIniQ Z a1 i h0 n0) ({ frames := 2, cells := 0, slots := 0, locals := 24 } : Room).cells ({ frames := 2, cells := 0, slots := 0, locals := 24 } : Room).slots (T1.setTop (mkF m 6 #[.val (.ref a1), .val (.int i)] [(.int i), (.ref a1)]))
  obtain ⟨T2, h2, X2, e2, W2, st2⟩ := putF X1 hx hZ hown (host := "") (Or.inl (hw _ (List.mem_of_getElem? (i := 43) rfl))) Via.refl e1 F0 E_a1 (Or.inr ⟨(hw _ (List.mem_of_getElem? (i := 44) rfl)), rfl, hnm⟩) (hw _ (List.mem_of_getElem? (i := 31) rfl)) (ty := .int) (by decide) rfl rfl (g := (mkF m 6 #[.val (.ref a1), .val (.int i)] [(.int i), (.ref a1)])) rfl rfl (hb hby d5_6)
  refine own_st st2 ?_
  have N2 := Fr.snoc X2 N1 g_a1
  have Z0 := Nat.le_trans Z0 (Nat.le_of_eq W2.size.symm)
  have K0 := K0.wr W2 (Or.inl (List.mem_of_getElem? (i := 0) rfl))
  have E_a1 := E_a1.wr W2
  have F0 := F0.same W2
  show Fin1 p e below s (rmIniQ Z a1 i h0 n0) ({ frames := 2, cells := 0, slots := 0, locals := 24 } : Room).cells ({ frames := 2, cells := 0, slots := 0, locals := 24 } : Room).slots (T2.setTop (mkF m 9 #[.val (.ref a1), .val (.int i)] []))
  exact own_retV X2 hx hlk hret (hb hby d5_9) (by rw [e2]; exact ⟨rfl, N2, K0, F0⟩) (by decide) (by decide)
theorem d4_0 : decode jdk_33_method_22_code 0 = .ok (.iload_n 0, 1) := by decide +kernel
theorem d4_1 : decode jdk_33_method_22_code 1 = .ok (.bipush (-128), 2) := by decide +kernel
theorem d4_3 : decode jdk_33_method_22_code 3 = .ok (.if_icmp .lt 20, 3) := by decide +kernel
theorem d4_6 : decode jdk_33_method_22_code 6 = .ok (.iload_n 0, 1) := by decide +kernel
theorem d4_7 : decode jdk_33_method_22_code 7 = .ok (.getstatic 191, 3) := by decide +kernel
theorem d4_10 : decode jdk_33_method_22_code 10 = .ok (.if_icmp .gt 13, 3) := by decide +kernel
theorem d4_13 : decode jdk_33_method_22_code 13 = .ok (.getstatic 195, 3) := by decide +kernel
theorem d4_16 : decode jdk_33_method_22_code 16 = .ok (.iload_n 0, 1) := by decide +kernel
theorem d4_17 : decode jdk_33_method_22_code 17 = .ok (.sipush 128, 3) := by decide +kernel
theorem d4_20 : decode jdk_33_method_22_code 20 = .ok (.iadd, 1) := by decide +kernel
theorem d4_21 : decode jdk_33_method_22_code 21 = .ok (.aaload, 1) := by decide +kernel
theorem d4_22 : decode jdk_33_method_22_code 22 = .ok (.areturn, 1) := by decide +kernel
theorem d4_23 : decode jdk_33_method_22_code 23 = .ok (.new 1, 3) := by decide +kernel
theorem d4_26 : decode jdk_33_method_22_code 26 = .ok (.dup, 1) := by decide +kernel
theorem d4_27 : decode jdk_33_method_22_code 27 = .ok (.iload_n 0, 1) := by decide +kernel
theorem d4_28 : decode jdk_33_method_22_code 28 = .ok (.invokespecial 199, 3) := by decide +kernel
theorem d4_31 : decode jdk_33_method_22_code 31 = .ok (.areturn, 1) := by decide +kernel
theorem pd_3 : parseMethodDescriptor "(I)V" = some ⟨[.int], none⟩ := by decide +kernel
def rmVQ (Z : State) (i : Int32) (h0 : Heap) (n0 : Nat) (v : Option Value) (h : Heap) (L : List Loc) : Prop := ∃ r : Addr, v = some (.ref r) ∧ Fr n0 L ∧ Keep h0 h [] ∧ Exa Z h r "java/lang/Integer" ∧ Fld Z h r "java/lang/Integer" "value" "I" (.int i)
set_option maxRecDepth 65536 in
set_option maxHeartbeats 40000000 in
theorem rmV (l : Launch) (Z : State) (a0 : Array Value) (hw : ∀ d ∈ tables_1, d.before a0 Z = true) (i : Int32) (h0 : Heap) (n0 : Nat) (Z0 : n0 ≤ h0.size) (O : Old Z n0 h0) (hic : own_IC Z) :
    Ct l Z [] (⟨"java/lang/Integer", "valueOf", "(I)Ljava/lang/Integer;"⟩ : MethodName) jdk_33_method_22_code 1 (some (.object "java/lang/Integer")) ({ frames := 3, cells := 1, slots := 1, locals := 38 } : Room) #[(.int i)] h0 (rmVQ Z i h0 n0) := by
  refine own_enter (plainFor_of_name pn_1) ?_
  intro p e s m below meth c T0 X0 hx hby hml hZ hown hnm hret hlk e0
  have hown : s.vm.findClass "java/lang/Integer" = some m.cls := hown
  have N0 := Fr.nil n0
  have K0 := Keep.refl h0 []
  refine own_st (fun wt wk => castTop (g' := mkF m 0 #[.val (.int i)] []) (by first | (simp [entryFrame, mkF, argsToLocals, Value.category]; done) | rfl) wk) ?_
  show Fin1 p e below s (rmVQ Z i h0 n0) ({ frames := 3, cells := 1, slots := 1, locals := 38 } : Room).cells ({ frames := 3, cells := 1, slots := 1, locals := 38 } : Room).slots (T0.setTop (mkF m 0 #[.val (.int i)] []))
  obtain ⟨S1, ca, cc, S2, B⟩ := hic
  refine own_st (fun wt wk => XS.iloadN X0.here hx rfl (hb hby d4_0) rfl wk) ?_
  show Fin1 p e below s (rmVQ Z i h0 n0) ({ frames := 3, cells := 1, slots := 1, locals := 38 } : Room).cells ({ frames := 3, cells := 1, slots := 1, locals := 38 } : Room).slots (T0.setTop (mkF m 1 #[.val (.int i)] [(.int i)]))
  refine own_st (fun wt wk => XS.bipush X0.here hx rfl (hb hby d4_1) wk) ?_
  show Fin1 p e below s (rmVQ Z i h0 n0) ({ frames := 3, cells := 1, slots := 1, locals := 38 } : Room).cells ({ frames := 3, cells := 1, slots := 1, locals := 38 } : Room).slots (T0.setTop (mkF m 3 #[.val (.int i)] [(.int (-128 : Int32)), (.int i)]))
  by_cases c3 : i < (-128 : Int32)
  · refine own_st (fun wt wk => XS.icmpYes X0.here hx rfl (pc0 := 3) (pc' := 23) rfl (hb hby d4_3) rfl (tlt c3).1 (by decide) (by decide) wk) ?_
    show Fin1 p e below s (rmVQ Z i h0 n0) ({ frames := 3, cells := 1, slots := 1, locals := 38 } : Room).cells ({ frames := 3, cells := 1, slots := 1, locals := 38 } : Room).slots (T0.setTop (mkF m 23 #[.val (.int i)] []))
    obtain ⟨T1, h1, X1, e1, E1, A1, D1, -, st1⟩ := newO X0 hx hZ hown (hw _ (List.mem_of_getElem? (i := 30) rfl)) (hw _ (List.mem_of_getElem? (i := 31) rfl)) (hw _ (List.mem_of_getElem? (i := 20) rfl)) e0 (g := (mkF m 23 #[.val (.int i)] [])) rfl (hb hby d4_23) (by decide) (by decide)
    obtain ⟨b1, gz_b1⟩ : ∃ z, z = h0.size := ⟨_, rfl⟩
    rw [← gz_b1] at A1 D1 st1
    have sz_b1 : h0.size ≤ b1 := Nat.le_trans K0.1 (Nat.le_of_eq gz_b1.symm)
    have g_b1 : n0 ≤ b1 := Nat.le_trans Z0 (Nat.le_of_eq gz_b1.symm)
    have Z0 := Nat.le_trans Z0 E1.1
    have K0 := K0.ext E1
    have O := O.ext E1
    refine own_st st1 ?_
    have E_b1 := A1
    have F_value_b1 : Fld Z h1 b1 "java/lang/Integer" "value" "I" (.int (0 : Int32)) := D1 (Or.inr (hw _ (List.mem_of_getElem? (i := 44) rfl))) (ty := .int) (by decide)
    show Fin1 p e below s (rmVQ Z i h0 n0) ({ frames := 3, cells := 1, slots := 1, locals := 38 } : Room).cells ({ frames := 3, cells := 1, slots := 1, locals := 38 } : Room).slots (T1.setTop (mkF m 26 #[.val (.int i)] [(.ref b1)]))
    refine own_st (fun wt wk => XS.dup X1.here hx rfl (hb hby d4_26) rfl rfl wk) ?_
    show Fin1 p e below s (rmVQ Z i h0 n0) ({ frames := 3, cells := 1, slots := 1, locals := 38 } : Room).cells ({ frames := 3, cells := 1, slots := 1, locals := 38 } : Room).slots (T1.setTop (mkF m 27 #[.val (.int i)] [(.ref b1), (.ref b1)]))
    refine own_st (fun wt wk => XS.iloadN X1.here hx rfl (hb hby d4_27) rfl wk) ?_
    show Fin1 p e below s (rmVQ Z i h0 n0) ({ frames := 3, cells := 1, slots := 1, locals := 38 } : Room).cells ({ frames := 3, cells := 1, slots := 1, locals := 38 } : Room).slots (T1.setTop (mkF m 28 #[.val (.int i)] [(.int i), (.ref b1), (.ref b1)]))
    obtain ⟨v2, T2, h2, L2, X2, e2, hQ2, st2⟩ := own_special X1 hx hZ hown rfl (hw _ (List.mem_of_getElem? (i := 32) rfl)) (hw _ (List.mem_of_getElem? (i := 33) rfl)) (hw _ (List.mem_of_getElem? (i := 35) rfl)) (hw _ (List.mem_of_getElem? (i := 20) rfl)) (by decide) (a := b1) (rmIni l Z a0 hw b1 i h1 n0 Z0 g_b1 E_b1 F_value_b1) e1 (g := (mkF m 28 #[.val (.int i)] [(.int i), (.ref b1), (.ref b1)])) rfl (by rw [hml]; rfl) (argsL := [(.int i)]) (rest := [(.ref b1)]) (lenOf pd_3 rfl) rfl (W := 1) (by show 2 * 0 + _ ≤ _; exact Nat.le_of_eq rfl) (hb hby d4_28) (by decide) (by decide) (by decide) (by decide)
    obtain ⟨rfl, N2q, K2, G2⟩ := hQ2
    have N2 := Fr.app N0 N2q
    have Z0 := Nat.le_trans Z0 K2.1
    have K0 := K0.trans K2 (allS (P := fun x => x ∈ ([] : List Addr) ∨ h0.size ≤ x) (Or.inr sz_b1) all0)
    have O := O.keep K2 (allS (P := fun x => n0 ≤ x) g_b1 all0)
    have E_b1 := E_b1.keep K2
    refine own_st st2 ?_
    show Fin1 p e below s (rmVQ Z i h0 n0) ({ frames := 3, cells := 1, slots := 1, locals := 38 } : Room).cells ({ frames := 3, cells := 1, slots := 1, locals := 38 } : Room).slots (T2.setTop (mkF m 31 #[.val (.int i)] [(.ref b1)]))
    exact own_retA X2 hx hlk hret rfl rfl (hb hby d4_31) (by rw [e2]; exact ⟨b1, rfl, N2, K0, E_b1, G2⟩) (by decide) (by decide)
  · refine own_st (fun wt wk => XS.icmpNo X0.here hx rfl (hb hby d4_3) rfl (flt c3).1 wk) ?_
    show Fin1 p e below s (rmVQ Z i h0 n0) ({ frames := 3, cells := 1, slots := 1, locals := 38 } : Room).cells ({ frames := 3, cells := 1, slots := 1, locals := 38 } : Room).slots (T0.setTop (mkF m 6 #[.val (.int i)] []))
    refine own_st (fun wt wk => XS.iloadN X0.here hx rfl (hb hby d4_6) rfl wk) ?_
    show Fin1 p e below s (rmVQ Z i h0 n0) ({ frames := 3, cells := 1, slots := 1, locals := 38 } : Room).cells ({ frames := 3, cells := 1, slots := 1, locals := 38 } : Room).slots (T0.setTop (mkF m 7 #[.val (.int i)] [(.int i)]))
    obtain ⟨T3, X3, e3, st3⟩ := getS2 X0 hx hZ hown (host := "") (Or.inl (hw _ (List.mem_of_getElem? (i := 22) rfl))) Via.refl e0 (S1.ext O.2) (g := (mkF m 7 #[.val (.int i)] [(.int i)])) rfl (hb hby d4_7)
    refine own_st st3 ?_
    show Fin1 p e below s (rmVQ Z i h0 n0) ({ frames := 3, cells := 1, slots := 1, locals := 38 } : Room).cells ({ frames := 3, cells := 1, slots := 1, locals := 38 } : Room).slots (T3.setTop (mkF m 10 #[.val (.int i)] [(.int (127 : Int32)), (.int i)]))
    by_cases c10 : (127 : Int32) < i
    · refine own_st (fun wt wk => XS.icmpYes X3.here hx rfl (pc0 := 10) (pc' := 23) rfl (hb hby d4_10) rfl (tlt c10).2.2.1 (by decide) (by decide) wk) ?_
      show Fin1 p e below s (rmVQ Z i h0 n0) ({ frames := 3, cells := 1, slots := 1, locals := 38 } : Room).cells ({ frames := 3, cells := 1, slots := 1, locals := 38 } : Room).slots (T3.setTop (mkF m 23 #[.val (.int i)] []))
      obtain ⟨T4, h4, X4, e4, E4, A4, D4, -, st4⟩ := newO X3 hx hZ hown (hw _ (List.mem_of_getElem? (i := 30) rfl)) (hw _ (List.mem_of_getElem? (i := 31) rfl)) (hw _ (List.mem_of_getElem? (i := 20) rfl)) e3 (g := (mkF m 23 #[.val (.int i)] [])) rfl (hb hby d4_23) (by decide) (by decide)
      obtain ⟨b4, gz_b4⟩ : ∃ z, z = h0.size := ⟨_, rfl⟩
      rw [← gz_b4] at A4 D4 st4
      have sz_b4 : h0.size ≤ b4 := Nat.le_trans K0.1 (Nat.le_of_eq gz_b4.symm)
      have g_b4 : n0 ≤ b4 := Nat.le_trans Z0 (Nat.le_of_eq gz_b4.symm)
      have Z0 := Nat.le_trans Z0 E4.1
      have K0 := K0.ext E4
      have O := O.ext E4
      refine own_st st4 ?_
      have E_b4 := A4
      have F_value_b4 : Fld Z h4 b4 "java/lang/Integer" "value" "I" (.int (0 : Int32)) := D4 (Or.inr (hw _ (List.mem_of_getElem? (i := 44) rfl))) (ty := .int) (by decide)
      show Fin1 p e below s (rmVQ Z i h0 n0) ({ frames := 3, cells := 1, slots := 1, locals := 38 } : Room).cells ({ frames := 3, cells := 1, slots := 1, locals := 38 } : Room).slots (T4.setTop (mkF m 26 #[.val (.int i)] [(.ref b4)]))
      refine own_st (fun wt wk => XS.dup X4.here hx rfl (hb hby d4_26) rfl rfl wk) ?_
      show Fin1 p e below s (rmVQ Z i h0 n0) ({ frames := 3, cells := 1, slots := 1, locals := 38 } : Room).cells ({ frames := 3, cells := 1, slots := 1, locals := 38 } : Room).slots (T4.setTop (mkF m 27 #[.val (.int i)] [(.ref b4), (.ref b4)]))
      refine own_st (fun wt wk => XS.iloadN X4.here hx rfl (hb hby d4_27) rfl wk) ?_
      show Fin1 p e below s (rmVQ Z i h0 n0) ({ frames := 3, cells := 1, slots := 1, locals := 38 } : Room).cells ({ frames := 3, cells := 1, slots := 1, locals := 38 } : Room).slots (T4.setTop (mkF m 28 #[.val (.int i)] [(.int i), (.ref b4), (.ref b4)]))
      obtain ⟨v5, T5, h5, L5, X5, e5, hQ5, st5⟩ := own_special X4 hx hZ hown rfl (hw _ (List.mem_of_getElem? (i := 32) rfl)) (hw _ (List.mem_of_getElem? (i := 33) rfl)) (hw _ (List.mem_of_getElem? (i := 35) rfl)) (hw _ (List.mem_of_getElem? (i := 20) rfl)) (by decide) (a := b4) (rmIni l Z a0 hw b4 i h4 n0 Z0 g_b4 E_b4 F_value_b4) e4 (g := (mkF m 28 #[.val (.int i)] [(.int i), (.ref b4), (.ref b4)])) rfl (by rw [hml]; rfl) (argsL := [(.int i)]) (rest := [(.ref b4)]) (lenOf pd_3 rfl) rfl (W := 1) (by show 2 * 0 + _ ≤ _; exact Nat.le_of_eq rfl) (hb hby d4_28) (by decide) (by decide) (by decide) (by decide)
      obtain ⟨rfl, N5q, K5, G5⟩ := hQ5
      have N5 := Fr.app N0 N5q
      have Z0 := Nat.le_trans Z0 K5.1
      have K0 := K0.trans K5 (allS (P := fun x => x ∈ ([] : List Addr) ∨ h0.size ≤ x) (Or.inr sz_b4) all0)
      have O := O.keep K5 (allS (P := fun x => n0 ≤ x) g_b4 all0)
      have E_b4 := E_b4.keep K5
      refine own_st st5 ?_
      show Fin1 p e below s (rmVQ Z i h0 n0) ({ frames := 3, cells := 1, slots := 1, locals := 38 } : Room).cells ({ frames := 3, cells := 1, slots := 1, locals := 38 } : Room).slots (T5.setTop (mkF m 31 #[.val (.int i)] [(.ref b4)]))
      exact own_retA X5 hx hlk hret rfl rfl (hb hby d4_31) (by rw [e5]; exact ⟨b4, rfl, N5, K0, E_b4, G5⟩) (by decide) (by decide)
    · refine own_st (fun wt wk => XS.icmpNo X3.here hx rfl (hb hby d4_10) rfl (flt c10).2.2.1 wk) ?_
      show Fin1 p e below s (rmVQ Z i h0 n0) ({ frames := 3, cells := 1, slots := 1, locals := 38 } : Room).cells ({ frames := 3, cells := 1, slots := 1, locals := 38 } : Room).slots (T3.setTop (mkF m 13 #[.val (.int i)] []))
      obtain ⟨T6, X6, e6, st6⟩ := getS2 X3 hx hZ hown (host := "") (Or.inl (hw _ (List.mem_of_getElem? (i := 24) rfl))) Via.refl e3 (S2.ext O.2) (g := (mkF m 13 #[.val (.int i)] [])) rfl (hb hby d4_13)
      refine own_st st6 ?_
      show Fin1 p e below s (rmVQ Z i h0 n0) ({ frames := 3, cells := 1, slots := 1, locals := 38 } : Room).cells ({ frames := 3, cells := 1, slots := 1, locals := 38 } : Room).slots (T6.setTop (mkF m 16 #[.val (.int i)] [(.ref ca)]))
      refine own_st (fun wt wk => XS.iloadN X6.here hx rfl (hb hby d4_16) rfl wk) ?_
      show Fin1 p e below s (rmVQ Z i h0 n0) ({ frames := 3, cells := 1, slots := 1, locals := 38 } : Room).cells ({ frames := 3, cells := 1, slots := 1, locals := 38 } : Room).slots (T6.setTop (mkF m 17 #[.val (.int i)] [(.int i), (.ref ca)]))
      refine own_st (fun wt wk => XS.sipush X6.here hx rfl (hb hby d4_17) wk) ?_
      show Fin1 p e below s (rmVQ Z i h0 n0) ({ frames := 3, cells := 1, slots := 1, locals := 38 } : Room).cells ({ frames := 3, cells := 1, slots := 1, locals := 38 } : Room).slots (T6.setTop (mkF m 20 #[.val (.int i)] [(.int (128 : Int32)), (.int i), (.ref ca)]))
      refine own_st (fun wt wk => XS.iadd X6.here hx rfl (hb hby d4_20) rfl wk) ?_
      show Fin1 p e below s (rmVQ Z i h0 n0) ({ frames := 3, cells := 1, slots := 1, locals := 38 } : Room).cells ({ frames := 3, cells := 1, slots := 1, locals := 38 } : Room).slots (T6.setTop (mkF m 21 #[.val (.int i)] [(.int (i + (128 : Int32))), (.ref ca)]))
      obtain ⟨x1, x2, x3⟩ := own_idx i c3 c10
      obtain ⟨A, S, -⟩ := B.ext O.2
      have hin := inb_of S ⟨x1, x2⟩
      obtain ⟨r, hat, Er, Fr0⟩ := B.2.2.2 (i + (128 : Int32)) hin
      simp only [x3] at Fr0
      refine own_st (X6.aaload hx (j := (i + (128 : Int32))) (v := .ref r) (by rw [e6]; exact A.1) (State.isArrayOf_alike hZ.alike A.2.1) rfl A.2.2 hin hat (g := (mkF m 21 #[.val (.int i)] [(.int (i + (128 : Int32))), (.ref ca)])) rfl rfl (hb hby d4_21)) ?_
      show Fin1 p e below s (rmVQ Z i h0 n0) ({ frames := 3, cells := 1, slots := 1, locals := 38 } : Room).cells ({ frames := 3, cells := 1, slots := 1, locals := 38 } : Room).slots (T6.setTop (mkF m 22 #[.val (.int i)] [(.ref r)]))
      exact own_retA X6 hx hlk hret rfl rfl (hb hby d4_22) (by rw [e6]; exact ⟨r, rfl, N0, K0, Er.ext O.2, Fr0.ext O.2⟩) (by decide) (by decide)
def own_eq (a b c d : Int32) : Int32 := if a = c then (if b = d then 1 else 0) else 0
theorem d1_0 : decode prog_17_method_1_code 0 = .ok (.aload_n 0, 1) := by decide +kernel
theorem d1_1 : decode prog_17_method_1_code 1 = .ok (.invokespecial 1, 3) := by decide +kernel
theorem d1_4 : decode prog_17_method_1_code 4 = .ok (.aload_n 0, 1) := by decide +kernel
theorem d1_5 : decode prog_17_method_1_code 5 = .ok (.iload_n 1, 1) := by decide +kernel
theorem d1_6 : decode prog_17_method_1_code 6 = .ok (.putfield 7, 3) := by decide +kernel
theorem d1_9 : decode prog_17_method_1_code 9 = .ok (.aload_n 0, 1) := by decide +kernel
theorem d1_10 : decode prog_17_method_1_code 10 = .ok (.iload_n 2, 1) := by decide +kernel
theorem d1_11 : decode prog_17_method_1_code 11 = .ok (.putfield 13, 3) := by decide +kernel
theorem d1_14 : decode prog_17_method_1_code 14 = .ok (.return_, 1) := by decide +kernel
theorem pn_4 : plainName "com/example/electd/electd/model/Mode" = true := by first | (simp [plainName, overriddenIn]; done) | decide +kernel
def rmCQ (Z : State) (a1 : Addr) (x : Int32) (y : Int32) (h0 : Heap) (n0 : Nat) (v : Option Value) (h : Heap) (L : List Loc) : Prop := v = none ∧ Fr n0 L ∧ Keep h0 h [a1] ∧ Fld Z h a1 "com/example/electd/electd/model/Mode" "sticky" "Z" (.int x) ∧ Fld Z h a1 "com/example/electd/electd/model/Mode" "majority" "Z" (.int y)
set_option maxRecDepth 65536 in
set_option maxHeartbeats 40000000 in
theorem rmC (l : Launch) (Z : State) (a0 : Array Value) (hw : ∀ d ∈ tables_1, d.before a0 Z = true) (a1 : Addr) (x : Int32) (y : Int32) (h0 : Heap) (n0 : Nat) (Z0 : n0 ≤ h0.size) (g_a1 : n0 ≤ a1) (E_a1 : Exa Z h0 a1 "com/example/electd/electd/model/Mode") (F0 : Fld Z h0 a1 "com/example/electd/electd/model/Mode" "sticky" "Z" (.int (0 : Int32))) (F1 : Fld Z h0 a1 "com/example/electd/electd/model/Mode" "majority" "Z" (.int (0 : Int32))) (hx1 : x = 0 ∨ x = 1) (hy1 : y = 0 ∨ y = 1) :
    Ct l Z [] (⟨"com/example/electd/electd/model/Mode", "<init>", "(ZZ)V"⟩ : MethodName) prog_17_method_1_code 3 none ({ frames := 1, cells := 0, slots := 0, locals := 12 } : Room) #[(.ref a1), (.int x), (.int y)] h0 (rmCQ Z a1 x y h0 n0) := by
  refine own_enter (plainFor_of_name pn_4) ?_
  intro p e s m below meth c T0 X0 hx hby hml hZ hown hnm hret hlk e0
  have hown : s.vm.findClass "com/example/electd/electd/model/Mode" = some m.cls := hown
  have N0 := Fr.nil n0
  have K0 := Keep.refl h0 [a1]
  refine own_st (fun wt wk => castTop (g' := mkF m 0 #[.val (.ref a1), .val (.int x), .val (.int y)] []) (by first | (simp [entryFrame, mkF, argsToLocals, Value.category]; done) | rfl) wk) ?_
  show Fin1 p e below s (rmCQ Z a1 x y h0 n0) ({ frames := 1, cells := 0, slots := 0, locals := 12 } : Room).cells ({ frames := 1, cells := 0, slots := 0, locals := 12 } : Room).slots (T0.setTop (mkF m 0 #[.val (.ref a1), .val (.int x), .val (.int y)] []))
  refine own_st (fun wt wk => XS.aloadN X0.here hx rfl (hb hby d1_0) rfl rfl wk) ?_
  show Fin1 p e below s (rmCQ Z a1 x y h0 n0) ({ frames := 1, cells := 0, slots := 0, locals := 12 } : Room).cells ({ frames := 1, cells := 0, slots := 0, locals := 12 } : Room).slots (T0.setTop (mkF m 1 #[.val (.ref a1), .val (.int x), .val (.int y)] [(.ref a1)]))
  obtain ⟨T1, X1, e1, st1⟩ := initO X0 hx hZ hown (hw _ (List.mem_of_getElem? (i := 6) rfl)) (hw _ (List.mem_of_getElem? (i := 7) rfl)) (hw _ (List.mem_of_getElem? (i := 8) rfl)) e0 (g := (mkF m 1 #[.val (.ref a1), .val (.int x), .val (.int y)] [(.ref a1)])) rfl (by rw [hml]; rfl) rfl (hb hby d1_1) (by decide) (W := 0) (by show 2 * 0 + _ ≤ _; exact Nat.le_of_eq rfl) (by decide)
  refine own_st st1 ?_
  show Fin1 p e below s (rmCQ Z a1 x y h0 n0) ({ frames := 1, cells := 0, slots := 0, locals := 12 } : Room).cells ({ frames := 1, cells := 0, slots := 0, locals := 12 } : Room).slots (T1.setTop (mkF m 4 #[.val (.ref a1), .val (.int x), .val (.int y)] []))
  refine own_st (fun wt wk => XS.aloadN X1.here hx rfl (hb hby d1_4) rfl rfl wk) ?_
  show Fin1 p e below s (rmCQ Z a1 x y h0 n0) ({ frames := 1, cells := 0, slots := 0, locals := 12 } : Room).cells ({ frames := 1, cells := 0, slots := 0, locals := 12 } : Room).slots (T1.setTop (mkF m 5 #[.val (.ref a1), .val (.int x), .val (.int y)] [(.ref a1)]))
  refine own_st (fun wt wk => XS.iloadN X1.here hx rfl (hb hby d1_5) rfl wk) ?_
  show Fin1 p e below s (rmCQ Z a1 x y h0 n0) ({ frames := 1, cells := 0, slots := 0, locals := 12 } : Room).cells ({ frames := 1, cells := 0, slots := 0, locals := 12 } : Room).slots (T1.setTop (mkF m 6 #[.val (.ref a1), .val (.int x), .val (.int y)] [(.int x), (.ref a1)]))
  obtain ⟨T2, h2, X2, e2, W2, st2⟩ := putFN X1 hx hZ hown (hw _ (List.mem_of_getElem? (i := 9) rfl)) Via.refl e1 F0 E_a1 (Or.inr ⟨(hw _ (List.mem_of_getElem? (i := 10) rfl)), rfl, hnm⟩) (hw _ (List.mem_of_getElem? (i := 1) rfl)) (ty := .boolean) (v' := (.int x)) (by decide) (by rcases hx1 with rfl | rfl <;> rfl) (by rcases hx1 with rfl | rfl <;> rfl) (g := (mkF m 6 #[.val (.ref a1), .val (.int x), .val (.int y)] [(.int x), (.ref a1)])) rfl rfl (hb hby d1_6)
  refine own_st st2 ?_
  have N2 := Fr.snoc X2 N0 g_a1
  have Z0 := Nat.le_trans Z0 (Nat.le_of_eq W2.size.symm)
  have K0 := K0.wr W2 (Or.inl (List.mem_of_getElem? (i := 0) rfl))
  have E_a1 := E_a1.wr W2
  have F0 := F0.same W2
  have F1 := F1.other W2 (Or.inr (slot_ne (Or.inr (hw _ (List.mem_of_getElem? (i := 12) rfl))) (Or.inr (hw _ (List.mem_of_getElem? (i := 10) rfl))) (by decide) (t := .boolean) (t' := .boolean) (by decide) (by decide)))
  show Fin1 p e below s (rmCQ Z a1 x y h0 n0) ({ frames := 1, cells := 0, slots := 0, locals := 12 } : Room).cells ({ frames := 1, cells := 0, slots := 0, locals := 12 } : Room).slots (T2.setTop (mkF m 9 #[.val (.ref a1), .val (.int x), .val (.int y)] []))
  refine own_st (fun wt wk => XS.aloadN X2.here hx rfl (hb hby d1_9) rfl rfl wk) ?_
  show Fin1 p e below s (rmCQ Z a1 x y h0 n0) ({ frames := 1, cells := 0, slots := 0, locals := 12 } : Room).cells ({ frames := 1, cells := 0, slots := 0, locals := 12 } : Room).slots (T2.setTop (mkF m 10 #[.val (.ref a1), .val (.int x), .val (.int y)] [(.ref a1)]))
  refine own_st (fun wt wk => XS.iloadN X2.here hx rfl (hb hby d1_10) rfl wk) ?_
  show Fin1 p e below s (rmCQ Z a1 x y h0 n0) ({ frames := 1, cells := 0, slots := 0, locals := 12 } : Room).cells ({ frames := 1, cells := 0, slots := 0, locals := 12 } : Room).slots (T2.setTop (mkF m 11 #[.val (.ref a1), .val (.int x), .val (.int y)] [(.int y), (.ref a1)]))
  obtain ⟨T3, h3, X3, e3, W3, st3⟩ := putFN X2 hx hZ hown (hw _ (List.mem_of_getElem? (i := 11) rfl)) Via.refl e2 F1 E_a1 (Or.inr ⟨(hw _ (List.mem_of_getElem? (i := 12) rfl)), rfl, hnm⟩) (hw _ (List.mem_of_getElem? (i := 1) rfl)) (ty := .boolean) (v' := (.int y)) (by decide) (by rcases hy1 with rfl | rfl <;> rfl) (by rcases hy1 with rfl | rfl <;> rfl) (g := (mkF m 11 #[.val (.ref a1), .val (.int x), .val (.int y)] [(.int y), (.ref a1)])) rfl rfl (hb hby d1_11)
  refine own_st st3 ?_
  have N3 := Fr.snoc X3 N2 g_a1
  have Z0 := Nat.le_trans Z0 (Nat.le_of_eq W3.size.symm)
  have K0 := K0.wr W3 (Or.inl (List.mem_of_getElem? (i := 0) rfl))
  have E_a1 := E_a1.wr W3
  have F0 := F0.other W3 (Or.inr (slot_ne (Or.inr (hw _ (List.mem_of_getElem? (i := 10) rfl))) (Or.inr (hw _ (List.mem_of_getElem? (i := 12) rfl))) (by decide) (t := .boolean) (t' := .boolean) (by decide) (by decide)))
  have F1 := F1.same W3
  show Fin1 p e below s (rmCQ Z a1 x y h0 n0) ({ frames := 1, cells := 0, slots := 0, locals := 12 } : Room).cells ({ frames := 1, cells := 0, slots := 0, locals := 12 } : Room).slots (T3.setTop (mkF m 14 #[.val (.ref a1), .val (.int x), .val (.int y)] []))
  exact own_retV X3 hx hlk hret (hb hby d1_14) (by rw [e3]; exact ⟨rfl, N3, K0, F0, F1⟩) (by decide) (by decide)
theorem d3_0 : decode prog_17_method_4_code 0 = .ok (.aload_n 1, 1) := by decide +kernel
theorem d3_1 : decode prog_17_method_4_code 1 = .ok (.instanceof 8, 3) := by decide +kernel
theorem d3_4 : decode prog_17_method_4_code 4 = .ok (.ifCond .ne 5, 3) := by decide +kernel
theorem d3_7 : decode prog_17_method_4_code 7 = .ok (.iconst 0, 1) := by decide +kernel
theorem d3_8 : decode prog_17_method_4_code 8 = .ok (.ireturn, 1) := by decide +kernel
theorem d3_9 : decode prog_17_method_4_code 9 = .ok (.aload_n 1, 1) := by decide +kernel
theorem d3_10 : decode prog_17_method_4_code 10 = .ok (.checkcast 8, 3) := by decide +kernel
theorem d3_13 : decode prog_17_method_4_code 13 = .ok (.astore_n 2, 1) := by decide +kernel
theorem d3_14 : decode prog_17_method_4_code 14 = .ok (.aload_n 0, 1) := by decide +kernel
theorem d3_15 : decode prog_17_method_4_code 15 = .ok (.getfield 7, 3) := by decide +kernel
theorem d3_18 : decode prog_17_method_4_code 18 = .ok (.aload_n 2, 1) := by decide +kernel
theorem d3_19 : decode prog_17_method_4_code 19 = .ok (.getfield 7, 3) := by decide +kernel
theorem d3_22 : decode prog_17_method_4_code 22 = .ok (.if_icmp .ne 18, 3) := by decide +kernel
theorem d3_25 : decode prog_17_method_4_code 25 = .ok (.aload_n 0, 1) := by decide +kernel
theorem d3_26 : decode prog_17_method_4_code 26 = .ok (.getfield 13, 3) := by decide +kernel
theorem d3_29 : decode prog_17_method_4_code 29 = .ok (.aload_n 2, 1) := by decide +kernel
theorem d3_30 : decode prog_17_method_4_code 30 = .ok (.getfield 13, 3) := by decide +kernel
theorem d3_33 : decode prog_17_method_4_code 33 = .ok (.if_icmp .ne 7, 3) := by decide +kernel
theorem d3_36 : decode prog_17_method_4_code 36 = .ok (.iconst 1, 1) := by decide +kernel
theorem d3_37 : decode prog_17_method_4_code 37 = .ok (.goto 4, 3) := by decide +kernel
theorem d3_40 : decode prog_17_method_4_code 40 = .ok (.iconst 0, 1) := by decide +kernel
theorem d3_41 : decode prog_17_method_4_code 41 = .ok (.ireturn, 1) := by decide +kernel
def rmEQ (Z : State) (a1 : Addr) (a2 : Addr) (x1 : Int32) (y1 : Int32) (x2 : Int32) (y2 : Int32) (r : Int32) (h0 : Heap) (n0 : Nat) (v : Option Value) (h : Heap) (L : List Loc) : Prop := v = some (.int r) ∧ Fr n0 L ∧ h = h0
set_option maxRecDepth 65536 in
set_option maxHeartbeats 40000000 in
theorem rmE (l : Launch) (Z : State) (a0 : Array Value) (hw : ∀ d ∈ tables_1, d.before a0 Z = true) (a1 : Addr) (a2 : Addr) (x1 : Int32) (y1 : Int32) (x2 : Int32) (y2 : Int32) (r : Int32) (h0 : Heap) (n0 : Nat) (Z0 : n0 ≤ h0.size) (E_a2 : Exa Z h0 a2 "com/example/electd/electd/model/Mode") (F0 : Fld Z h0 a1 "com/example/electd/electd/model/Mode" "sticky" "Z" (.int x1)) (F1 : Fld Z h0 a1 "com/example/electd/electd/model/Mode" "majority" "Z" (.int y1)) (G0 : Fld Z h0 a2 "com/example/electd/electd/model/Mode" "sticky" "Z" (.int x2)) (G1 : Fld Z h0 a2 "com/example/electd/electd/model/Mode" "majority" "Z" (.int y2)) (hr : r = own_eq x1 y1 x2 y2) :
    Ct l Z [] (⟨"com/example/electd/electd/model/Mode", "equals", "(Ljava/lang/Object;)Z"⟩ : MethodName) prog_17_method_4_code 3 (some .boolean) ({ frames := 0, cells := 0, slots := 0, locals := 0 } : Room) #[(.ref a1), (.ref a2)] h0 (rmEQ Z a1 a2 x1 y1 x2 y2 r h0 n0) := by
  refine own_enter (plainFor_of_name pn_4) ?_
  intro p e s m below meth c T0 X0 hx hby hml hZ hown hnm hret hlk e0
  have hown : s.vm.findClass "com/example/electd/electd/model/Mode" = some m.cls := hown
  have N0 := Fr.nil n0
  have K0 := Keep.refl h0 []
  refine own_st (fun wt wk => castTop (g' := mkF m 0 #[.val (.ref a1), .val (.ref a2), .unset] []) (by first | (simp [entryFrame, mkF, argsToLocals, Value.category]; done) | rfl) wk) ?_
  show Fin1 p e below s (rmEQ Z a1 a2 x1 y1 x2 y2 r h0 n0) ({ frames := 0, cells := 0, slots := 0, locals := 0 } : Room).cells ({ frames := 0, cells := 0, slots := 0, locals := 0 } : Room).slots (T0.setTop (mkF m 0 #[.val (.ref a1), .val (.ref a2), .unset] []))
  refine own_st (fun wt wk => XS.aloadN X0.here hx rfl (hb hby d3_0) rfl rfl wk) ?_
  show Fin1 p e below s (rmEQ Z a1 a2 x1 y1 x2 y2 r h0 n0) ({ frames := 0, cells := 0, slots := 0, locals := 0 } : Room).cells ({ frames := 0, cells := 0, slots := 0, locals := 0 } : Room).slots (T0.setTop (mkF m 1 #[.val (.ref a1), .val (.ref a2), .unset] [(.ref a2)]))
  obtain ⟨T1, X1, e1, st1⟩ := instY X0 hx hZ hown (hw _ (List.mem_of_getElem? (i := 25) rfl)) e0 (Ins.self E_a2) (g := (mkF m 1 #[.val (.ref a1), .val (.ref a2), .unset] [(.ref a2)])) rfl rfl (hb hby d3_1)
  refine own_st st1 ?_
  show Fin1 p e below s (rmEQ Z a1 a2 x1 y1 x2 y2 r h0 n0) ({ frames := 0, cells := 0, slots := 0, locals := 0 } : Room).cells ({ frames := 0, cells := 0, slots := 0, locals := 0 } : Room).slots (T1.setTop (mkF m 4 #[.val (.ref a1), .val (.ref a2), .unset] [(.int (1 : Int32))]))
  refine own_st (fun wt wk => XS.ifYes X1.here hx rfl (pc0 := 4) (pc' := 9) rfl (hb hby d3_4) rfl ((if0 _ _).trans (feq (by decide)).2) (by decide) (by decide) wk) ?_
  show Fin1 p e below s (rmEQ Z a1 a2 x1 y1 x2 y2 r h0 n0) ({ frames := 0, cells := 0, slots := 0, locals := 0 } : Room).cells ({ frames := 0, cells := 0, slots := 0, locals := 0 } : Room).slots (T1.setTop (mkF m 9 #[.val (.ref a1), .val (.ref a2), .unset] []))
  refine own_st (fun wt wk => XS.aloadN X1.here hx rfl (hb hby d3_9) rfl rfl wk) ?_
  show Fin1 p e below s (rmEQ Z a1 a2 x1 y1 x2 y2 r h0 n0) ({ frames := 0, cells := 0, slots := 0, locals := 0 } : Room).cells ({ frames := 0, cells := 0, slots := 0, locals := 0 } : Room).slots (T1.setTop (mkF m 10 #[.val (.ref a1), .val (.ref a2), .unset] [(.ref a2)]))
  obtain ⟨T2, X2, e2, st2⟩ := castY X1 hx hZ hown (hw _ (List.mem_of_getElem? (i := 25) rfl)) e1 (Ins.self E_a2) (g := (mkF m 10 #[.val (.ref a1), .val (.ref a2), .unset] [(.ref a2)])) rfl rfl (hb hby d3_10)
  refine own_st st2 ?_
  show Fin1 p e below s (rmEQ Z a1 a2 x1 y1 x2 y2 r h0 n0) ({ frames := 0, cells := 0, slots := 0, locals := 0 } : Room).cells ({ frames := 0, cells := 0, slots := 0, locals := 0 } : Room).slots (T2.setTop (mkF m 13 #[.val (.ref a1), .val (.ref a2), .unset] [(.ref a2)]))
  refine own_st (fun wt wk => XS.astoreN X2.here hx rfl (hb hby d3_13) rfl rfl (l' := #[.val (.ref a1), .val (.ref a2), .val (.ref a2)]) rfl wk) ?_
  show Fin1 p e below s (rmEQ Z a1 a2 x1 y1 x2 y2 r h0 n0) ({ frames := 0, cells := 0, slots := 0, locals := 0 } : Room).cells ({ frames := 0, cells := 0, slots := 0, locals := 0 } : Room).slots (T2.setTop (mkF m 14 #[.val (.ref a1), .val (.ref a2), .val (.ref a2)] []))
  refine own_st (fun wt wk => XS.aloadN X2.here hx rfl (hb hby d3_14) rfl rfl wk) ?_
  show Fin1 p e below s (rmEQ Z a1 a2 x1 y1 x2 y2 r h0 n0) ({ frames := 0, cells := 0, slots := 0, locals := 0 } : Room).cells ({ frames := 0, cells := 0, slots := 0, locals := 0 } : Room).slots (T2.setTop (mkF m 15 #[.val (.ref a1), .val (.ref a2), .val (.ref a2)] [(.ref a1)]))
  obtain ⟨T3, X3, e3, st3⟩ := getF X2 hx hZ hown (host := "") (Or.inl (hw _ (List.mem_of_getElem? (i := 9) rfl))) Via.refl e2 F0 (g := (mkF m 15 #[.val (.ref a1), .val (.ref a2), .val (.ref a2)] [(.ref a1)])) rfl rfl (hb hby d3_15)
  refine own_st st3 ?_
  show Fin1 p e below s (rmEQ Z a1 a2 x1 y1 x2 y2 r h0 n0) ({ frames := 0, cells := 0, slots := 0, locals := 0 } : Room).cells ({ frames := 0, cells := 0, slots := 0, locals := 0 } : Room).slots (T3.setTop (mkF m 18 #[.val (.ref a1), .val (.ref a2), .val (.ref a2)] [(.int x1)]))
  refine own_st (fun wt wk => XS.aloadN X3.here hx rfl (hb hby d3_18) rfl rfl wk) ?_
  show Fin1 p e below s (rmEQ Z a1 a2 x1 y1 x2 y2 r h0 n0) ({ frames := 0, cells := 0, slots := 0, locals := 0 } : Room).cells ({ frames := 0, cells := 0, slots := 0, locals := 0 } : Room).slots (T3.setTop (mkF m 19 #[.val (.ref a1), .val (.ref a2), .val (.ref a2)] [(.ref a2), (.int x1)]))
  obtain ⟨T4, X4, e4, st4⟩ := getF X3 hx hZ hown (host := "") (Or.inl (hw _ (List.mem_of_getElem? (i := 9) rfl))) Via.refl e3 G0 (g := (mkF m 19 #[.val (.ref a1), .val (.ref a2), .val (.ref a2)] [(.ref a2), (.int x1)])) rfl rfl (hb hby d3_19)
  refine own_st st4 ?_
  show Fin1 p e below s (rmEQ Z a1 a2 x1 y1 x2 y2 r h0 n0) ({ frames := 0, cells := 0, slots := 0, locals := 0 } : Room).cells ({ frames := 0, cells := 0, slots := 0, locals := 0 } : Room).slots (T4.setTop (mkF m 22 #[.val (.ref a1), .val (.ref a2), .val (.ref a2)] [(.int x2), (.int x1)]))
  by_cases c22 : x1 = x2
  · refine own_st (fun wt wk => XS.icmpNo X4.here hx rfl (hb hby d3_22) rfl (teq c22).2 wk) ?_
    show Fin1 p e below s (rmEQ Z a1 a2 x1 y1 x2 y2 r h0 n0) ({ frames := 0, cells := 0, slots := 0, locals := 0 } : Room).cells ({ frames := 0, cells := 0, slots := 0, locals := 0 } : Room).slots (T4.setTop (mkF m 25 #[.val (.ref a1), .val (.ref a2), .val (.ref a2)] []))
    refine own_st (fun wt wk => XS.aloadN X4.here hx rfl (hb hby d3_25) rfl rfl wk) ?_
    show Fin1 p e below s (rmEQ Z a1 a2 x1 y1 x2 y2 r h0 n0) ({ frames := 0, cells := 0, slots := 0, locals := 0 } : Room).cells ({ frames := 0, cells := 0, slots := 0, locals := 0 } : Room).slots (T4.setTop (mkF m 26 #[.val (.ref a1), .val (.ref a2), .val (.ref a2)] [(.ref a1)]))
    obtain ⟨T5, X5, e5, st5⟩ := getF X4 hx hZ hown (host := "") (Or.inl (hw _ (List.mem_of_getElem? (i := 11) rfl))) Via.refl e4 F1 (g := (mkF m 26 #[.val (.ref a1), .val (.ref a2), .val (.ref a2)] [(.ref a1)])) rfl rfl (hb hby d3_26)
    refine own_st st5 ?_
    show Fin1 p e below s (rmEQ Z a1 a2 x1 y1 x2 y2 r h0 n0) ({ frames := 0, cells := 0, slots := 0, locals := 0 } : Room).cells ({ frames := 0, cells := 0, slots := 0, locals := 0 } : Room).slots (T5.setTop (mkF m 29 #[.val (.ref a1), .val (.ref a2), .val (.ref a2)] [(.int y1)]))
    refine own_st (fun wt wk => XS.aloadN X5.here hx rfl (hb hby d3_29) rfl rfl wk) ?_
    show Fin1 p e below s (rmEQ Z a1 a2 x1 y1 x2 y2 r h0 n0) ({ frames := 0, cells := 0, slots := 0, locals := 0 } : Room).cells ({ frames := 0, cells := 0, slots := 0, locals := 0 } : Room).slots (T5.setTop (mkF m 30 #[.val (.ref a1), .val (.ref a2), .val (.ref a2)] [(.ref a2), (.int y1)]))
    obtain ⟨T6, X6, e6, st6⟩ := getF X5 hx hZ hown (host := "") (Or.inl (hw _ (List.mem_of_getElem? (i := 11) rfl))) Via.refl e5 G1 (g := (mkF m 30 #[.val (.ref a1), .val (.ref a2), .val (.ref a2)] [(.ref a2), (.int y1)])) rfl rfl (hb hby d3_30)
    refine own_st st6 ?_
    show Fin1 p e below s (rmEQ Z a1 a2 x1 y1 x2 y2 r h0 n0) ({ frames := 0, cells := 0, slots := 0, locals := 0 } : Room).cells ({ frames := 0, cells := 0, slots := 0, locals := 0 } : Room).slots (T6.setTop (mkF m 33 #[.val (.ref a1), .val (.ref a2), .val (.ref a2)] [(.int y2), (.int y1)]))
    by_cases c33 : y1 = y2
    · refine own_st (fun wt wk => XS.icmpNo X6.here hx rfl (hb hby d3_33) rfl (teq c33).2 wk) ?_
      show Fin1 p e below s (rmEQ Z a1 a2 x1 y1 x2 y2 r h0 n0) ({ frames := 0, cells := 0, slots := 0, locals := 0 } : Room).cells ({ frames := 0, cells := 0, slots := 0, locals := 0 } : Room).slots (T6.setTop (mkF m 36 #[.val (.ref a1), .val (.ref a2), .val (.ref a2)] []))
      refine own_st (fun wt wk => XS.iconst X6.here hx rfl (hb hby d3_36) wk) ?_
      show Fin1 p e below s (rmEQ Z a1 a2 x1 y1 x2 y2 r h0 n0) ({ frames := 0, cells := 0, slots := 0, locals := 0 } : Room).cells ({ frames := 0, cells := 0, slots := 0, locals := 0 } : Room).slots (T6.setTop (mkF m 37 #[.val (.ref a1), .val (.ref a2), .val (.ref a2)] [(.int (1 : Int32))]))
      refine own_st (fun wt wk => XS.goto X6.here hx rfl (pc0 := 37) (pc' := 41) rfl (hb hby d3_37) (by decide) (by decide) wk) ?_
      show Fin1 p e below s (rmEQ Z a1 a2 x1 y1 x2 y2 r h0 n0) ({ frames := 0, cells := 0, slots := 0, locals := 0 } : Room).cells ({ frames := 0, cells := 0, slots := 0, locals := 0 } : Room).slots (T6.setTop (mkF m 41 #[.val (.ref a1), .val (.ref a2), .val (.ref a2)] [(.int (1 : Int32))]))
      exact own_retZ X6 hx hlk hret (hb hby d3_41) (z := (1 : Int32)) (by decide) (by rw [e6]; exact ⟨(by rw [hr]; simp [own_eq, c22, c33]), N0, rfl⟩) (by decide) (by decide)
    · refine own_st (fun wt wk => XS.icmpYes X6.here hx rfl (pc0 := 33) (pc' := 40) rfl (hb hby d3_33) rfl (feq c33).2 (by decide) (by decide) wk) ?_
      show Fin1 p e below s (rmEQ Z a1 a2 x1 y1 x2 y2 r h0 n0) ({ frames := 0, cells := 0, slots := 0, locals := 0 } : Room).cells ({ frames := 0, cells := 0, slots := 0, locals := 0 } : Room).slots (T6.setTop (mkF m 40 #[.val (.ref a1), .val (.ref a2), .val (.ref a2)] []))
      refine own_st (fun wt wk => XS.iconst X6.here hx rfl (hb hby d3_40) wk) ?_
      show Fin1 p e below s (rmEQ Z a1 a2 x1 y1 x2 y2 r h0 n0) ({ frames := 0, cells := 0, slots := 0, locals := 0 } : Room).cells ({ frames := 0, cells := 0, slots := 0, locals := 0 } : Room).slots (T6.setTop (mkF m 41 #[.val (.ref a1), .val (.ref a2), .val (.ref a2)] [(.int (0 : Int32))]))
      exact own_retZ X6 hx hlk hret (hb hby d3_41) (z := (0 : Int32)) (by decide) (by rw [e6]; exact ⟨(by rw [hr]; simp [own_eq, c22, c33]), N0, rfl⟩) (by decide) (by decide)
  · refine own_st (fun wt wk => XS.icmpYes X4.here hx rfl (pc0 := 22) (pc' := 40) rfl (hb hby d3_22) rfl (feq c22).2 (by decide) (by decide) wk) ?_
    show Fin1 p e below s (rmEQ Z a1 a2 x1 y1 x2 y2 r h0 n0) ({ frames := 0, cells := 0, slots := 0, locals := 0 } : Room).cells ({ frames := 0, cells := 0, slots := 0, locals := 0 } : Room).slots (T4.setTop (mkF m 40 #[.val (.ref a1), .val (.ref a2), .val (.ref a2)] []))
    refine own_st (fun wt wk => XS.iconst X4.here hx rfl (hb hby d3_40) wk) ?_
    show Fin1 p e below s (rmEQ Z a1 a2 x1 y1 x2 y2 r h0 n0) ({ frames := 0, cells := 0, slots := 0, locals := 0 } : Room).cells ({ frames := 0, cells := 0, slots := 0, locals := 0 } : Room).slots (T4.setTop (mkF m 41 #[.val (.ref a1), .val (.ref a2), .val (.ref a2)] [(.int (0 : Int32))]))
    exact own_retZ X4 hx hlk hret (hb hby d3_41) (z := (0 : Int32)) (by decide) (by rw [e4]; exact ⟨(by rw [hr]; simp [own_eq, c22]), N0, rfl⟩) (by decide) (by decide)
def rmNQ (Z : State) (a1 : Addr) (h0 : Heap) (n0 : Nat) (v : Option Value) (h : Heap) (L : List Loc) : Prop := v = some (.int (0 : Int32)) ∧ Fr n0 L ∧ h = h0
set_option maxRecDepth 65536 in
set_option maxHeartbeats 40000000 in
theorem rmN (l : Launch) (Z : State) (a0 : Array Value) (hw : ∀ d ∈ tables_1, d.before a0 Z = true) (a1 : Addr) (h0 : Heap) (n0 : Nat) (Z0 : n0 ≤ h0.size) :
    Ct l Z [] (⟨"com/example/electd/electd/model/Mode", "equals", "(Ljava/lang/Object;)Z"⟩ : MethodName) prog_17_method_4_code 3 (some .boolean) ({ frames := 0, cells := 0, slots := 0, locals := 0 } : Room) #[(.ref a1), .null] h0 (rmNQ Z a1 h0 n0) := by
  refine own_enter (plainFor_of_name pn_4) ?_
  intro p e s m below meth c T0 X0 hx hby hml hZ hown hnm hret hlk e0
  have hown : s.vm.findClass "com/example/electd/electd/model/Mode" = some m.cls := hown
  have N0 := Fr.nil n0
  have K0 := Keep.refl h0 []
  refine own_st (fun wt wk => castTop (g' := mkF m 0 #[.val (.ref a1), .val .null, .unset] []) (by first | (simp [entryFrame, mkF, argsToLocals, Value.category]; done) | rfl) wk) ?_
  show Fin1 p e below s (rmNQ Z a1 h0 n0) ({ frames := 0, cells := 0, slots := 0, locals := 0 } : Room).cells ({ frames := 0, cells := 0, slots := 0, locals := 0 } : Room).slots (T0.setTop (mkF m 0 #[.val (.ref a1), .val .null, .unset] []))
  refine own_st (fun wt wk => XS.aloadN X0.here hx rfl (hb hby d3_0) rfl rfl wk) ?_
  show Fin1 p e below s (rmNQ Z a1 h0 n0) ({ frames := 0, cells := 0, slots := 0, locals := 0 } : Room).cells ({ frames := 0, cells := 0, slots := 0, locals := 0 } : Room).slots (T0.setTop (mkF m 1 #[.val (.ref a1), .val .null, .unset] [.null]))
  refine own_st (X0.instanceofNull hx (g := (mkF m 1 #[.val (.ref a1), .val .null, .unset] [.null])) rfl rfl (hb hby d3_1)) ?_
  show Fin1 p e below s (rmNQ Z a1 h0 n0) ({ frames := 0, cells := 0, slots := 0, locals := 0 } : Room).cells ({ frames := 0, cells := 0, slots := 0, locals := 0 } : Room).slots (T0.setTop (mkF m 4 #[.val (.ref a1), .val .null, .unset] [(.int (0 : Int32))]))
  refine own_st (fun wt wk => XS.ifNo X0.here hx rfl (hb hby d3_4) rfl ((if0 _ _).trans (teq (by decide)).2) wk) ?_
  show Fin1 p e below s (rmNQ Z a1 h0 n0) ({ frames := 0, cells := 0, slots := 0, locals := 0 } : Room).cells ({ frames := 0, cells := 0, slots := 0, locals := 0 } : Room).slots (T0.setTop (mkF m 7 #[.val (.ref a1), .val .null, .unset] []))
  refine own_st (fun wt wk => XS.iconst X0.here hx rfl (hb hby d3_7) wk) ?_
  show Fin1 p e below s (rmNQ Z a1 h0 n0) ({ frames := 0, cells := 0, slots := 0, locals := 0 } : Room).cells ({ frames := 0, cells := 0, slots := 0, locals := 0 } : Room).slots (T0.setTop (mkF m 8 #[.val (.ref a1), .val .null, .unset] [(.int (0 : Int32))]))
  exact own_retZ X0 hx hlk hret (hb hby d3_8) (z := (0 : Int32)) (by decide) (by rw [e0]; exact ⟨rfl, N0, rfl⟩) (by decide) (by decide)
def rmIQ (Z : State) (a1 : Addr) (a2 : Addr) (h0 : Heap) (n0 : Nat) (v : Option Value) (h : Heap) (L : List Loc) : Prop := v = some (.int (0 : Int32)) ∧ Fr n0 L ∧ h = h0
set_option maxRecDepth 65536 in
set_option maxHeartbeats 40000000 in
theorem rmI (l : Launch) (Z : State) (a0 : Array Value) (hw : ∀ d ∈ tables_1, d.before a0 Z = true) (a1 : Addr) (a2 : Addr) (h0 : Heap) (n0 : Nat) (Z0 : n0 ≤ h0.size) (E_a2 : Exa Z h0 a2 "java/lang/Integer") :
    Ct l Z [] (⟨"com/example/electd/electd/model/Mode", "equals", "(Ljava/lang/Object;)Z"⟩ : MethodName) prog_17_method_4_code 3 (some .boolean) ({ frames := 0, cells := 0, slots := 0, locals := 0 } : Room) #[(.ref a1), (.ref a2)] h0 (rmIQ Z a1 a2 h0 n0) := by
  refine own_enter (plainFor_of_name pn_4) ?_
  intro p e s m below meth c T0 X0 hx hby hml hZ hown hnm hret hlk e0
  have hown : s.vm.findClass "com/example/electd/electd/model/Mode" = some m.cls := hown
  have N0 := Fr.nil n0
  have K0 := Keep.refl h0 []
  refine own_st (fun wt wk => castTop (g' := mkF m 0 #[.val (.ref a1), .val (.ref a2), .unset] []) (by first | (simp [entryFrame, mkF, argsToLocals, Value.category]; done) | rfl) wk) ?_
  show Fin1 p e below s (rmIQ Z a1 a2 h0 n0) ({ frames := 0, cells := 0, slots := 0, locals := 0 } : Room).cells ({ frames := 0, cells := 0, slots := 0, locals := 0 } : Room).slots (T0.setTop (mkF m 0 #[.val (.ref a1), .val (.ref a2), .unset] []))
  refine own_st (fun wt wk => XS.aloadN X0.here hx rfl (hb hby d3_0) rfl rfl wk) ?_
  show Fin1 p e below s (rmIQ Z a1 a2 h0 n0) ({ frames := 0, cells := 0, slots := 0, locals := 0 } : Room).cells ({ frames := 0, cells := 0, slots := 0, locals := 0 } : Room).slots (T0.setTop (mkF m 1 #[.val (.ref a1), .val (.ref a2), .unset] [(.ref a2)]))
  obtain ⟨T1, X1, e1, st1⟩ := instNo X0 hx hZ hown (hw _ (List.mem_of_getElem? (i := 25) rfl)) e0 E_a2 (own_no_0 hw) (g := (mkF m 1 #[.val (.ref a1), .val (.ref a2), .unset] [(.ref a2)])) rfl rfl (hb hby d3_1)
  refine own_st st1 ?_
  show Fin1 p e below s (rmIQ Z a1 a2 h0 n0) ({ frames := 0, cells := 0, slots := 0, locals := 0 } : Room).cells ({ frames := 0, cells := 0, slots := 0, locals := 0 } : Room).slots (T1.setTop (mkF m 4 #[.val (.ref a1), .val (.ref a2), .unset] [(.int (0 : Int32))]))
  refine own_st (fun wt wk => XS.ifNo X1.here hx rfl (hb hby d3_4) rfl ((if0 _ _).trans (teq (by decide)).2) wk) ?_
  show Fin1 p e below s (rmIQ Z a1 a2 h0 n0) ({ frames := 0, cells := 0, slots := 0, locals := 0 } : Room).cells ({ frames := 0, cells := 0, slots := 0, locals := 0 } : Room).slots (T1.setTop (mkF m 7 #[.val (.ref a1), .val (.ref a2), .unset] []))
  refine own_st (fun wt wk => XS.iconst X1.here hx rfl (hb hby d3_7) wk) ?_
  show Fin1 p e below s (rmIQ Z a1 a2 h0 n0) ({ frames := 0, cells := 0, slots := 0, locals := 0 } : Room).cells ({ frames := 0, cells := 0, slots := 0, locals := 0 } : Room).slots (T1.setTop (mkF m 8 #[.val (.ref a1), .val (.ref a2), .unset] [(.int (0 : Int32))]))
  exact own_retZ X1 hx hlk hret (hb hby d3_8) (z := (0 : Int32)) (by decide) (by rw [e1]; exact ⟨rfl, N0, rfl⟩) (by decide) (by decide)
theorem pn_5 : plainName "com/example/electd/electd/model/ModeEqualsPinLaw" = true := by first | (simp [plainName, overriddenIn]; done) | decide +kernel
theorem pd_6 : parseMethodDescriptor "(ZZ)V" = some ⟨[.boolean, .boolean], none⟩ := by decide +kernel
theorem pd_7 : parseMethodDescriptor "(Ljava/lang/Object;)Z" = some ⟨[(.object "java/lang/Object")], some .boolean⟩ := by decide +kernel
theorem pd_8 : parseMethodDescriptor "(I)Ljava/lang/Integer;" = some ⟨[.int], some (.object "java/lang/Integer")⟩ := by decide +kernel
def rm0Q (Z : State) (i0 : Int32) (i1 : Int32) (i2 : Int32) (h0 : Heap) (n0 : Nat) (v : Option Value) (h : Heap) (L : List Loc) : Prop := v = some (.int (1 : Int32)) ∧ Fr n0 L
set_option maxRecDepth 65536 in
set_option maxHeartbeats 40000000 in
theorem rm0 (l : Launch) (Z : State) (a0 : Array Value) (hw : ∀ d ∈ tables_1, d.before a0 Z = true) (i0 : Int32) (i1 : Int32) (i2 : Int32) (h0 : Heap) (n0 : Nat) (Z0 : n0 ≤ h0.size) (O : Old Z n0 h0) (hic : own_IC Z) :
    Ct l Z tables_1 x code maxLocals ret room_1 #[(.int i0), (.int i1), (.int i2)] h0 (rm0Q Z i0 i1 i2 h0 n0) := by
  refine own_enter (plainFor_of_name pn_5) ?_
  intro p e s m below meth c T0 X0 hx hby hml hZ hown hnm hret hlk e0
  have hown : s.vm.findClass "com/example/electd/electd/model/ModeEqualsPinLaw" = some m.cls := hown
  have N0 := Fr.nil n0
  have K0 := Keep.refl h0 []
  refine own_st (fun wt wk => castTop (g' := mkF m 0 #[.val (.int i0), .val (.int i1), .val (.int i2), .unset, .unset, .unset, .unset, .unset, .unset, .unset, .unset, .unset] []) (by first | (simp [entryFrame, mkF, argsToLocals, Value.category, maxLocals]; done) | rfl) wk) ?_
  show Fin1 p e below s (rm0Q Z i0 i1 i2 h0 n0) room_1.cells room_1.slots (T0.setTop (mkF m 0 #[.val (.int i0), .val (.int i1), .val (.int i2), .unset, .unset, .unset, .unset, .unset, .unset, .unset, .unset, .unset] []))
  suffices K11 : ∀ (k3 : Int32), (k3 = 0 ∨ k3 = 1) → Fin1 p e below s (rm0Q Z i0 i1 i2 h0 n0) room_1.cells room_1.slots (T0.setTop (mkF m 11 #[.val (.int i0), .val (.int i1), .val (.int i2), .unset, .unset, .unset, .unset, .unset, .unset, .unset, .unset, .unset] [(.int k3)])) by
    refine own_st (fun wt wk => XS.iloadN X0.here hx rfl (hb hby at_0) rfl wk) ?_
    show Fin1 p e below s (rm0Q Z i0 i1 i2 h0 n0) room_1.cells room_1.slots (T0.setTop (mkF m 1 #[.val (.int i0), .val (.int i1), .val (.int i2), .unset, .unset, .unset, .unset, .unset, .unset, .unset, .unset, .unset] [(.int i0)]))
    refine own_st (fun wt wk => XS.iconst X0.here hx rfl (hb hby at_1) wk) ?_
    show Fin1 p e below s (rm0Q Z i0 i1 i2 h0 n0) room_1.cells room_1.slots (T0.setTop (mkF m 2 #[.val (.int i0), .val (.int i1), .val (.int i2), .unset, .unset, .unset, .unset, .unset, .unset, .unset, .unset, .unset] [(.int (1 : Int32)), (.int i0)]))
    refine own_st (fun wt wk => XS.iand X0.here hx rfl (hb hby at_2) rfl wk) ?_
    show Fin1 p e below s (rm0Q Z i0 i1 i2 h0 n0) room_1.cells room_1.slots (T0.setTop (mkF m 3 #[.val (.int i0), .val (.int i1), .val (.int i2), .unset, .unset, .unset, .unset, .unset, .unset, .unset, .unset, .unset] [(.int (i0 &&& (1 : Int32)))]))
    by_cases c : (i0 &&& (1 : Int32)) = (0 : Int32)
    · refine own_st (fun wt wk => XS.ifYes X0.here hx rfl (pc0 := 3) (pc' := 10) rfl (hb hby at_3) rfl ((if0 _ _).trans (teq c).1) (by decide) (by decide) wk) ?_
      show Fin1 p e below s (rm0Q Z i0 i1 i2 h0 n0) room_1.cells room_1.slots (T0.setTop (mkF m 10 #[.val (.int i0), .val (.int i1), .val (.int i2), .unset, .unset, .unset, .unset, .unset, .unset, .unset, .unset, .unset] []))
      refine own_st (fun wt wk => XS.iconst X0.here hx rfl (hb hby at_10) wk) ?_
      show Fin1 p e below s (rm0Q Z i0 i1 i2 h0 n0) room_1.cells room_1.slots (T0.setTop (mkF m 11 #[.val (.int i0), .val (.int i1), .val (.int i2), .unset, .unset, .unset, .unset, .unset, .unset, .unset, .unset, .unset] [(.int (0 : Int32))]))
      exact K11 _ (by decide)
    · refine own_st (fun wt wk => XS.ifNo X0.here hx rfl (hb hby at_3) rfl ((if0 _ _).trans (feq c).1) wk) ?_
      show Fin1 p e below s (rm0Q Z i0 i1 i2 h0 n0) room_1.cells room_1.slots (T0.setTop (mkF m 6 #[.val (.int i0), .val (.int i1), .val (.int i2), .unset, .unset, .unset, .unset, .unset, .unset, .unset, .unset, .unset] []))
      refine own_st (fun wt wk => XS.iconst X0.here hx rfl (hb hby at_6) wk) ?_
      show Fin1 p e below s (rm0Q Z i0 i1 i2 h0 n0) room_1.cells room_1.slots (T0.setTop (mkF m 7 #[.val (.int i0), .val (.int i1), .val (.int i2), .unset, .unset, .unset, .unset, .unset, .unset, .unset, .unset, .unset] [(.int (1 : Int32))]))
      refine own_st (fun wt wk => XS.goto X0.here hx rfl (pc0 := 7) (pc' := 11) rfl (hb hby at_7) (by decide) (by decide) wk) ?_
      show Fin1 p e below s (rm0Q Z i0 i1 i2 h0 n0) room_1.cells room_1.slots (T0.setTop (mkF m 11 #[.val (.int i0), .val (.int i1), .val (.int i2), .unset, .unset, .unset, .unset, .unset, .unset, .unset, .unset, .unset] [(.int (1 : Int32))]))
      exact K11 _ (by decide)
  intro k3 hk3
  refine own_st (fun wt wk => XS.istoreN X0.here hx rfl (hb hby at_11) rfl (l' := #[.val (.int i0), .val (.int i1), .val (.int i2), .val (.int k3), .unset, .unset, .unset, .unset, .unset, .unset, .unset, .unset]) rfl wk) ?_
  show Fin1 p e below s (rm0Q Z i0 i1 i2 h0 n0) room_1.cells room_1.slots (T0.setTop (mkF m 12 #[.val (.int i0), .val (.int i1), .val (.int i2), .val (.int k3), .unset, .unset, .unset, .unset, .unset, .unset, .unset, .unset] []))
  suffices K23 : ∀ (k4 : Int32), (k4 = 0 ∨ k4 = 1) → Fin1 p e below s (rm0Q Z i0 i1 i2 h0 n0) room_1.cells room_1.slots (T0.setTop (mkF m 23 #[.val (.int i0), .val (.int i1), .val (.int i2), .val (.int k3), .unset, .unset, .unset, .unset, .unset, .unset, .unset, .unset] [(.int k4)])) by
    refine own_st (fun wt wk => XS.iloadN X0.here hx rfl (hb hby at_12) rfl wk) ?_
    show Fin1 p e below s (rm0Q Z i0 i1 i2 h0 n0) room_1.cells room_1.slots (T0.setTop (mkF m 13 #[.val (.int i0), .val (.int i1), .val (.int i2), .val (.int k3), .unset, .unset, .unset, .unset, .unset, .unset, .unset, .unset] [(.int i0)]))
    refine own_st (fun wt wk => XS.iconst X0.here hx rfl (hb hby at_13) wk) ?_
    show Fin1 p e below s (rm0Q Z i0 i1 i2 h0 n0) room_1.cells room_1.slots (T0.setTop (mkF m 14 #[.val (.int i0), .val (.int i1), .val (.int i2), .val (.int k3), .unset, .unset, .unset, .unset, .unset, .unset, .unset, .unset] [(.int (2 : Int32)), (.int i0)]))
    refine own_st (fun wt wk => XS.iand X0.here hx rfl (hb hby at_14) rfl wk) ?_
    show Fin1 p e below s (rm0Q Z i0 i1 i2 h0 n0) room_1.cells room_1.slots (T0.setTop (mkF m 15 #[.val (.int i0), .val (.int i1), .val (.int i2), .val (.int k3), .unset, .unset, .unset, .unset, .unset, .unset, .unset, .unset] [(.int (i0 &&& (2 : Int32)))]))
    by_cases c : (i0 &&& (2 : Int32)) = (0 : Int32)
    · refine own_st (fun wt wk => XS.ifYes X0.here hx rfl (pc0 := 15) (pc' := 22) rfl (hb hby at_15) rfl ((if0 _ _).trans (teq c).1) (by decide) (by decide) wk) ?_
      show Fin1 p e below s (rm0Q Z i0 i1 i2 h0 n0) room_1.cells room_1.slots (T0.setTop (mkF m 22 #[.val (.int i0), .val (.int i1), .val (.int i2), .val (.int k3), .unset, .unset, .unset, .unset, .unset, .unset, .unset, .unset] []))
      refine own_st (fun wt wk => XS.iconst X0.here hx rfl (hb hby at_22) wk) ?_
      show Fin1 p e below s (rm0Q Z i0 i1 i2 h0 n0) room_1.cells room_1.slots (T0.setTop (mkF m 23 #[.val (.int i0), .val (.int i1), .val (.int i2), .val (.int k3), .unset, .unset, .unset, .unset, .unset, .unset, .unset, .unset] [(.int (0 : Int32))]))
      exact K23 _ (by decide)
    · refine own_st (fun wt wk => XS.ifNo X0.here hx rfl (hb hby at_15) rfl ((if0 _ _).trans (feq c).1) wk) ?_
      show Fin1 p e below s (rm0Q Z i0 i1 i2 h0 n0) room_1.cells room_1.slots (T0.setTop (mkF m 18 #[.val (.int i0), .val (.int i1), .val (.int i2), .val (.int k3), .unset, .unset, .unset, .unset, .unset, .unset, .unset, .unset] []))
      refine own_st (fun wt wk => XS.iconst X0.here hx rfl (hb hby at_18) wk) ?_
      show Fin1 p e below s (rm0Q Z i0 i1 i2 h0 n0) room_1.cells room_1.slots (T0.setTop (mkF m 19 #[.val (.int i0), .val (.int i1), .val (.int i2), .val (.int k3), .unset, .unset, .unset, .unset, .unset, .unset, .unset, .unset] [(.int (1 : Int32))]))
      refine own_st (fun wt wk => XS.goto X0.here hx rfl (pc0 := 19) (pc' := 23) rfl (hb hby at_19) (by decide) (by decide) wk) ?_
      show Fin1 p e below s (rm0Q Z i0 i1 i2 h0 n0) room_1.cells room_1.slots (T0.setTop (mkF m 23 #[.val (.int i0), .val (.int i1), .val (.int i2), .val (.int k3), .unset, .unset, .unset, .unset, .unset, .unset, .unset, .unset] [(.int (1 : Int32))]))
      exact K23 _ (by decide)
  intro k4 hk4
  refine own_st (fun wt wk => XS.istore X0.here hx rfl (hb hby at_23) rfl (l' := #[.val (.int i0), .val (.int i1), .val (.int i2), .val (.int k3), .val (.int k4), .unset, .unset, .unset, .unset, .unset, .unset, .unset]) rfl wk) ?_
  show Fin1 p e below s (rm0Q Z i0 i1 i2 h0 n0) room_1.cells room_1.slots (T0.setTop (mkF m 25 #[.val (.int i0), .val (.int i1), .val (.int i2), .val (.int k3), .val (.int k4), .unset, .unset, .unset, .unset, .unset, .unset, .unset] []))
  suffices K36 : ∀ (k5 : Int32), (k5 = 0 ∨ k5 = 1) → Fin1 p e below s (rm0Q Z i0 i1 i2 h0 n0) room_1.cells room_1.slots (T0.setTop (mkF m 36 #[.val (.int i0), .val (.int i1), .val (.int i2), .val (.int k3), .val (.int k4), .unset, .unset, .unset, .unset, .unset, .unset, .unset] [(.int k5)])) by
    refine own_st (fun wt wk => XS.iloadN X0.here hx rfl (hb hby at_25) rfl wk) ?_
    show Fin1 p e below s (rm0Q Z i0 i1 i2 h0 n0) room_1.cells room_1.slots (T0.setTop (mkF m 26 #[.val (.int i0), .val (.int i1), .val (.int i2), .val (.int k3), .val (.int k4), .unset, .unset, .unset, .unset, .unset, .unset, .unset] [(.int i1)]))
    refine own_st (fun wt wk => XS.iconst X0.here hx rfl (hb hby at_26) wk) ?_
    show Fin1 p e below s (rm0Q Z i0 i1 i2 h0 n0) room_1.cells room_1.slots (T0.setTop (mkF m 27 #[.val (.int i0), .val (.int i1), .val (.int i2), .val (.int k3), .val (.int k4), .unset, .unset, .unset, .unset, .unset, .unset, .unset] [(.int (1 : Int32)), (.int i1)]))
    refine own_st (fun wt wk => XS.iand X0.here hx rfl (hb hby at_27) rfl wk) ?_
    show Fin1 p e below s (rm0Q Z i0 i1 i2 h0 n0) room_1.cells room_1.slots (T0.setTop (mkF m 28 #[.val (.int i0), .val (.int i1), .val (.int i2), .val (.int k3), .val (.int k4), .unset, .unset, .unset, .unset, .unset, .unset, .unset] [(.int (i1 &&& (1 : Int32)))]))
    by_cases c : (i1 &&& (1 : Int32)) = (0 : Int32)
    · refine own_st (fun wt wk => XS.ifYes X0.here hx rfl (pc0 := 28) (pc' := 35) rfl (hb hby at_28) rfl ((if0 _ _).trans (teq c).1) (by decide) (by decide) wk) ?_
      show Fin1 p e below s (rm0Q Z i0 i1 i2 h0 n0) room_1.cells room_1.slots (T0.setTop (mkF m 35 #[.val (.int i0), .val (.int i1), .val (.int i2), .val (.int k3), .val (.int k4), .unset, .unset, .unset, .unset, .unset, .unset, .unset] []))
      refine own_st (fun wt wk => XS.iconst X0.here hx rfl (hb hby at_35) wk) ?_
      show Fin1 p e below s (rm0Q Z i0 i1 i2 h0 n0) room_1.cells room_1.slots (T0.setTop (mkF m 36 #[.val (.int i0), .val (.int i1), .val (.int i2), .val (.int k3), .val (.int k4), .unset, .unset, .unset, .unset, .unset, .unset, .unset] [(.int (0 : Int32))]))
      exact K36 _ (by decide)
    · refine own_st (fun wt wk => XS.ifNo X0.here hx rfl (hb hby at_28) rfl ((if0 _ _).trans (feq c).1) wk) ?_
      show Fin1 p e below s (rm0Q Z i0 i1 i2 h0 n0) room_1.cells room_1.slots (T0.setTop (mkF m 31 #[.val (.int i0), .val (.int i1), .val (.int i2), .val (.int k3), .val (.int k4), .unset, .unset, .unset, .unset, .unset, .unset, .unset] []))
      refine own_st (fun wt wk => XS.iconst X0.here hx rfl (hb hby at_31) wk) ?_
      show Fin1 p e below s (rm0Q Z i0 i1 i2 h0 n0) room_1.cells room_1.slots (T0.setTop (mkF m 32 #[.val (.int i0), .val (.int i1), .val (.int i2), .val (.int k3), .val (.int k4), .unset, .unset, .unset, .unset, .unset, .unset, .unset] [(.int (1 : Int32))]))
      refine own_st (fun wt wk => XS.goto X0.here hx rfl (pc0 := 32) (pc' := 36) rfl (hb hby at_32) (by decide) (by decide) wk) ?_
      show Fin1 p e below s (rm0Q Z i0 i1 i2 h0 n0) room_1.cells room_1.slots (T0.setTop (mkF m 36 #[.val (.int i0), .val (.int i1), .val (.int i2), .val (.int k3), .val (.int k4), .unset, .unset, .unset, .unset, .unset, .unset, .unset] [(.int (1 : Int32))]))
      exact K36 _ (by decide)
  intro k5 hk5
  refine own_st (fun wt wk => XS.istore X0.here hx rfl (hb hby at_36) rfl (l' := #[.val (.int i0), .val (.int i1), .val (.int i2), .val (.int k3), .val (.int k4), .val (.int k5), .unset, .unset, .unset, .unset, .unset, .unset]) rfl wk) ?_
  show Fin1 p e below s (rm0Q Z i0 i1 i2 h0 n0) room_1.cells room_1.slots (T0.setTop (mkF m 38 #[.val (.int i0), .val (.int i1), .val (.int i2), .val (.int k3), .val (.int k4), .val (.int k5), .unset, .unset, .unset, .unset, .unset, .unset] []))
  suffices K49 : ∀ (k6 : Int32), (k6 = 0 ∨ k6 = 1) → Fin1 p e below s (rm0Q Z i0 i1 i2 h0 n0) room_1.cells room_1.slots (T0.setTop (mkF m 49 #[.val (.int i0), .val (.int i1), .val (.int i2), .val (.int k3), .val (.int k4), .val (.int k5), .unset, .unset, .unset, .unset, .unset, .unset] [(.int k6)])) by
    refine own_st (fun wt wk => XS.iloadN X0.here hx rfl (hb hby at_38) rfl wk) ?_
    show Fin1 p e below s (rm0Q Z i0 i1 i2 h0 n0) room_1.cells room_1.slots (T0.setTop (mkF m 39 #[.val (.int i0), .val (.int i1), .val (.int i2), .val (.int k3), .val (.int k4), .val (.int k5), .unset, .unset, .unset, .unset, .unset, .unset] [(.int i1)]))
    refine own_st (fun wt wk => XS.iconst X0.here hx rfl (hb hby at_39) wk) ?_
    show Fin1 p e below s (rm0Q Z i0 i1 i2 h0 n0) room_1.cells room_1.slots (T0.setTop (mkF m 40 #[.val (.int i0), .val (.int i1), .val (.int i2), .val (.int k3), .val (.int k4), .val (.int k5), .unset, .unset, .unset, .unset, .unset, .unset] [(.int (2 : Int32)), (.int i1)]))
    refine own_st (fun wt wk => XS.iand X0.here hx rfl (hb hby at_40) rfl wk) ?_
    show Fin1 p e below s (rm0Q Z i0 i1 i2 h0 n0) room_1.cells room_1.slots (T0.setTop (mkF m 41 #[.val (.int i0), .val (.int i1), .val (.int i2), .val (.int k3), .val (.int k4), .val (.int k5), .unset, .unset, .unset, .unset, .unset, .unset] [(.int (i1 &&& (2 : Int32)))]))
    by_cases c : (i1 &&& (2 : Int32)) = (0 : Int32)
    · refine own_st (fun wt wk => XS.ifYes X0.here hx rfl (pc0 := 41) (pc' := 48) rfl (hb hby at_41) rfl ((if0 _ _).trans (teq c).1) (by decide) (by decide) wk) ?_
      show Fin1 p e below s (rm0Q Z i0 i1 i2 h0 n0) room_1.cells room_1.slots (T0.setTop (mkF m 48 #[.val (.int i0), .val (.int i1), .val (.int i2), .val (.int k3), .val (.int k4), .val (.int k5), .unset, .unset, .unset, .unset, .unset, .unset] []))
      refine own_st (fun wt wk => XS.iconst X0.here hx rfl (hb hby at_48) wk) ?_
      show Fin1 p e below s (rm0Q Z i0 i1 i2 h0 n0) room_1.cells room_1.slots (T0.setTop (mkF m 49 #[.val (.int i0), .val (.int i1), .val (.int i2), .val (.int k3), .val (.int k4), .val (.int k5), .unset, .unset, .unset, .unset, .unset, .unset] [(.int (0 : Int32))]))
      exact K49 _ (by decide)
    · refine own_st (fun wt wk => XS.ifNo X0.here hx rfl (hb hby at_41) rfl ((if0 _ _).trans (feq c).1) wk) ?_
      show Fin1 p e below s (rm0Q Z i0 i1 i2 h0 n0) room_1.cells room_1.slots (T0.setTop (mkF m 44 #[.val (.int i0), .val (.int i1), .val (.int i2), .val (.int k3), .val (.int k4), .val (.int k5), .unset, .unset, .unset, .unset, .unset, .unset] []))
      refine own_st (fun wt wk => XS.iconst X0.here hx rfl (hb hby at_44) wk) ?_
      show Fin1 p e below s (rm0Q Z i0 i1 i2 h0 n0) room_1.cells room_1.slots (T0.setTop (mkF m 45 #[.val (.int i0), .val (.int i1), .val (.int i2), .val (.int k3), .val (.int k4), .val (.int k5), .unset, .unset, .unset, .unset, .unset, .unset] [(.int (1 : Int32))]))
      refine own_st (fun wt wk => XS.goto X0.here hx rfl (pc0 := 45) (pc' := 49) rfl (hb hby at_45) (by decide) (by decide) wk) ?_
      show Fin1 p e below s (rm0Q Z i0 i1 i2 h0 n0) room_1.cells room_1.slots (T0.setTop (mkF m 49 #[.val (.int i0), .val (.int i1), .val (.int i2), .val (.int k3), .val (.int k4), .val (.int k5), .unset, .unset, .unset, .unset, .unset, .unset] [(.int (1 : Int32))]))
      exact K49 _ (by decide)
  intro k6 hk6
  refine own_st (fun wt wk => XS.istore X0.here hx rfl (hb hby at_49) rfl (l' := #[.val (.int i0), .val (.int i1), .val (.int i2), .val (.int k3), .val (.int k4), .val (.int k5), .val (.int k6), .unset, .unset, .unset, .unset, .unset]) rfl wk) ?_
  show Fin1 p e below s (rm0Q Z i0 i1 i2 h0 n0) room_1.cells room_1.slots (T0.setTop (mkF m 51 #[.val (.int i0), .val (.int i1), .val (.int i2), .val (.int k3), .val (.int k4), .val (.int k5), .val (.int k6), .unset, .unset, .unset, .unset, .unset] []))
  obtain ⟨T1, h1, X1, e1, E1, A1, D1, -, st1⟩ := newO X0 hx hZ hown (hw _ (List.mem_of_getElem? (i := 0) rfl)) (hw _ (List.mem_of_getElem? (i := 1) rfl)) (hw _ (List.mem_of_getElem? (i := 2) rfl)) e0 (g := (mkF m 51 #[.val (.int i0), .val (.int i1), .val (.int i2), .val (.int k3), .val (.int k4), .val (.int k5), .val (.int k6), .unset, .unset, .unset, .unset, .unset] [])) rfl (hb hby at_51) (by decide) (by decide)
  obtain ⟨b1, gz_b1⟩ : ∃ z, z = h0.size := ⟨_, rfl⟩
  rw [← gz_b1] at A1 D1 st1
  have g_b1 : n0 ≤ b1 := Nat.le_trans Z0 (Nat.le_of_eq gz_b1.symm)
  have Z0 := Nat.le_trans Z0 E1.1
  have O := O.ext E1
  refine own_st st1 ?_
  have E_b1 := A1
  have F_sticky_b1 : Fld Z h1 b1 "com/example/electd/electd/model/Mode" "sticky" "Z" (.int (0 : Int32)) := D1 (Or.inr (hw _ (List.mem_of_getElem? (i := 10) rfl))) (ty := .boolean) (by decide)
  have F_majority_b1 : Fld Z h1 b1 "com/example/electd/electd/model/Mode" "majority" "Z" (.int (0 : Int32)) := D1 (Or.inr (hw _ (List.mem_of_getElem? (i := 12) rfl))) (ty := .boolean) (by decide)
  show Fin1 p e below s (rm0Q Z i0 i1 i2 h0 n0) room_1.cells room_1.slots (T1.setTop (mkF m 54 #[.val (.int i0), .val (.int i1), .val (.int i2), .val (.int k3), .val (.int k4), .val (.int k5), .val (.int k6), .unset, .unset, .unset, .unset, .unset] [(.ref b1)]))
  refine own_st (fun wt wk => XS.dup X1.here hx rfl (hb hby at_54) rfl rfl wk) ?_
  show Fin1 p e below s (rm0Q Z i0 i1 i2 h0 n0) room_1.cells room_1.slots (T1.setTop (mkF m 55 #[.val (.int i0), .val (.int i1), .val (.int i2), .val (.int k3), .val (.int k4), .val (.int k5), .val (.int k6), .unset, .unset, .unset, .unset, .unset] [(.ref b1), (.ref b1)]))
  refine own_st (fun wt wk => XS.iloadN X1.here hx rfl (hb hby at_55) rfl wk) ?_
  show Fin1 p e below s (rm0Q Z i0 i1 i2 h0 n0) room_1.cells room_1.slots (T1.setTop (mkF m 56 #[.val (.int i0), .val (.int i1), .val (.int i2), .val (.int k3), .val (.int k4), .val (.int k5), .val (.int k6), .unset, .unset, .unset, .unset, .unset] [(.int k3), (.ref b1), (.ref b1)]))
  refine own_st (fun wt wk => XS.iload X1.here hx rfl (hb hby at_56) rfl wk) ?_
  show Fin1 p e below s (rm0Q Z i0 i1 i2 h0 n0) room_1.cells room_1.slots (T1.setTop (mkF m 58 #[.val (.int i0), .val (.int i1), .val (.int i2), .val (.int k3), .val (.int k4), .val (.int k5), .val (.int k6), .unset, .unset, .unset, .unset, .unset] [(.int k4), (.int k3), (.ref b1), (.ref b1)]))
  obtain ⟨v2, T2, h2, L2, X2, e2, hQ2, st2⟩ := own_special X1 hx hZ hown rfl (hw _ (List.mem_of_getElem? (i := 3) rfl)) (hw _ (List.mem_of_getElem? (i := 4) rfl)) (hw _ (List.mem_of_getElem? (i := 5) rfl)) (hw _ (List.mem_of_getElem? (i := 2) rfl)) (by decide) (a := b1) (rmC l Z a0 hw b1 k3 k4 h1 n0 Z0 g_b1 E_b1 F_sticky_b1 F_majority_b1 hk3 hk4) e1 (g := (mkF m 58 #[.val (.int i0), .val (.int i1), .val (.int i2), .val (.int k3), .val (.int k4), .val (.int k5), .val (.int k6), .unset, .unset, .unset, .unset, .unset] [(.int k4), (.int k3), (.ref b1), (.ref b1)])) rfl (by rw [hml]; rfl) (argsL := [(.int k3), (.int k4)]) (rest := [(.ref b1)]) (lenOf pd_6 rfl) rfl (W := 1) (by show 2 * 0 + _ ≤ _; exact Nat.le_of_eq rfl) (hb hby at_58) (by decide) (by decide) (by decide) (by decide)
  obtain ⟨rfl, N2q, K2, P2, R2⟩ := hQ2
  have N2 := Fr.app N0 N2q
  have Z0 := Nat.le_trans Z0 K2.1
  have O := O.keep K2 (allS (P := fun x => n0 ≤ x) g_b1 all0)
  have E_b1 := E_b1.keep K2
  refine own_st st2 ?_
  show Fin1 p e below s (rm0Q Z i0 i1 i2 h0 n0) room_1.cells room_1.slots (T2.setTop (mkF m 61 #[.val (.int i0), .val (.int i1), .val (.int i2), .val (.int k3), .val (.int k4), .val (.int k5), .val (.int k6), .unset, .unset, .unset, .unset, .unset] [(.ref b1)]))
  refine own_st (fun wt wk => XS.astore X2.here hx rfl (hb hby at_61) rfl rfl (l' := #[.val (.int i0), .val (.int i1), .val (.int i2), .val (.int k3), .val (.int k4), .val (.int k5), .val (.int k6), .val (.ref b1), .unset, .unset, .unset, .unset]) rfl wk) ?_
  show Fin1 p e below s (rm0Q Z i0 i1 i2 h0 n0) room_1.cells room_1.slots (T2.setTop (mkF m 63 #[.val (.int i0), .val (.int i1), .val (.int i2), .val (.int k3), .val (.int k4), .val (.int k5), .val (.int k6), .val (.ref b1), .unset, .unset, .unset, .unset] []))
  obtain ⟨T3, h3, X3, e3, E3, A3, D3, -, st3⟩ := newO X2 hx hZ hown (hw _ (List.mem_of_getElem? (i := 0) rfl)) (hw _ (List.mem_of_getElem? (i := 1) rfl)) (hw _ (List.mem_of_getElem? (i := 2) rfl)) e2 (g := (mkF m 63 #[.val (.int i0), .val (.int i1), .val (.int i2), .val (.int k3), .val (.int k4), .val (.int k5), .val (.int k6), .val (.ref b1), .unset, .unset, .unset, .unset] [])) rfl (hb hby at_63) (by decide) (by decide)
  obtain ⟨b3, gz_b3⟩ : ∃ z, z = h2.size := ⟨_, rfl⟩
  rw [← gz_b3] at A3 D3 st3
  have ne_b1_b3 : b1 ≠ b3 := Nat.ne_of_lt (Nat.lt_of_lt_of_le E_b1.lt (Nat.le_of_eq gz_b3.symm))
  have g_b3 : n0 ≤ b3 := Nat.le_trans Z0 (Nat.le_of_eq gz_b3.symm)
  have Z0 := Nat.le_trans Z0 E3.1
  have O := O.ext E3
  have E_b1 := E_b1.ext E3
  have P2 := P2.ext E3
  have R2 := R2.ext E3
  refine own_st st3 ?_
  have E_b3 := A3
  have F_sticky_b3 : Fld Z h3 b3 "com/example/electd/electd/model/Mode" "sticky" "Z" (.int (0 : Int32)) := D3 (Or.inr (hw _ (List.mem_of_getElem? (i := 10) rfl))) (ty := .boolean) (by decide)
  have F_majority_b3 : Fld Z h3 b3 "com/example/electd/electd/model/Mode" "majority" "Z" (.int (0 : Int32)) := D3 (Or.inr (hw _ (List.mem_of_getElem? (i := 12) rfl))) (ty := .boolean) (by decide)
  show Fin1 p e below s (rm0Q Z i0 i1 i2 h0 n0) room_1.cells room_1.slots (T3.setTop (mkF m 66 #[.val (.int i0), .val (.int i1), .val (.int i2), .val (.int k3), .val (.int k4), .val (.int k5), .val (.int k6), .val (.ref b1), .unset, .unset, .unset, .unset] [(.ref b3)]))
  refine own_st (fun wt wk => XS.dup X3.here hx rfl (hb hby at_66) rfl rfl wk) ?_
  show Fin1 p e below s (rm0Q Z i0 i1 i2 h0 n0) room_1.cells room_1.slots (T3.setTop (mkF m 67 #[.val (.int i0), .val (.int i1), .val (.int i2), .val (.int k3), .val (.int k4), .val (.int k5), .val (.int k6), .val (.ref b1), .unset, .unset, .unset, .unset] [(.ref b3), (.ref b3)]))
  refine own_st (fun wt wk => XS.iload X3.here hx rfl (hb hby at_67) rfl wk) ?_
  show Fin1 p e below s (rm0Q Z i0 i1 i2 h0 n0) room_1.cells room_1.slots (T3.setTop (mkF m 69 #[.val (.int i0), .val (.int i1), .val (.int i2), .val (.int k3), .val (.int k4), .val (.int k5), .val (.int k6), .val (.ref b1), .unset, .unset, .unset, .unset] [(.int k5), (.ref b3), (.ref b3)]))
  refine own_st (fun wt wk => XS.iload X3.here hx rfl (hb hby at_69) rfl wk) ?_
  show Fin1 p e below s (rm0Q Z i0 i1 i2 h0 n0) room_1.cells room_1.slots (T3.setTop (mkF m 71 #[.val (.int i0), .val (.int i1), .val (.int i2), .val (.int k3), .val (.int k4), .val (.int k5), .val (.int k6), .val (.ref b1), .unset, .unset, .unset, .unset] [(.int k6), (.int k5), (.ref b3), (.ref b3)]))
  obtain ⟨v4, T4, h4, L4, X4, e4, hQ4, st4⟩ := own_special X3 hx hZ hown rfl (hw _ (List.mem_of_getElem? (i := 3) rfl)) (hw _ (List.mem_of_getElem? (i := 4) rfl)) (hw _ (List.mem_of_getElem? (i := 5) rfl)) (hw _ (List.mem_of_getElem? (i := 2) rfl)) (by decide) (a := b3) (rmC l Z a0 hw b3 k5 k6 h3 n0 Z0 g_b3 E_b3 F_sticky_b3 F_majority_b3 hk5 hk6) e3 (g := (mkF m 71 #[.val (.int i0), .val (.int i1), .val (.int i2), .val (.int k3), .val (.int k4), .val (.int k5), .val (.int k6), .val (.ref b1), .unset, .unset, .unset, .unset] [(.int k6), (.int k5), (.ref b3), (.ref b3)])) rfl (by rw [hml]; rfl) (argsL := [(.int k5), (.int k6)]) (rest := [(.ref b3)]) (lenOf pd_6 rfl) rfl (W := 1) (by show 2 * 0 + _ ≤ _; exact Nat.le_of_eq rfl) (hb hby at_71) (by decide) (by decide) (by decide) (by decide)
  obtain ⟨rfl, N4q, K4, P4, R4⟩ := hQ4
  have N4 := Fr.app N2 N4q
  have Z0 := Nat.le_trans Z0 K4.1
  have O := O.keep K4 (allS (P := fun x => n0 ≤ x) g_b3 all0)
  have E_b1 := E_b1.keep K4
  have P2 := P2.keep K4 (ninS ne_b1_b3 nin0)
  have R2 := R2.keep K4 (ninS ne_b1_b3 nin0)
  have E_b3 := E_b3.keep K4
  refine own_st st4 ?_
  show Fin1 p e below s (rm0Q Z i0 i1 i2 h0 n0) room_1.cells room_1.slots (T4.setTop (mkF m 74 #[.val (.int i0), .val (.int i1), .val (.int i2), .val (.int k3), .val (.int k4), .val (.int k5), .val (.int k6), .val (.ref b1), .unset, .unset, .unset, .unset] [(.ref b3)]))
  refine own_st (fun wt wk => XS.astore X4.here hx rfl (hb hby at_74) rfl rfl (l' := #[.val (.int i0), .val (.int i1), .val (.int i2), .val (.int k3), .val (.int k4), .val (.int k5), .val (.int k6), .val (.ref b1), .val (.ref b3), .unset, .unset, .unset]) rfl wk) ?_
  show Fin1 p e below s (rm0Q Z i0 i1 i2 h0 n0) room_1.cells room_1.slots (T4.setTop (mkF m 76 #[.val (.int i0), .val (.int i1), .val (.int i2), .val (.int k3), .val (.int k4), .val (.int k5), .val (.int k6), .val (.ref b1), .val (.ref b3), .unset, .unset, .unset] []))
  refine own_st (fun wt wk => XS.iloadN X4.here hx rfl (hb hby at_76) rfl wk) ?_
  show Fin1 p e below s (rm0Q Z i0 i1 i2 h0 n0) room_1.cells room_1.slots (T4.setTop (mkF m 77 #[.val (.int i0), .val (.int i1), .val (.int i2), .val (.int k3), .val (.int k4), .val (.int k5), .val (.int k6), .val (.ref b1), .val (.ref b3), .unset, .unset, .unset] [(.int i2)]))
  refine own_st (fun wt wk => XS.iconst X4.here hx rfl (hb hby at_77) wk) ?_
  show Fin1 p e below s (rm0Q Z i0 i1 i2 h0 n0) room_1.cells room_1.slots (T4.setTop (mkF m 78 #[.val (.int i0), .val (.int i1), .val (.int i2), .val (.int k3), .val (.int k4), .val (.int k5), .val (.int k6), .val (.ref b1), .val (.ref b3), .unset, .unset, .unset] [(.int (3 : Int32)), (.int i2)]))
  refine own_st (fun wt wk => XS.iand X4.here hx rfl (hb hby at_78) rfl wk) ?_
  show Fin1 p e below s (rm0Q Z i0 i1 i2 h0 n0) room_1.cells room_1.slots (T4.setTop (mkF m 79 #[.val (.int i0), .val (.int i1), .val (.int i2), .val (.int k3), .val (.int k4), .val (.int k5), .val (.int k6), .val (.ref b1), .val (.ref b3), .unset, .unset, .unset] [(.int (i2 &&& (3 : Int32)))]))
  suffices K79 : ∀ (k9 : Int32), Fin1 p e below s (rm0Q Z i0 i1 i2 h0 n0) room_1.cells room_1.slots (T4.setTop (mkF m 79 #[.val (.int i0), .val (.int i1), .val (.int i2), .val (.int k3), .val (.int k4), .val (.int k5), .val (.int k6), .val (.ref b1), .val (.ref b3), .unset, .unset, .unset] [(.int k9)])) by
    exact K79 _
  intro k9
  refine own_st (fun wt wk => XS.istore X4.here hx rfl (hb hby at_79) rfl (l' := #[.val (.int i0), .val (.int i1), .val (.int i2), .val (.int k3), .val (.int k4), .val (.int k5), .val (.int k6), .val (.ref b1), .val (.ref b3), .val (.int k9), .unset, .unset]) rfl wk) ?_
  show Fin1 p e below s (rm0Q Z i0 i1 i2 h0 n0) room_1.cells room_1.slots (T4.setTop (mkF m 81 #[.val (.int i0), .val (.int i1), .val (.int i2), .val (.int k3), .val (.int k4), .val (.int k5), .val (.int k6), .val (.ref b1), .val (.ref b3), .val (.int k9), .unset, .unset] []))
  refine own_st (fun wt wk => XS.iload X4.here hx rfl (hb hby at_81) rfl wk) ?_
  show Fin1 p e below s (rm0Q Z i0 i1 i2 h0 n0) room_1.cells room_1.slots (T4.setTop (mkF m 83 #[.val (.int i0), .val (.int i1), .val (.int i2), .val (.int k3), .val (.int k4), .val (.int k5), .val (.int k6), .val (.ref b1), .val (.ref b3), .val (.int k9), .unset, .unset] [(.int k9)]))
  by_cases c83 : k9 = (0 : Int32)
  · refine own_st (fun wt wk => XS.ifNo X4.here hx rfl (hb hby at_83) rfl ((if0 _ _).trans (teq c83).2) wk) ?_
    show Fin1 p e below s (rm0Q Z i0 i1 i2 h0 n0) room_1.cells room_1.slots (T4.setTop (mkF m 86 #[.val (.int i0), .val (.int i1), .val (.int i2), .val (.int k3), .val (.int k4), .val (.int k5), .val (.int k6), .val (.ref b1), .val (.ref b3), .val (.int k9), .unset, .unset] []))
    refine own_st (fun wt wk => XS.aload X4.here hx rfl (hb hby at_86) rfl rfl wk) ?_
    show Fin1 p e below s (rm0Q Z i0 i1 i2 h0 n0) room_1.cells room_1.slots (T4.setTop (mkF m 88 #[.val (.int i0), .val (.int i1), .val (.int i2), .val (.int k3), .val (.int k4), .val (.int k5), .val (.int k6), .val (.ref b1), .val (.ref b3), .val (.int k9), .unset, .unset] [(.ref b3)]))
    refine own_st (fun wt wk => XS.astore X4.here hx rfl (hb hby at_88) rfl rfl (l' := #[.val (.int i0), .val (.int i1), .val (.int i2), .val (.int k3), .val (.int k4), .val (.int k5), .val (.int k6), .val (.ref b1), .val (.ref b3), .val (.int k9), .val (.ref b3), .unset]) rfl wk) ?_
    show Fin1 p e below s (rm0Q Z i0 i1 i2 h0 n0) room_1.cells room_1.slots (T4.setTop (mkF m 90 #[.val (.int i0), .val (.int i1), .val (.int i2), .val (.int k3), .val (.int k4), .val (.int k5), .val (.int k6), .val (.ref b1), .val (.ref b3), .val (.int k9), .val (.ref b3), .unset] []))
    refine own_st (fun wt wk => XS.iloadN X4.here hx rfl (hb hby at_90) rfl wk) ?_
    show Fin1 p e below s (rm0Q Z i0 i1 i2 h0 n0) room_1.cells room_1.slots (T4.setTop (mkF m 91 #[.val (.int i0), .val (.int i1), .val (.int i2), .val (.int k3), .val (.int k4), .val (.int k5), .val (.int k6), .val (.ref b1), .val (.ref b3), .val (.int k9), .val (.ref b3), .unset] [(.int k3)]))
    refine own_st (fun wt wk => XS.iload X4.here hx rfl (hb hby at_91) rfl wk) ?_
    show Fin1 p e below s (rm0Q Z i0 i1 i2 h0 n0) room_1.cells room_1.slots (T4.setTop (mkF m 93 #[.val (.int i0), .val (.int i1), .val (.int i2), .val (.int k3), .val (.int k4), .val (.int k5), .val (.int k6), .val (.ref b1), .val (.ref b3), .val (.int k9), .val (.ref b3), .unset] [(.int k5), (.int k3)]))
    by_cases c93 : k3 = k5
    · refine own_st (fun wt wk => XS.icmpNo X4.here hx rfl (hb hby at_93) rfl (teq c93).2 wk) ?_
      show Fin1 p e below s (rm0Q Z i0 i1 i2 h0 n0) room_1.cells room_1.slots (T4.setTop (mkF m 96 #[.val (.int i0), .val (.int i1), .val (.int i2), .val (.int k3), .val (.int k4), .val (.int k5), .val (.int k6), .val (.ref b1), .val (.ref b3), .val (.int k9), .val (.ref b3), .unset] []))
      refine own_st (fun wt wk => XS.iload X4.here hx rfl (hb hby at_96) rfl wk) ?_
      show Fin1 p e below s (rm0Q Z i0 i1 i2 h0 n0) room_1.cells room_1.slots (T4.setTop (mkF m 98 #[.val (.int i0), .val (.int i1), .val (.int i2), .val (.int k3), .val (.int k4), .val (.int k5), .val (.int k6), .val (.ref b1), .val (.ref b3), .val (.int k9), .val (.ref b3), .unset] [(.int k4)]))
      refine own_st (fun wt wk => XS.iload X4.here hx rfl (hb hby at_98) rfl wk) ?_
      show Fin1 p e below s (rm0Q Z i0 i1 i2 h0 n0) room_1.cells room_1.slots (T4.setTop (mkF m 100 #[.val (.int i0), .val (.int i1), .val (.int i2), .val (.int k3), .val (.int k4), .val (.int k5), .val (.int k6), .val (.ref b1), .val (.ref b3), .val (.int k9), .val (.ref b3), .unset] [(.int k6), (.int k4)]))
      by_cases c100 : k4 = k6
      · refine own_st (fun wt wk => XS.icmpNo X4.here hx rfl (hb hby at_100) rfl (teq c100).2 wk) ?_
        show Fin1 p e below s (rm0Q Z i0 i1 i2 h0 n0) room_1.cells room_1.slots (T4.setTop (mkF m 103 #[.val (.int i0), .val (.int i1), .val (.int i2), .val (.int k3), .val (.int k4), .val (.int k5), .val (.int k6), .val (.ref b1), .val (.ref b3), .val (.int k9), .val (.ref b3), .unset] []))
        refine own_st (fun wt wk => XS.iconst X4.here hx rfl (hb hby at_103) wk) ?_
        show Fin1 p e below s (rm0Q Z i0 i1 i2 h0 n0) room_1.cells room_1.slots (T4.setTop (mkF m 104 #[.val (.int i0), .val (.int i1), .val (.int i2), .val (.int k3), .val (.int k4), .val (.int k5), .val (.int k6), .val (.ref b1), .val (.ref b3), .val (.int k9), .val (.ref b3), .unset] [(.int (1 : Int32))]))
        refine own_st (fun wt wk => XS.goto X4.here hx rfl (pc0 := 104) (pc' := 108) rfl (hb hby at_104) (by decide) (by decide) wk) ?_
        show Fin1 p e below s (rm0Q Z i0 i1 i2 h0 n0) room_1.cells room_1.slots (T4.setTop (mkF m 108 #[.val (.int i0), .val (.int i1), .val (.int i2), .val (.int k3), .val (.int k4), .val (.int k5), .val (.int k6), .val (.ref b1), .val (.ref b3), .val (.int k9), .val (.ref b3), .unset] [(.int (1 : Int32))]))
        refine own_st (fun wt wk => XS.istore X4.here hx rfl (hb hby at_108) rfl (l' := #[.val (.int i0), .val (.int i1), .val (.int i2), .val (.int k3), .val (.int k4), .val (.int k5), .val (.int k6), .val (.ref b1), .val (.ref b3), .val (.int k9), .val (.ref b3), .val (.int (1 : Int32))]) rfl wk) ?_
        show Fin1 p e below s (rm0Q Z i0 i1 i2 h0 n0) room_1.cells room_1.slots (T4.setTop (mkF m 110 #[.val (.int i0), .val (.int i1), .val (.int i2), .val (.int k3), .val (.int k4), .val (.int k5), .val (.int k6), .val (.ref b1), .val (.ref b3), .val (.int k9), .val (.ref b3), .val (.int (1 : Int32))] []))
        refine own_st (fun wt wk => XS.goto X4.here hx rfl (pc0 := 110) (pc' := 153) rfl (hb hby at_110) (by decide) (by decide) wk) ?_
        show Fin1 p e below s (rm0Q Z i0 i1 i2 h0 n0) room_1.cells room_1.slots (T4.setTop (mkF m 153 #[.val (.int i0), .val (.int i1), .val (.int i2), .val (.int k3), .val (.int k4), .val (.int k5), .val (.int k6), .val (.ref b1), .val (.ref b3), .val (.int k9), .val (.ref b3), .val (.int (1 : Int32))] []))
        refine own_st (fun wt wk => XS.aload X4.here hx rfl (hb hby at_153) rfl rfl wk) ?_
        show Fin1 p e below s (rm0Q Z i0 i1 i2 h0 n0) room_1.cells room_1.slots (T4.setTop (mkF m 155 #[.val (.int i0), .val (.int i1), .val (.int i2), .val (.int k3), .val (.int k4), .val (.int k5), .val (.int k6), .val (.ref b1), .val (.ref b3), .val (.int k9), .val (.ref b3), .val (.int (1 : Int32))] [(.ref b1)]))
        refine own_st (fun wt wk => XS.aload X4.here hx rfl (hb hby at_155) rfl rfl wk) ?_
        show Fin1 p e below s (rm0Q Z i0 i1 i2 h0 n0) room_1.cells room_1.slots (T4.setTop (mkF m 157 #[.val (.int i0), .val (.int i1), .val (.int i2), .val (.int k3), .val (.int k4), .val (.int k5), .val (.int k6), .val (.ref b1), .val (.ref b3), .val (.int k9), .val (.ref b3), .val (.int (1 : Int32))] [(.ref b3), (.ref b1)]))
        obtain ⟨v5, T5, h5, L5, X5, e5, hQ5, st5⟩ := own_virtual X4 hx hZ hown (hw _ (List.mem_of_getElem? (i := 13) rfl)) (hw _ (List.mem_of_getElem? (i := 14) rfl)) (hw _ (List.mem_of_getElem? (i := 16) rfl)) (hw _ (List.mem_of_getElem? (i := 15) rfl)) (hw _ (List.mem_of_getElem? (i := 17) rfl)) (hw _ (List.mem_of_getElem? (i := 2) rfl)) (by decide) (a := b1) E_b1 (rmE l Z a0 hw b1 b3 k3 k4 k5 k6 (1 : Int32) h4 n0 Z0 E_b3 P2 R2 P4 R4 (by simp [own_eq, c93, c100])) e4 (g := (mkF m 157 #[.val (.int i0), .val (.int i1), .val (.int i2), .val (.int k3), .val (.int k4), .val (.int k5), .val (.int k6), .val (.ref b1), .val (.ref b3), .val (.int k9), .val (.ref b3), .val (.int (1 : Int32))] [(.ref b3), (.ref b1)])) rfl (by rw [hml]; rfl) (argsL := [(.ref b3)]) (rest := []) (lenOf pd_7 rfl) rfl (W := 0) (by show 2 * 0 + _ ≤ _; exact Nat.le_of_eq rfl) (hb hby at_157) (by decide) (by decide) (by decide) (by decide)
        obtain ⟨rfl, N5q, hh5⟩ := hQ5
        have N5 := Fr.app N4 N5q
        rw [hh5] at e5
        refine own_st st5 ?_
        show Fin1 p e below s (rm0Q Z i0 i1 i2 h0 n0) room_1.cells room_1.slots (T5.setTop (mkF m 160 #[.val (.int i0), .val (.int i1), .val (.int i2), .val (.int k3), .val (.int k4), .val (.int k5), .val (.int k6), .val (.ref b1), .val (.ref b3), .val (.int k9), .val (.ref b3), .val (.int (1 : Int32))] [(.int (1 : Int32))]))
        refine own_st (fun wt wk => XS.iload X5.here hx rfl (hb hby at_160) rfl wk) ?_
        show Fin1 p e below s (rm0Q Z i0 i1 i2 h0 n0) room_1.cells room_1.slots (T5.setTop (mkF m 162 #[.val (.int i0), .val (.int i1), .val (.int i2), .val (.int k3), .val (.int k4), .val (.int k5), .val (.int k6), .val (.ref b1), .val (.ref b3), .val (.int k9), .val (.ref b3), .val (.int (1 : Int32))] [(.int (1 : Int32)), (.int (1 : Int32))]))
        refine own_st (fun wt wk => XS.icmpNo X5.here hx rfl (hb hby at_162) rfl (teq (by decide)).2 wk) ?_
        show Fin1 p e below s (rm0Q Z i0 i1 i2 h0 n0) room_1.cells room_1.slots (T5.setTop (mkF m 165 #[.val (.int i0), .val (.int i1), .val (.int i2), .val (.int k3), .val (.int k4), .val (.int k5), .val (.int k6), .val (.ref b1), .val (.ref b3), .val (.int k9), .val (.ref b3), .val (.int (1 : Int32))] []))
        refine own_st (fun wt wk => XS.iconst X5.here hx rfl (hb hby at_165) wk) ?_
        show Fin1 p e below s (rm0Q Z i0 i1 i2 h0 n0) room_1.cells room_1.slots (T5.setTop (mkF m 166 #[.val (.int i0), .val (.int i1), .val (.int i2), .val (.int k3), .val (.int k4), .val (.int k5), .val (.int k6), .val (.ref b1), .val (.ref b3), .val (.int k9), .val (.ref b3), .val (.int (1 : Int32))] [(.int (1 : Int32))]))
        refine own_st (fun wt wk => XS.goto X5.here hx rfl (pc0 := 166) (pc' := 170) rfl (hb hby at_166) (by decide) (by decide) wk) ?_
        show Fin1 p e below s (rm0Q Z i0 i1 i2 h0 n0) room_1.cells room_1.slots (T5.setTop (mkF m 170 #[.val (.int i0), .val (.int i1), .val (.int i2), .val (.int k3), .val (.int k4), .val (.int k5), .val (.int k6), .val (.ref b1), .val (.ref b3), .val (.int k9), .val (.ref b3), .val (.int (1 : Int32))] [(.int (1 : Int32))]))
        exact own_retZ X5 hx hlk hret (hb hby at_170) (z := (1 : Int32)) (by decide) (by rw [e5]; exact ⟨rfl, N5⟩) (by decide) (by decide)
      · refine own_st (fun wt wk => XS.icmpYes X4.here hx rfl (pc0 := 100) (pc' := 107) rfl (hb hby at_100) rfl (feq c100).2 (by decide) (by decide) wk) ?_
        show Fin1 p e below s (rm0Q Z i0 i1 i2 h0 n0) room_1.cells room_1.slots (T4.setTop (mkF m 107 #[.val (.int i0), .val (.int i1), .val (.int i2), .val (.int k3), .val (.int k4), .val (.int k5), .val (.int k6), .val (.ref b1), .val (.ref b3), .val (.int k9), .val (.ref b3), .unset] []))
        refine own_st (fun wt wk => XS.iconst X4.here hx rfl (hb hby at_107) wk) ?_
        show Fin1 p e below s (rm0Q Z i0 i1 i2 h0 n0) room_1.cells room_1.slots (T4.setTop (mkF m 108 #[.val (.int i0), .val (.int i1), .val (.int i2), .val (.int k3), .val (.int k4), .val (.int k5), .val (.int k6), .val (.ref b1), .val (.ref b3), .val (.int k9), .val (.ref b3), .unset] [(.int (0 : Int32))]))
        refine own_st (fun wt wk => XS.istore X4.here hx rfl (hb hby at_108) rfl (l' := #[.val (.int i0), .val (.int i1), .val (.int i2), .val (.int k3), .val (.int k4), .val (.int k5), .val (.int k6), .val (.ref b1), .val (.ref b3), .val (.int k9), .val (.ref b3), .val (.int (0 : Int32))]) rfl wk) ?_
        show Fin1 p e below s (rm0Q Z i0 i1 i2 h0 n0) room_1.cells room_1.slots (T4.setTop (mkF m 110 #[.val (.int i0), .val (.int i1), .val (.int i2), .val (.int k3), .val (.int k4), .val (.int k5), .val (.int k6), .val (.ref b1), .val (.ref b3), .val (.int k9), .val (.ref b3), .val (.int (0 : Int32))] []))
        refine own_st (fun wt wk => XS.goto X4.here hx rfl (pc0 := 110) (pc' := 153) rfl (hb hby at_110) (by decide) (by decide) wk) ?_
        show Fin1 p e below s (rm0Q Z i0 i1 i2 h0 n0) room_1.cells room_1.slots (T4.setTop (mkF m 153 #[.val (.int i0), .val (.int i1), .val (.int i2), .val (.int k3), .val (.int k4), .val (.int k5), .val (.int k6), .val (.ref b1), .val (.ref b3), .val (.int k9), .val (.ref b3), .val (.int (0 : Int32))] []))
        refine own_st (fun wt wk => XS.aload X4.here hx rfl (hb hby at_153) rfl rfl wk) ?_
        show Fin1 p e below s (rm0Q Z i0 i1 i2 h0 n0) room_1.cells room_1.slots (T4.setTop (mkF m 155 #[.val (.int i0), .val (.int i1), .val (.int i2), .val (.int k3), .val (.int k4), .val (.int k5), .val (.int k6), .val (.ref b1), .val (.ref b3), .val (.int k9), .val (.ref b3), .val (.int (0 : Int32))] [(.ref b1)]))
        refine own_st (fun wt wk => XS.aload X4.here hx rfl (hb hby at_155) rfl rfl wk) ?_
        show Fin1 p e below s (rm0Q Z i0 i1 i2 h0 n0) room_1.cells room_1.slots (T4.setTop (mkF m 157 #[.val (.int i0), .val (.int i1), .val (.int i2), .val (.int k3), .val (.int k4), .val (.int k5), .val (.int k6), .val (.ref b1), .val (.ref b3), .val (.int k9), .val (.ref b3), .val (.int (0 : Int32))] [(.ref b3), (.ref b1)]))
        obtain ⟨v6, T6, h6, L6, X6, e6, hQ6, st6⟩ := own_virtual X4 hx hZ hown (hw _ (List.mem_of_getElem? (i := 13) rfl)) (hw _ (List.mem_of_getElem? (i := 14) rfl)) (hw _ (List.mem_of_getElem? (i := 16) rfl)) (hw _ (List.mem_of_getElem? (i := 15) rfl)) (hw _ (List.mem_of_getElem? (i := 17) rfl)) (hw _ (List.mem_of_getElem? (i := 2) rfl)) (by decide) (a := b1) E_b1 (rmE l Z a0 hw b1 b3 k3 k4 k5 k6 (0 : Int32) h4 n0 Z0 E_b3 P2 R2 P4 R4 (by simp [own_eq, c93, c100])) e4 (g := (mkF m 157 #[.val (.int i0), .val (.int i1), .val (.int i2), .val (.int k3), .val (.int k4), .val (.int k5), .val (.int k6), .val (.ref b1), .val (.ref b3), .val (.int k9), .val (.ref b3), .val (.int (0 : Int32))] [(.ref b3), (.ref b1)])) rfl (by rw [hml]; rfl) (argsL := [(.ref b3)]) (rest := []) (lenOf pd_7 rfl) rfl (W := 0) (by show 2 * 0 + _ ≤ _; exact Nat.le_of_eq rfl) (hb hby at_157) (by decide) (by decide) (by decide) (by decide)
        obtain ⟨rfl, N6q, hh6⟩ := hQ6
        have N6 := Fr.app N4 N6q
        rw [hh6] at e6
        refine own_st st6 ?_
        show Fin1 p e below s (rm0Q Z i0 i1 i2 h0 n0) room_1.cells room_1.slots (T6.setTop (mkF m 160 #[.val (.int i0), .val (.int i1), .val (.int i2), .val (.int k3), .val (.int k4), .val (.int k5), .val (.int k6), .val (.ref b1), .val (.ref b3), .val (.int k9), .val (.ref b3), .val (.int (0 : Int32))] [(.int (0 : Int32))]))
        refine own_st (fun wt wk => XS.iload X6.here hx rfl (hb hby at_160) rfl wk) ?_
        show Fin1 p e below s (rm0Q Z i0 i1 i2 h0 n0) room_1.cells room_1.slots (T6.setTop (mkF m 162 #[.val (.int i0), .val (.int i1), .val (.int i2), .val (.int k3), .val (.int k4), .val (.int k5), .val (.int k6), .val (.ref b1), .val (.ref b3), .val (.int k9), .val (.ref b3), .val (.int (0 : Int32))] [(.int (0 : Int32)), (.int (0 : Int32))]))
        refine own_st (fun wt wk => XS.icmpNo X6.here hx rfl (hb hby at_162) rfl (teq (by decide)).2 wk) ?_
        show Fin1 p e below s (rm0Q Z i0 i1 i2 h0 n0) room_1.cells room_1.slots (T6.setTop (mkF m 165 #[.val (.int i0), .val (.int i1), .val (.int i2), .val (.int k3), .val (.int k4), .val (.int k5), .val (.int k6), .val (.ref b1), .val (.ref b3), .val (.int k9), .val (.ref b3), .val (.int (0 : Int32))] []))
        refine own_st (fun wt wk => XS.iconst X6.here hx rfl (hb hby at_165) wk) ?_
        show Fin1 p e below s (rm0Q Z i0 i1 i2 h0 n0) room_1.cells room_1.slots (T6.setTop (mkF m 166 #[.val (.int i0), .val (.int i1), .val (.int i2), .val (.int k3), .val (.int k4), .val (.int k5), .val (.int k6), .val (.ref b1), .val (.ref b3), .val (.int k9), .val (.ref b3), .val (.int (0 : Int32))] [(.int (1 : Int32))]))
        refine own_st (fun wt wk => XS.goto X6.here hx rfl (pc0 := 166) (pc' := 170) rfl (hb hby at_166) (by decide) (by decide) wk) ?_
        show Fin1 p e below s (rm0Q Z i0 i1 i2 h0 n0) room_1.cells room_1.slots (T6.setTop (mkF m 170 #[.val (.int i0), .val (.int i1), .val (.int i2), .val (.int k3), .val (.int k4), .val (.int k5), .val (.int k6), .val (.ref b1), .val (.ref b3), .val (.int k9), .val (.ref b3), .val (.int (0 : Int32))] [(.int (1 : Int32))]))
        exact own_retZ X6 hx hlk hret (hb hby at_170) (z := (1 : Int32)) (by decide) (by rw [e6]; exact ⟨rfl, N6⟩) (by decide) (by decide)
    · refine own_st (fun wt wk => XS.icmpYes X4.here hx rfl (pc0 := 93) (pc' := 107) rfl (hb hby at_93) rfl (feq c93).2 (by decide) (by decide) wk) ?_
      show Fin1 p e below s (rm0Q Z i0 i1 i2 h0 n0) room_1.cells room_1.slots (T4.setTop (mkF m 107 #[.val (.int i0), .val (.int i1), .val (.int i2), .val (.int k3), .val (.int k4), .val (.int k5), .val (.int k6), .val (.ref b1), .val (.ref b3), .val (.int k9), .val (.ref b3), .unset] []))
      refine own_st (fun wt wk => XS.iconst X4.here hx rfl (hb hby at_107) wk) ?_
      show Fin1 p e below s (rm0Q Z i0 i1 i2 h0 n0) room_1.cells room_1.slots (T4.setTop (mkF m 108 #[.val (.int i0), .val (.int i1), .val (.int i2), .val (.int k3), .val (.int k4), .val (.int k5), .val (.int k6), .val (.ref b1), .val (.ref b3), .val (.int k9), .val (.ref b3), .unset] [(.int (0 : Int32))]))
      refine own_st (fun wt wk => XS.istore X4.here hx rfl (hb hby at_108) rfl (l' := #[.val (.int i0), .val (.int i1), .val (.int i2), .val (.int k3), .val (.int k4), .val (.int k5), .val (.int k6), .val (.ref b1), .val (.ref b3), .val (.int k9), .val (.ref b3), .val (.int (0 : Int32))]) rfl wk) ?_
      show Fin1 p e below s (rm0Q Z i0 i1 i2 h0 n0) room_1.cells room_1.slots (T4.setTop (mkF m 110 #[.val (.int i0), .val (.int i1), .val (.int i2), .val (.int k3), .val (.int k4), .val (.int k5), .val (.int k6), .val (.ref b1), .val (.ref b3), .val (.int k9), .val (.ref b3), .val (.int (0 : Int32))] []))
      refine own_st (fun wt wk => XS.goto X4.here hx rfl (pc0 := 110) (pc' := 153) rfl (hb hby at_110) (by decide) (by decide) wk) ?_
      show Fin1 p e below s (rm0Q Z i0 i1 i2 h0 n0) room_1.cells room_1.slots (T4.setTop (mkF m 153 #[.val (.int i0), .val (.int i1), .val (.int i2), .val (.int k3), .val (.int k4), .val (.int k5), .val (.int k6), .val (.ref b1), .val (.ref b3), .val (.int k9), .val (.ref b3), .val (.int (0 : Int32))] []))
      refine own_st (fun wt wk => XS.aload X4.here hx rfl (hb hby at_153) rfl rfl wk) ?_
      show Fin1 p e below s (rm0Q Z i0 i1 i2 h0 n0) room_1.cells room_1.slots (T4.setTop (mkF m 155 #[.val (.int i0), .val (.int i1), .val (.int i2), .val (.int k3), .val (.int k4), .val (.int k5), .val (.int k6), .val (.ref b1), .val (.ref b3), .val (.int k9), .val (.ref b3), .val (.int (0 : Int32))] [(.ref b1)]))
      refine own_st (fun wt wk => XS.aload X4.here hx rfl (hb hby at_155) rfl rfl wk) ?_
      show Fin1 p e below s (rm0Q Z i0 i1 i2 h0 n0) room_1.cells room_1.slots (T4.setTop (mkF m 157 #[.val (.int i0), .val (.int i1), .val (.int i2), .val (.int k3), .val (.int k4), .val (.int k5), .val (.int k6), .val (.ref b1), .val (.ref b3), .val (.int k9), .val (.ref b3), .val (.int (0 : Int32))] [(.ref b3), (.ref b1)]))
      obtain ⟨v7, T7, h7, L7, X7, e7, hQ7, st7⟩ := own_virtual X4 hx hZ hown (hw _ (List.mem_of_getElem? (i := 13) rfl)) (hw _ (List.mem_of_getElem? (i := 14) rfl)) (hw _ (List.mem_of_getElem? (i := 16) rfl)) (hw _ (List.mem_of_getElem? (i := 15) rfl)) (hw _ (List.mem_of_getElem? (i := 17) rfl)) (hw _ (List.mem_of_getElem? (i := 2) rfl)) (by decide) (a := b1) E_b1 (rmE l Z a0 hw b1 b3 k3 k4 k5 k6 (0 : Int32) h4 n0 Z0 E_b3 P2 R2 P4 R4 (by simp [own_eq, c93])) e4 (g := (mkF m 157 #[.val (.int i0), .val (.int i1), .val (.int i2), .val (.int k3), .val (.int k4), .val (.int k5), .val (.int k6), .val (.ref b1), .val (.ref b3), .val (.int k9), .val (.ref b3), .val (.int (0 : Int32))] [(.ref b3), (.ref b1)])) rfl (by rw [hml]; rfl) (argsL := [(.ref b3)]) (rest := []) (lenOf pd_7 rfl) rfl (W := 0) (by show 2 * 0 + _ ≤ _; exact Nat.le_of_eq rfl) (hb hby at_157) (by decide) (by decide) (by decide) (by decide)
      obtain ⟨rfl, N7q, hh7⟩ := hQ7
      have N7 := Fr.app N4 N7q
      rw [hh7] at e7
      refine own_st st7 ?_
      show Fin1 p e below s (rm0Q Z i0 i1 i2 h0 n0) room_1.cells room_1.slots (T7.setTop (mkF m 160 #[.val (.int i0), .val (.int i1), .val (.int i2), .val (.int k3), .val (.int k4), .val (.int k5), .val (.int k6), .val (.ref b1), .val (.ref b3), .val (.int k9), .val (.ref b3), .val (.int (0 : Int32))] [(.int (0 : Int32))]))
      refine own_st (fun wt wk => XS.iload X7.here hx rfl (hb hby at_160) rfl wk) ?_
      show Fin1 p e below s (rm0Q Z i0 i1 i2 h0 n0) room_1.cells room_1.slots (T7.setTop (mkF m 162 #[.val (.int i0), .val (.int i1), .val (.int i2), .val (.int k3), .val (.int k4), .val (.int k5), .val (.int k6), .val (.ref b1), .val (.ref b3), .val (.int k9), .val (.ref b3), .val (.int (0 : Int32))] [(.int (0 : Int32)), (.int (0 : Int32))]))
      refine own_st (fun wt wk => XS.icmpNo X7.here hx rfl (hb hby at_162) rfl (teq (by decide)).2 wk) ?_
      show Fin1 p e below s (rm0Q Z i0 i1 i2 h0 n0) room_1.cells room_1.slots (T7.setTop (mkF m 165 #[.val (.int i0), .val (.int i1), .val (.int i2), .val (.int k3), .val (.int k4), .val (.int k5), .val (.int k6), .val (.ref b1), .val (.ref b3), .val (.int k9), .val (.ref b3), .val (.int (0 : Int32))] []))
      refine own_st (fun wt wk => XS.iconst X7.here hx rfl (hb hby at_165) wk) ?_
      show Fin1 p e below s (rm0Q Z i0 i1 i2 h0 n0) room_1.cells room_1.slots (T7.setTop (mkF m 166 #[.val (.int i0), .val (.int i1), .val (.int i2), .val (.int k3), .val (.int k4), .val (.int k5), .val (.int k6), .val (.ref b1), .val (.ref b3), .val (.int k9), .val (.ref b3), .val (.int (0 : Int32))] [(.int (1 : Int32))]))
      refine own_st (fun wt wk => XS.goto X7.here hx rfl (pc0 := 166) (pc' := 170) rfl (hb hby at_166) (by decide) (by decide) wk) ?_
      show Fin1 p e below s (rm0Q Z i0 i1 i2 h0 n0) room_1.cells room_1.slots (T7.setTop (mkF m 170 #[.val (.int i0), .val (.int i1), .val (.int i2), .val (.int k3), .val (.int k4), .val (.int k5), .val (.int k6), .val (.ref b1), .val (.ref b3), .val (.int k9), .val (.ref b3), .val (.int (0 : Int32))] [(.int (1 : Int32))]))
      exact own_retZ X7 hx hlk hret (hb hby at_170) (z := (1 : Int32)) (by decide) (by rw [e7]; exact ⟨rfl, N7⟩) (by decide) (by decide)
  · refine own_st (fun wt wk => XS.ifYes X4.here hx rfl (pc0 := 83) (pc' := 113) rfl (hb hby at_83) rfl ((if0 _ _).trans (feq c83).2) (by decide) (by decide) wk) ?_
    show Fin1 p e below s (rm0Q Z i0 i1 i2 h0 n0) room_1.cells room_1.slots (T4.setTop (mkF m 113 #[.val (.int i0), .val (.int i1), .val (.int i2), .val (.int k3), .val (.int k4), .val (.int k5), .val (.int k6), .val (.ref b1), .val (.ref b3), .val (.int k9), .unset, .unset] []))
    refine own_st (fun wt wk => XS.iload X4.here hx rfl (hb hby at_113) rfl wk) ?_
    show Fin1 p e below s (rm0Q Z i0 i1 i2 h0 n0) room_1.cells room_1.slots (T4.setTop (mkF m 115 #[.val (.int i0), .val (.int i1), .val (.int i2), .val (.int k3), .val (.int k4), .val (.int k5), .val (.int k6), .val (.ref b1), .val (.ref b3), .val (.int k9), .unset, .unset] [(.int k9)]))
    refine own_st (fun wt wk => XS.iconst X4.here hx rfl (hb hby at_115) wk) ?_
    show Fin1 p e below s (rm0Q Z i0 i1 i2 h0 n0) room_1.cells room_1.slots (T4.setTop (mkF m 116 #[.val (.int i0), .val (.int i1), .val (.int i2), .val (.int k3), .val (.int k4), .val (.int k5), .val (.int k6), .val (.ref b1), .val (.ref b3), .val (.int k9), .unset, .unset] [(.int (1 : Int32)), (.int k9)]))
    by_cases c116 : k9 = (1 : Int32)
    · refine own_st (fun wt wk => XS.icmpNo X4.here hx rfl (hb hby at_116) rfl (teq c116).2 wk) ?_
      show Fin1 p e below s (rm0Q Z i0 i1 i2 h0 n0) room_1.cells room_1.slots (T4.setTop (mkF m 119 #[.val (.int i0), .val (.int i1), .val (.int i2), .val (.int k3), .val (.int k4), .val (.int k5), .val (.int k6), .val (.ref b1), .val (.ref b3), .val (.int k9), .unset, .unset] []))
      refine own_st (fun wt wk => XS.aload X4.here hx rfl (hb hby at_119) rfl rfl wk) ?_
      show Fin1 p e below s (rm0Q Z i0 i1 i2 h0 n0) room_1.cells room_1.slots (T4.setTop (mkF m 121 #[.val (.int i0), .val (.int i1), .val (.int i2), .val (.int k3), .val (.int k4), .val (.int k5), .val (.int k6), .val (.ref b1), .val (.ref b3), .val (.int k9), .unset, .unset] [(.ref b1)]))
      refine own_st (fun wt wk => XS.astore X4.here hx rfl (hb hby at_121) rfl rfl (l' := #[.val (.int i0), .val (.int i1), .val (.int i2), .val (.int k3), .val (.int k4), .val (.int k5), .val (.int k6), .val (.ref b1), .val (.ref b3), .val (.int k9), .val (.ref b1), .unset]) rfl wk) ?_
      show Fin1 p e below s (rm0Q Z i0 i1 i2 h0 n0) room_1.cells room_1.slots (T4.setTop (mkF m 123 #[.val (.int i0), .val (.int i1), .val (.int i2), .val (.int k3), .val (.int k4), .val (.int k5), .val (.int k6), .val (.ref b1), .val (.ref b3), .val (.int k9), .val (.ref b1), .unset] []))
      refine own_st (fun wt wk => XS.iconst X4.here hx rfl (hb hby at_123) wk) ?_
      show Fin1 p e below s (rm0Q Z i0 i1 i2 h0 n0) room_1.cells room_1.slots (T4.setTop (mkF m 124 #[.val (.int i0), .val (.int i1), .val (.int i2), .val (.int k3), .val (.int k4), .val (.int k5), .val (.int k6), .val (.ref b1), .val (.ref b3), .val (.int k9), .val (.ref b1), .unset] [(.int (1 : Int32))]))
      refine own_st (fun wt wk => XS.istore X4.here hx rfl (hb hby at_124) rfl (l' := #[.val (.int i0), .val (.int i1), .val (.int i2), .val (.int k3), .val (.int k4), .val (.int k5), .val (.int k6), .val (.ref b1), .val (.ref b3), .val (.int k9), .val (.ref b1), .val (.int (1 : Int32))]) rfl wk) ?_
      show Fin1 p e below s (rm0Q Z i0 i1 i2 h0 n0) room_1.cells room_1.slots (T4.setTop (mkF m 126 #[.val (.int i0), .val (.int i1), .val (.int i2), .val (.int k3), .val (.int k4), .val (.int k5), .val (.int k6), .val (.ref b1), .val (.ref b3), .val (.int k9), .val (.ref b1), .val (.int (1 : Int32))] []))
      refine own_st (fun wt wk => XS.goto X4.here hx rfl (pc0 := 126) (pc' := 153) rfl (hb hby at_126) (by decide) (by decide) wk) ?_
      show Fin1 p e below s (rm0Q Z i0 i1 i2 h0 n0) room_1.cells room_1.slots (T4.setTop (mkF m 153 #[.val (.int i0), .val (.int i1), .val (.int i2), .val (.int k3), .val (.int k4), .val (.int k5), .val (.int k6), .val (.ref b1), .val (.ref b3), .val (.int k9), .val (.ref b1), .val (.int (1 : Int32))] []))
      refine own_st (fun wt wk => XS.aload X4.here hx rfl (hb hby at_153) rfl rfl wk) ?_
      show Fin1 p e below s (rm0Q Z i0 i1 i2 h0 n0) room_1.cells room_1.slots (T4.setTop (mkF m 155 #[.val (.int i0), .val (.int i1), .val (.int i2), .val (.int k3), .val (.int k4), .val (.int k5), .val (.int k6), .val (.ref b1), .val (.ref b3), .val (.int k9), .val (.ref b1), .val (.int (1 : Int32))] [(.ref b1)]))
      refine own_st (fun wt wk => XS.aload X4.here hx rfl (hb hby at_155) rfl rfl wk) ?_
      show Fin1 p e below s (rm0Q Z i0 i1 i2 h0 n0) room_1.cells room_1.slots (T4.setTop (mkF m 157 #[.val (.int i0), .val (.int i1), .val (.int i2), .val (.int k3), .val (.int k4), .val (.int k5), .val (.int k6), .val (.ref b1), .val (.ref b3), .val (.int k9), .val (.ref b1), .val (.int (1 : Int32))] [(.ref b1), (.ref b1)]))
      obtain ⟨v8, T8, h8, L8, X8, e8, hQ8, st8⟩ := own_virtual X4 hx hZ hown (hw _ (List.mem_of_getElem? (i := 13) rfl)) (hw _ (List.mem_of_getElem? (i := 14) rfl)) (hw _ (List.mem_of_getElem? (i := 16) rfl)) (hw _ (List.mem_of_getElem? (i := 15) rfl)) (hw _ (List.mem_of_getElem? (i := 17) rfl)) (hw _ (List.mem_of_getElem? (i := 2) rfl)) (by decide) (a := b1) E_b1 (rmE l Z a0 hw b1 b1 k3 k4 k3 k4 (1 : Int32) h4 n0 Z0 E_b1 P2 R2 P2 R2 (by simp [own_eq])) e4 (g := (mkF m 157 #[.val (.int i0), .val (.int i1), .val (.int i2), .val (.int k3), .val (.int k4), .val (.int k5), .val (.int k6), .val (.ref b1), .val (.ref b3), .val (.int k9), .val (.ref b1), .val (.int (1 : Int32))] [(.ref b1), (.ref b1)])) rfl (by rw [hml]; rfl) (argsL := [(.ref b1)]) (rest := []) (lenOf pd_7 rfl) rfl (W := 0) (by show 2 * 0 + _ ≤ _; exact Nat.le_of_eq rfl) (hb hby at_157) (by decide) (by decide) (by decide) (by decide)
      obtain ⟨rfl, N8q, hh8⟩ := hQ8
      have N8 := Fr.app N4 N8q
      rw [hh8] at e8
      refine own_st st8 ?_
      show Fin1 p e below s (rm0Q Z i0 i1 i2 h0 n0) room_1.cells room_1.slots (T8.setTop (mkF m 160 #[.val (.int i0), .val (.int i1), .val (.int i2), .val (.int k3), .val (.int k4), .val (.int k5), .val (.int k6), .val (.ref b1), .val (.ref b3), .val (.int k9), .val (.ref b1), .val (.int (1 : Int32))] [(.int (1 : Int32))]))
      refine own_st (fun wt wk => XS.iload X8.here hx rfl (hb hby at_160) rfl wk) ?_
      show Fin1 p e below s (rm0Q Z i0 i1 i2 h0 n0) room_1.cells room_1.slots (T8.setTop (mkF m 162 #[.val (.int i0), .val (.int i1), .val (.int i2), .val (.int k3), .val (.int k4), .val (.int k5), .val (.int k6), .val (.ref b1), .val (.ref b3), .val (.int k9), .val (.ref b1), .val (.int (1 : Int32))] [(.int (1 : Int32)), (.int (1 : Int32))]))
      refine own_st (fun wt wk => XS.icmpNo X8.here hx rfl (hb hby at_162) rfl (teq (by decide)).2 wk) ?_
      show Fin1 p e below s (rm0Q Z i0 i1 i2 h0 n0) room_1.cells room_1.slots (T8.setTop (mkF m 165 #[.val (.int i0), .val (.int i1), .val (.int i2), .val (.int k3), .val (.int k4), .val (.int k5), .val (.int k6), .val (.ref b1), .val (.ref b3), .val (.int k9), .val (.ref b1), .val (.int (1 : Int32))] []))
      refine own_st (fun wt wk => XS.iconst X8.here hx rfl (hb hby at_165) wk) ?_
      show Fin1 p e below s (rm0Q Z i0 i1 i2 h0 n0) room_1.cells room_1.slots (T8.setTop (mkF m 166 #[.val (.int i0), .val (.int i1), .val (.int i2), .val (.int k3), .val (.int k4), .val (.int k5), .val (.int k6), .val (.ref b1), .val (.ref b3), .val (.int k9), .val (.ref b1), .val (.int (1 : Int32))] [(.int (1 : Int32))]))
      refine own_st (fun wt wk => XS.goto X8.here hx rfl (pc0 := 166) (pc' := 170) rfl (hb hby at_166) (by decide) (by decide) wk) ?_
      show Fin1 p e below s (rm0Q Z i0 i1 i2 h0 n0) room_1.cells room_1.slots (T8.setTop (mkF m 170 #[.val (.int i0), .val (.int i1), .val (.int i2), .val (.int k3), .val (.int k4), .val (.int k5), .val (.int k6), .val (.ref b1), .val (.ref b3), .val (.int k9), .val (.ref b1), .val (.int (1 : Int32))] [(.int (1 : Int32))]))
      exact own_retZ X8 hx hlk hret (hb hby at_170) (z := (1 : Int32)) (by decide) (by rw [e8]; exact ⟨rfl, N8⟩) (by decide) (by decide)
    · refine own_st (fun wt wk => XS.icmpYes X4.here hx rfl (pc0 := 116) (pc' := 129) rfl (hb hby at_116) rfl (feq c116).2 (by decide) (by decide) wk) ?_
      show Fin1 p e below s (rm0Q Z i0 i1 i2 h0 n0) room_1.cells room_1.slots (T4.setTop (mkF m 129 #[.val (.int i0), .val (.int i1), .val (.int i2), .val (.int k3), .val (.int k4), .val (.int k5), .val (.int k6), .val (.ref b1), .val (.ref b3), .val (.int k9), .unset, .unset] []))
      refine own_st (fun wt wk => XS.iload X4.here hx rfl (hb hby at_129) rfl wk) ?_
      show Fin1 p e below s (rm0Q Z i0 i1 i2 h0 n0) room_1.cells room_1.slots (T4.setTop (mkF m 131 #[.val (.int i0), .val (.int i1), .val (.int i2), .val (.int k3), .val (.int k4), .val (.int k5), .val (.int k6), .val (.ref b1), .val (.ref b3), .val (.int k9), .unset, .unset] [(.int k9)]))
      refine own_st (fun wt wk => XS.iconst X4.here hx rfl (hb hby at_131) wk) ?_
      show Fin1 p e below s (rm0Q Z i0 i1 i2 h0 n0) room_1.cells room_1.slots (T4.setTop (mkF m 132 #[.val (.int i0), .val (.int i1), .val (.int i2), .val (.int k3), .val (.int k4), .val (.int k5), .val (.int k6), .val (.ref b1), .val (.ref b3), .val (.int k9), .unset, .unset] [(.int (2 : Int32)), (.int k9)]))
      by_cases c132 : k9 = (2 : Int32)
      · refine own_st (fun wt wk => XS.icmpNo X4.here hx rfl (hb hby at_132) rfl (teq c132).2 wk) ?_
        show Fin1 p e below s (rm0Q Z i0 i1 i2 h0 n0) room_1.cells room_1.slots (T4.setTop (mkF m 135 #[.val (.int i0), .val (.int i1), .val (.int i2), .val (.int k3), .val (.int k4), .val (.int k5), .val (.int k6), .val (.ref b1), .val (.ref b3), .val (.int k9), .unset, .unset] []))
        refine own_st (fun wt wk => XS.aconstNull X4.here hx rfl (hb hby at_135) wk) ?_
        show Fin1 p e below s (rm0Q Z i0 i1 i2 h0 n0) room_1.cells room_1.slots (T4.setTop (mkF m 136 #[.val (.int i0), .val (.int i1), .val (.int i2), .val (.int k3), .val (.int k4), .val (.int k5), .val (.int k6), .val (.ref b1), .val (.ref b3), .val (.int k9), .unset, .unset] [.null]))
        refine own_st (fun wt wk => XS.astore X4.here hx rfl (hb hby at_136) rfl rfl (l' := #[.val (.int i0), .val (.int i1), .val (.int i2), .val (.int k3), .val (.int k4), .val (.int k5), .val (.int k6), .val (.ref b1), .val (.ref b3), .val (.int k9), .val .null, .unset]) rfl wk) ?_
        show Fin1 p e below s (rm0Q Z i0 i1 i2 h0 n0) room_1.cells room_1.slots (T4.setTop (mkF m 138 #[.val (.int i0), .val (.int i1), .val (.int i2), .val (.int k3), .val (.int k4), .val (.int k5), .val (.int k6), .val (.ref b1), .val (.ref b3), .val (.int k9), .val .null, .unset] []))
        refine own_st (fun wt wk => XS.iconst X4.here hx rfl (hb hby at_138) wk) ?_
        show Fin1 p e below s (rm0Q Z i0 i1 i2 h0 n0) room_1.cells room_1.slots (T4.setTop (mkF m 139 #[.val (.int i0), .val (.int i1), .val (.int i2), .val (.int k3), .val (.int k4), .val (.int k5), .val (.int k6), .val (.ref b1), .val (.ref b3), .val (.int k9), .val .null, .unset] [(.int (0 : Int32))]))
        refine own_st (fun wt wk => XS.istore X4.here hx rfl (hb hby at_139) rfl (l' := #[.val (.int i0), .val (.int i1), .val (.int i2), .val (.int k3), .val (.int k4), .val (.int k5), .val (.int k6), .val (.ref b1), .val (.ref b3), .val (.int k9), .val .null, .val (.int (0 : Int32))]) rfl wk) ?_
        show Fin1 p e below s (rm0Q Z i0 i1 i2 h0 n0) room_1.cells room_1.slots (T4.setTop (mkF m 141 #[.val (.int i0), .val (.int i1), .val (.int i2), .val (.int k3), .val (.int k4), .val (.int k5), .val (.int k6), .val (.ref b1), .val (.ref b3), .val (.int k9), .val .null, .val (.int (0 : Int32))] []))
        refine own_st (fun wt wk => XS.goto X4.here hx rfl (pc0 := 141) (pc' := 153) rfl (hb hby at_141) (by decide) (by decide) wk) ?_
        show Fin1 p e below s (rm0Q Z i0 i1 i2 h0 n0) room_1.cells room_1.slots (T4.setTop (mkF m 153 #[.val (.int i0), .val (.int i1), .val (.int i2), .val (.int k3), .val (.int k4), .val (.int k5), .val (.int k6), .val (.ref b1), .val (.ref b3), .val (.int k9), .val .null, .val (.int (0 : Int32))] []))
        refine own_st (fun wt wk => XS.aload X4.here hx rfl (hb hby at_153) rfl rfl wk) ?_
        show Fin1 p e below s (rm0Q Z i0 i1 i2 h0 n0) room_1.cells room_1.slots (T4.setTop (mkF m 155 #[.val (.int i0), .val (.int i1), .val (.int i2), .val (.int k3), .val (.int k4), .val (.int k5), .val (.int k6), .val (.ref b1), .val (.ref b3), .val (.int k9), .val .null, .val (.int (0 : Int32))] [(.ref b1)]))
        refine own_st (fun wt wk => XS.aload X4.here hx rfl (hb hby at_155) rfl rfl wk) ?_
        show Fin1 p e below s (rm0Q Z i0 i1 i2 h0 n0) room_1.cells room_1.slots (T4.setTop (mkF m 157 #[.val (.int i0), .val (.int i1), .val (.int i2), .val (.int k3), .val (.int k4), .val (.int k5), .val (.int k6), .val (.ref b1), .val (.ref b3), .val (.int k9), .val .null, .val (.int (0 : Int32))] [.null, (.ref b1)]))
        obtain ⟨v9, T9, h9, L9, X9, e9, hQ9, st9⟩ := own_virtual X4 hx hZ hown (hw _ (List.mem_of_getElem? (i := 13) rfl)) (hw _ (List.mem_of_getElem? (i := 14) rfl)) (hw _ (List.mem_of_getElem? (i := 16) rfl)) (hw _ (List.mem_of_getElem? (i := 15) rfl)) (hw _ (List.mem_of_getElem? (i := 17) rfl)) (hw _ (List.mem_of_getElem? (i := 2) rfl)) (by decide) (a := b1) E_b1 (rmN l Z a0 hw b1 h4 n0 Z0) e4 (g := (mkF m 157 #[.val (.int i0), .val (.int i1), .val (.int i2), .val (.int k3), .val (.int k4), .val (.int k5), .val (.int k6), .val (.ref b1), .val (.ref b3), .val (.int k9), .val .null, .val (.int (0 : Int32))] [.null, (.ref b1)])) rfl (by rw [hml]; rfl) (argsL := [.null]) (rest := []) (lenOf pd_7 rfl) rfl (W := 0) (by show 2 * 0 + _ ≤ _; exact Nat.le_of_eq rfl) (hb hby at_157) (by decide) (by decide) (by decide) (by decide)
        obtain ⟨rfl, N9q, hh9⟩ := hQ9
        have N9 := Fr.app N4 N9q
        rw [hh9] at e9
        refine own_st st9 ?_
        show Fin1 p e below s (rm0Q Z i0 i1 i2 h0 n0) room_1.cells room_1.slots (T9.setTop (mkF m 160 #[.val (.int i0), .val (.int i1), .val (.int i2), .val (.int k3), .val (.int k4), .val (.int k5), .val (.int k6), .val (.ref b1), .val (.ref b3), .val (.int k9), .val .null, .val (.int (0 : Int32))] [(.int (0 : Int32))]))
        refine own_st (fun wt wk => XS.iload X9.here hx rfl (hb hby at_160) rfl wk) ?_
        show Fin1 p e below s (rm0Q Z i0 i1 i2 h0 n0) room_1.cells room_1.slots (T9.setTop (mkF m 162 #[.val (.int i0), .val (.int i1), .val (.int i2), .val (.int k3), .val (.int k4), .val (.int k5), .val (.int k6), .val (.ref b1), .val (.ref b3), .val (.int k9), .val .null, .val (.int (0 : Int32))] [(.int (0 : Int32)), (.int (0 : Int32))]))
        refine own_st (fun wt wk => XS.icmpNo X9.here hx rfl (hb hby at_162) rfl (teq (by decide)).2 wk) ?_
        show Fin1 p e below s (rm0Q Z i0 i1 i2 h0 n0) room_1.cells room_1.slots (T9.setTop (mkF m 165 #[.val (.int i0), .val (.int i1), .val (.int i2), .val (.int k3), .val (.int k4), .val (.int k5), .val (.int k6), .val (.ref b1), .val (.ref b3), .val (.int k9), .val .null, .val (.int (0 : Int32))] []))
        refine own_st (fun wt wk => XS.iconst X9.here hx rfl (hb hby at_165) wk) ?_
        show Fin1 p e below s (rm0Q Z i0 i1 i2 h0 n0) room_1.cells room_1.slots (T9.setTop (mkF m 166 #[.val (.int i0), .val (.int i1), .val (.int i2), .val (.int k3), .val (.int k4), .val (.int k5), .val (.int k6), .val (.ref b1), .val (.ref b3), .val (.int k9), .val .null, .val (.int (0 : Int32))] [(.int (1 : Int32))]))
        refine own_st (fun wt wk => XS.goto X9.here hx rfl (pc0 := 166) (pc' := 170) rfl (hb hby at_166) (by decide) (by decide) wk) ?_
        show Fin1 p e below s (rm0Q Z i0 i1 i2 h0 n0) room_1.cells room_1.slots (T9.setTop (mkF m 170 #[.val (.int i0), .val (.int i1), .val (.int i2), .val (.int k3), .val (.int k4), .val (.int k5), .val (.int k6), .val (.ref b1), .val (.ref b3), .val (.int k9), .val .null, .val (.int (0 : Int32))] [(.int (1 : Int32))]))
        exact own_retZ X9 hx hlk hret (hb hby at_170) (z := (1 : Int32)) (by decide) (by rw [e9]; exact ⟨rfl, N9⟩) (by decide) (by decide)
      · refine own_st (fun wt wk => XS.icmpYes X4.here hx rfl (pc0 := 132) (pc' := 144) rfl (hb hby at_132) rfl (feq c132).2 (by decide) (by decide) wk) ?_
        show Fin1 p e below s (rm0Q Z i0 i1 i2 h0 n0) room_1.cells room_1.slots (T4.setTop (mkF m 144 #[.val (.int i0), .val (.int i1), .val (.int i2), .val (.int k3), .val (.int k4), .val (.int k5), .val (.int k6), .val (.ref b1), .val (.ref b3), .val (.int k9), .unset, .unset] []))
        refine own_st (fun wt wk => XS.iloadN X4.here hx rfl (hb hby at_144) rfl wk) ?_
        show Fin1 p e below s (rm0Q Z i0 i1 i2 h0 n0) room_1.cells room_1.slots (T4.setTop (mkF m 145 #[.val (.int i0), .val (.int i1), .val (.int i2), .val (.int k3), .val (.int k4), .val (.int k5), .val (.int k6), .val (.ref b1), .val (.ref b3), .val (.int k9), .unset, .unset] [(.int i2)]))
        obtain ⟨v10, T10, h10, L10, X10, e10, hQ10, st10⟩ := own_static X4 hx hZ hown (hw _ (List.mem_of_getElem? (i := 18) rfl)) (hw _ (List.mem_of_getElem? (i := 19) rfl)) (hw _ (List.mem_of_getElem? (i := 20) rfl)) (hw _ (List.mem_of_getElem? (i := 21) rfl)) (by decide) (rmV l Z a0 hw i2 h4 n0 Z0 O hic) e4 (g := (mkF m 145 #[.val (.int i0), .val (.int i1), .val (.int i2), .val (.int k3), .val (.int k4), .val (.int k5), .val (.int k6), .val (.ref b1), .val (.ref b3), .val (.int k9), .unset, .unset] [(.int i2)])) rfl (by rw [hml]; rfl) (argsL := [(.int i2)]) (rest := []) (lenOf pd_8 rfl) rfl (W := 0) (by show 2 * 0 + _ ≤ _; exact Nat.le_of_eq rfl) (hb hby at_145) (by decide) (by decide) (by decide) (by decide)
        obtain ⟨rv, rfl, N10q, K10, E_rv, F_rv⟩ := hQ10
        have N10 := Fr.app N4 N10q
        have Z0 := Nat.le_trans Z0 K10.1
        have O := O.keep K10 all0
        have E_b1 := E_b1.keep K10
        have P2 := P2.keep K10 nin0
        have R2 := R2.keep K10 nin0
        have E_b3 := E_b3.keep K10
        have P4 := P4.keep K10 nin0
        have R4 := R4.keep K10 nin0
        refine own_st st10 ?_
        show Fin1 p e below s (rm0Q Z i0 i1 i2 h0 n0) room_1.cells room_1.slots (T10.setTop (mkF m 148 #[.val (.int i0), .val (.int i1), .val (.int i2), .val (.int k3), .val (.int k4), .val (.int k5), .val (.int k6), .val (.ref b1), .val (.ref b3), .val (.int k9), .unset, .unset] [(.ref rv)]))
        refine own_st (fun wt wk => XS.astore X10.here hx rfl (hb hby at_148) rfl rfl (l' := #[.val (.int i0), .val (.int i1), .val (.int i2), .val (.int k3), .val (.int k4), .val (.int k5), .val (.int k6), .val (.ref b1), .val (.ref b3), .val (.int k9), .val (.ref rv), .unset]) rfl wk) ?_
        show Fin1 p e below s (rm0Q Z i0 i1 i2 h0 n0) room_1.cells room_1.slots (T10.setTop (mkF m 150 #[.val (.int i0), .val (.int i1), .val (.int i2), .val (.int k3), .val (.int k4), .val (.int k5), .val (.int k6), .val (.ref b1), .val (.ref b3), .val (.int k9), .val (.ref rv), .unset] []))
        refine own_st (fun wt wk => XS.iconst X10.here hx rfl (hb hby at_150) wk) ?_
        show Fin1 p e below s (rm0Q Z i0 i1 i2 h0 n0) room_1.cells room_1.slots (T10.setTop (mkF m 151 #[.val (.int i0), .val (.int i1), .val (.int i2), .val (.int k3), .val (.int k4), .val (.int k5), .val (.int k6), .val (.ref b1), .val (.ref b3), .val (.int k9), .val (.ref rv), .unset] [(.int (0 : Int32))]))
        refine own_st (fun wt wk => XS.istore X10.here hx rfl (hb hby at_151) rfl (l' := #[.val (.int i0), .val (.int i1), .val (.int i2), .val (.int k3), .val (.int k4), .val (.int k5), .val (.int k6), .val (.ref b1), .val (.ref b3), .val (.int k9), .val (.ref rv), .val (.int (0 : Int32))]) rfl wk) ?_
        show Fin1 p e below s (rm0Q Z i0 i1 i2 h0 n0) room_1.cells room_1.slots (T10.setTop (mkF m 153 #[.val (.int i0), .val (.int i1), .val (.int i2), .val (.int k3), .val (.int k4), .val (.int k5), .val (.int k6), .val (.ref b1), .val (.ref b3), .val (.int k9), .val (.ref rv), .val (.int (0 : Int32))] []))
        refine own_st (fun wt wk => XS.aload X10.here hx rfl (hb hby at_153) rfl rfl wk) ?_
        show Fin1 p e below s (rm0Q Z i0 i1 i2 h0 n0) room_1.cells room_1.slots (T10.setTop (mkF m 155 #[.val (.int i0), .val (.int i1), .val (.int i2), .val (.int k3), .val (.int k4), .val (.int k5), .val (.int k6), .val (.ref b1), .val (.ref b3), .val (.int k9), .val (.ref rv), .val (.int (0 : Int32))] [(.ref b1)]))
        refine own_st (fun wt wk => XS.aload X10.here hx rfl (hb hby at_155) rfl rfl wk) ?_
        show Fin1 p e below s (rm0Q Z i0 i1 i2 h0 n0) room_1.cells room_1.slots (T10.setTop (mkF m 157 #[.val (.int i0), .val (.int i1), .val (.int i2), .val (.int k3), .val (.int k4), .val (.int k5), .val (.int k6), .val (.ref b1), .val (.ref b3), .val (.int k9), .val (.ref rv), .val (.int (0 : Int32))] [(.ref rv), (.ref b1)]))
        obtain ⟨v11, T11, h11, L11, X11, e11, hQ11, st11⟩ := own_virtual X10 hx hZ hown (hw _ (List.mem_of_getElem? (i := 13) rfl)) (hw _ (List.mem_of_getElem? (i := 14) rfl)) (hw _ (List.mem_of_getElem? (i := 16) rfl)) (hw _ (List.mem_of_getElem? (i := 15) rfl)) (hw _ (List.mem_of_getElem? (i := 17) rfl)) (hw _ (List.mem_of_getElem? (i := 2) rfl)) (by decide) (a := b1) E_b1 (rmI l Z a0 hw b1 rv h10 n0 Z0 E_rv) e10 (g := (mkF m 157 #[.val (.int i0), .val (.int i1), .val (.int i2), .val (.int k3), .val (.int k4), .val (.int k5), .val (.int k6), .val (.ref b1), .val (.ref b3), .val (.int k9), .val (.ref rv), .val (.int (0 : Int32))] [(.ref rv), (.ref b1)])) rfl (by rw [hml]; rfl) (argsL := [(.ref rv)]) (rest := []) (lenOf pd_7 rfl) rfl (W := 0) (by show 2 * 0 + _ ≤ _; exact Nat.le_of_eq rfl) (hb hby at_157) (by decide) (by decide) (by decide) (by decide)
        obtain ⟨rfl, N11q, hh11⟩ := hQ11
        have N11 := Fr.app N10 N11q
        rw [hh11] at e11
        refine own_st st11 ?_
        show Fin1 p e below s (rm0Q Z i0 i1 i2 h0 n0) room_1.cells room_1.slots (T11.setTop (mkF m 160 #[.val (.int i0), .val (.int i1), .val (.int i2), .val (.int k3), .val (.int k4), .val (.int k5), .val (.int k6), .val (.ref b1), .val (.ref b3), .val (.int k9), .val (.ref rv), .val (.int (0 : Int32))] [(.int (0 : Int32))]))
        refine own_st (fun wt wk => XS.iload X11.here hx rfl (hb hby at_160) rfl wk) ?_
        show Fin1 p e below s (rm0Q Z i0 i1 i2 h0 n0) room_1.cells room_1.slots (T11.setTop (mkF m 162 #[.val (.int i0), .val (.int i1), .val (.int i2), .val (.int k3), .val (.int k4), .val (.int k5), .val (.int k6), .val (.ref b1), .val (.ref b3), .val (.int k9), .val (.ref rv), .val (.int (0 : Int32))] [(.int (0 : Int32)), (.int (0 : Int32))]))
        refine own_st (fun wt wk => XS.icmpNo X11.here hx rfl (hb hby at_162) rfl (teq (by decide)).2 wk) ?_
        show Fin1 p e below s (rm0Q Z i0 i1 i2 h0 n0) room_1.cells room_1.slots (T11.setTop (mkF m 165 #[.val (.int i0), .val (.int i1), .val (.int i2), .val (.int k3), .val (.int k4), .val (.int k5), .val (.int k6), .val (.ref b1), .val (.ref b3), .val (.int k9), .val (.ref rv), .val (.int (0 : Int32))] []))
        refine own_st (fun wt wk => XS.iconst X11.here hx rfl (hb hby at_165) wk) ?_
        show Fin1 p e below s (rm0Q Z i0 i1 i2 h0 n0) room_1.cells room_1.slots (T11.setTop (mkF m 166 #[.val (.int i0), .val (.int i1), .val (.int i2), .val (.int k3), .val (.int k4), .val (.int k5), .val (.int k6), .val (.ref b1), .val (.ref b3), .val (.int k9), .val (.ref rv), .val (.int (0 : Int32))] [(.int (1 : Int32))]))
        refine own_st (fun wt wk => XS.goto X11.here hx rfl (pc0 := 166) (pc' := 170) rfl (hb hby at_166) (by decide) (by decide) wk) ?_
        show Fin1 p e below s (rm0Q Z i0 i1 i2 h0 n0) room_1.cells room_1.slots (T11.setTop (mkF m 170 #[.val (.int i0), .val (.int i1), .val (.int i2), .val (.int k3), .val (.int k4), .val (.int k5), .val (.int k6), .val (.ref b1), .val (.ref b3), .val (.int k9), .val (.ref rv), .val (.int (0 : Int32))] [(.int (1 : Int32))]))
        exact own_retZ X11 hx hlk hret (hb hby at_170) (z := (1 : Int32)) (by decide) (by rw [e11]; exact ⟨rfl, N11⟩) (by decide) (by decide)
set_option maxRecDepth 65536 in
set_option maxHeartbeats 40000000 in
theorem comes_1 {Post : Tables → Env → Array Value → State → Outcome → State → Prop} (hpost : ∀ tb e args s v u, (limb_1_1.after args s (.returned v) u = true ∧ limb_1_2.after args s (.returned v) u = true ∧ True) → FrameEnd s (.returned v) u (Jvm.fieldLocs frame_1_writes args s ++ Jvm.arrayLocs frame_1_arrays args s ++ Jvm.staticLocs frame_1_statics s) 16 128 → Post tb e args s (.returned v) u) :
    ArmFor flags0 classFile x code maxLocals ret World_1 tables_1 room_1 Calls_1 rest_1 Pre_1 Post := by
  intro l hfl _ _ p e ha hc hk s m args below hf hA hF happ hP
  obtain ⟨hcalls, hrest, hpre⟩ := hP
  obtain ⟨-, -, -, hnamed, -, -, -, hat⟩ := (Spec.applies_iff hf).mp happ
  obtain ⟨hg, hn⟩ := and_e (Cond.before_iff.mp (show (Jvm.Cond.and given_1 narrow_1).before args s = true from hpre))
  obtain ⟨hcnt, hg1⟩ := and_e hg
  obtain ⟨hv0, hg2⟩ := and_e hg1
  obtain ⟨hv1, hg3⟩ := and_e hg2
  have hv2 := hg3
  obtain ⟨w0, w1, w2, rfl⟩ : ∃ w0 w1 w2 : Value, args = #[w0, w1, w2] := by
    have hs : args.size = 3 := by simpa [Cond.value, given_1] using hcnt
    obtain ⟨L⟩ := args
    match L, hs with
    | [w0, w1, w2], _ => exact ⟨w0, w1, w2, rfl⟩
  have hw := fun d (hd : d ∈ tables_1) => atoms_spec (ws := Jvm.Cond.code x code maxLocals ret :: tables_1) hat d (List.mem_cons_of_mem _ hd)
  have hfit : Fit s := fun {y c} hc i hi => by
    obtain ⟨ha, rfl⟩ := Array.getElem?_eq_some_iff.mp hc
    have q := List.all_eq_true.mp ((Array.all_eq_true_iff_forall_mem.mp hF) _ (Array.getElem_mem ha)) i (List.mem_range.mpr hi)
    simpa [Array.getElem?_eq_getElem hi] using q
  obtain ⟨i0, ei0⟩ := is_v hv0
  obtain rfl : w0 = (.int i0) := Option.some.inj ei0
  obtain ⟨i1, ei1⟩ := is_v hv1
  obtain rfl : w1 = (.int i1) := Option.some.inj ei1
  obtain ⟨i2, ei2⟩ := is_v hv2
  obtain rfl : w2 = (.int i2) := Option.some.inj ei2
  obtain ⟨hsets, hown0⟩ := atoms_of _ (rest_1_c_eq ▸ (show rest_1_c.before _ s = true from hrest))
  obtain ⟨n, o, h1, h2, h3, _, L, rfl, ⟨rfl, N⟩, hq⟩ := rm0 l s _ hw i0 i1 i2 s.heap s.heap.size (Nat.le_refl _) (Old.start s) (own_ic hw hsets) p e ha hc hk s m _ below hf ((Spec.applies_iff_loose hf).mp happ).1 ⟨rfl, State.Warmed39.refl s, rfl⟩ trivial
  refine ⟨n, _, h1, h2, h3, hpost _ _ _ _ _ _ ⟨Cond.after_iff.mpr rfl, Cond.after_iff.mpr (eq_i res_at (Term.int_eval (1)) rfl), trivial⟩ ⟨hq.1, hq.2.1, (hq.2.2.sift fun y hy => Or.inr (N y hy)).mono (by decide) (by decide)⟩⟩
theorem main_1_1 : Claimed_1_1 := comes_1 fun _ _ _ _ _ _ h hF => ⟨h.1, hF⟩
theorem main_1_2 : Claimed_1_2 := comes_1 fun _ _ _ _ _ _ h hF => ⟨h.2.1, hF⟩
end Jvm.Pilot.@@N@@
namespace Jvm.Pilot.@@N@@
open Jvm Jvm.ClassFile Sem Op Lib Jvm.Free Jvm.Stand Jvm.Pilot.@@N@@.Jvm.D
/-! MADE BY PROGRAM (witnessworld.py) out of the Statement's table words and the real class files: 16 classes; the members and pool entries that the words name. The judged class is class 1, her method 1. -/
namespace start1
open Jvm.ClassFile
def u (s : String) : CpInfo := .utf8 (stringToUtf16 s)
/-- a pool by its gaps: so many unusable entries, then the entry; so many at the end -/
def gap : Nat → List CpInfo → List CpInfo
  | 0, r => r
  | n + 1, r => .unusable :: gap n r
def poolList (es : List (Nat × CpInfo)) (last : Nat) : List CpInfo := es.foldr (fun e r => gap e.1 (e.2 :: r)) (gap last [])
def pool (es : List (Nat × CpInfo)) (last : Nat) : Array CpInfo := ⟨poolList es last⟩
def fileOf (pool : Array CpInfo) (this : Nat) (attrs : Array Attribute := #[]) (ms : Array MethodInfo := #[]) (fl : Nat := 33) (sup : Nat := 0) (ifs : Array Nat := #[]) (fds : Array FieldInfo := #[]) : ClassFile where
  minorVersion := 0
  majorVersion := 65
  constantPool := pool
  accessFlags := fl
  thisClass := this
  superClass := sup
  interfaces := ifs
  fields := fds
  methods := ms
  attributes := attrs
def plain (name : String) (sup : Option ClassId) : Class where
  name := name
  kind := .ordinary
  loader := none
  accessFlags := 33
  super := sup
  interfaces := #[]
  cf := none
  fields := #[]
  methods := #[]
  instanceTypes := #[]
  staticTypes := #[]
  resolved := #[]
  callSites := []
  init := .initialized
  statics := none
  mirror := none

def pool0 : Array CpInfo := pool [(5, u "<init>"), (0, u "()V"), (1, .class_ 10), (1, u "java/lang/Object")] 113

def k0c0 : Code := { maxStack := 0, maxLocals := 1, code := object_method_1_code, exceptionTable := #[], attributes := #[] }
def k0m0 : Method := { name := "<init>", desc := "()V", sig := { parameters := [], returnType := none }, accessFlags := 1, code := some k0c0 }
/-- java/lang/Object -/
def k0 : Class := { plain "java/lang/Object" none with
  accessFlags := 33
  interfaces := #[]
  cf := some (fileOf pool0 8 #[] #[{ accessFlags := 1, nameIndex := 5, descriptorIndex := 6, attributes := #[] }] 33 0 #[] #[])
  fields := #[]
  methods := #[k0m0]
  instanceTypes := #[]
  staticTypes := #[]
  resolved := Array.replicate 124 none
  statics := none }

def pool1 : Array CpInfo := pool [(2, .class_ 4), (1, u "java/lang/Object"), (0, u "<init>"), (0, u "()V"), (0, .class_ 8), (0, u "com/example/electd/electd/model/Mode"), (0, .methodref 7 10), (0, .nameAndType 5 11), (0, u "(ZZ)V"), (0, .methodref 13 14), (0, .class_ 15), (0, .nameAndType 16 17), (0, u "java/lang/Integer"), (0, u "valueOf"), (0, u "(I)Ljava/lang/Integer;"), (0, .methodref 7 19), (0, .nameAndType 20 21), (0, u "equals"), (0, u "(Ljava/lang/Object;)Z"), (0, .class_ 23), (0, u "com/example/electd/electd/model/ModeEqualsPinLaw"), (2, u "law"), (0, u "(III)Z")] 3

def k1m0 : Method := { name := "<init>", desc := "()V", sig := { parameters := [], returnType := none }, accessFlags := 1, code := none }
def k1c1 : Code := { maxStack := 4, maxLocals := 12, code := code, exceptionTable := #[], attributes := #[] }
def k1m1 : Method := { name := "law", desc := "(III)Z", sig := { parameters := [.int, .int, .int], returnType := some .boolean }, accessFlags := 9, code := some k1c1 }
/-- com/example/electd/electd/model/ModeEqualsPinLaw -/
def k1 : Class := { plain "com/example/electd/electd/model/ModeEqualsPinLaw" (some 0) with
  accessFlags := 49
  interfaces := #[]
  cf := some (fileOf pool1 22 #[] #[{ accessFlags := 1, nameIndex := 5, descriptorIndex := 6, attributes := #[] }, { accessFlags := 9, nameIndex := 26, descriptorIndex := 27, attributes := #[] }] 49 2 #[] #[])
  fields := #[]
  methods := #[k1m0, k1m1]
  instanceTypes := #[]
  staticTypes := #[]
  resolved := Array.replicate 31 none
  statics := none }

def pool2 : Array CpInfo := pool [(1, .methodref 2 3), (0, .class_ 4), (0, .nameAndType 5 6), (0, u "java/lang/Object"), (0, u "<init>"), (0, u "()V"), (0, .fieldref 8 9), (0, .class_ 10), (0, .nameAndType 11 12), (0, u "com/example/electd/electd/model/Mode"), (0, u "sticky"), (0, u "Z"), (0, .fieldref 8 14), (0, .nameAndType 15 12), (0, u "majority"), (18, u "(ZZ)V"), (2, u "DEFAULT"), (0, u "Lcom/example/electd/electd/model/Mode;"), (5, u "equals"), (0, u "(Ljava/lang/Object;)Z")] 24

def k2c0 : Code := { maxStack := 2, maxLocals := 3, code := prog_17_method_1_code, exceptionTable := #[], attributes := #[] }
def k2m0 : Method := { name := "<init>", desc := "(ZZ)V", sig := { parameters := [.boolean, .boolean], returnType := none }, accessFlags := 1, code := some k2c0 }
def k2c1 : Code := { maxStack := 2, maxLocals := 3, code := prog_17_method_4_code, exceptionTable := #[], attributes := #[] }
def k2m1 : Method := { name := "equals", desc := "(Ljava/lang/Object;)Z", sig := { parameters := [(.object "java/lang/Object")], returnType := some .boolean }, accessFlags := 1, code := some k2c1 }
/-- com/example/electd/electd/model/Mode -/
def k2 : Class := { plain "com/example/electd/electd/model/Mode" (some 0) with
  accessFlags := 49
  interfaces := #[]
  cf := some (fileOf pool2 8 #[] #[{ accessFlags := 1, nameIndex := 5, descriptorIndex := 34, attributes := #[] }, { accessFlags := 1, nameIndex := 44, descriptorIndex := 45, attributes := #[] }] 49 2 #[] #[{ accessFlags := 25, nameIndex := 37, descriptorIndex := 38, attributes := #[] }, { accessFlags := 18, nameIndex := 11, descriptorIndex := 12, attributes := #[] }, { accessFlags := 18, nameIndex := 15, descriptorIndex := 12, attributes := #[] }])
  fields := #[{ name := "DEFAULT", type := (.object "com/example/electd/electd/model/Mode"), accessFlags := 25, slot := 0, constantValue := 0 }, { name := "sticky", type := .boolean, accessFlags := 18, slot := 0, constantValue := 0 }, { name := "majority", type := .boolean, accessFlags := 18, slot := 1, constantValue := 0 }]
  methods := #[k2m0, k2m1]
  instanceTypes := #[.boolean, .boolean]
  staticTypes := #[(.object "com/example/electd/electd/model/Mode")]
  resolved := Array.replicate 70 none
  statics := none }

def pool3 : Array CpInfo := pool [(1, .class_ 2), (0, u "java/io/Serializable"), (0, .class_ 4), (0, u "java/lang/Object")] 2

/-- java/io/Serializable -/
def k3 : Class := { plain "java/io/Serializable" (some 0) with
  accessFlags := 1537
  interfaces := #[]
  cf := some (fileOf pool3 1 #[] #[] 1537 3 #[] #[])
  fields := #[]
  methods := #[]
  instanceTypes := #[]
  staticTypes := #[]
  resolved := Array.replicate 7 none
  statics := none }

def pool4 : Array CpInfo := pool [(1, .methodref 2 3), (0, .class_ 4), (0, .nameAndType 5 6), (0, u "java/lang/Object"), (0, u "<init>"), (0, u "()V"), (1, .class_ 10), (1, u "java/lang/Number"), (2, .class_ 14), (0, u "java/io/Serializable"), (0, u "serialVersionUID"), (0, u "J")] 20

def k4c0 : Code := { maxStack := 1, maxLocals := 1, code := jdk_18_method_1_code, exceptionTable := #[], attributes := #[] }
def k4m0 : Method := { name := "<init>", desc := "()V", sig := { parameters := [], returnType := none }, accessFlags := 1, code := some k4c0 }
/-- java/lang/Number -/
def k4 : Class := { plain "java/lang/Number" (some 0) with
  accessFlags := 1057
  interfaces := #[3]
  cf := some (fileOf pool4 8 #[] #[{ accessFlags := 1, nameIndex := 5, descriptorIndex := 6, attributes := #[] }] 1057 2 #[13] #[{ accessFlags := 26, nameIndex := 15, descriptorIndex := 16, attributes := #[] }])
  fields := #[{ name := "serialVersionUID", type := .long, accessFlags := 26, slot := 0, constantValue := 0 }]
  methods := #[k4m0]
  instanceTypes := #[]
  staticTypes := #[.long]
  resolved := Array.replicate 37 none
  statics := none }

def pool5 : Array CpInfo := pool [(1, .class_ 2), (0, u "java/lang/Comparable"), (0, .class_ 4), (0, u "java/lang/Object")] 7

/-- java/lang/Comparable -/
def k5 : Class := { plain "java/lang/Comparable" (some 0) with
  accessFlags := 1537
  interfaces := #[]
  cf := some (fileOf pool5 1 #[] #[] 1537 3 #[] #[])
  fields := #[]
  methods := #[]
  instanceTypes := #[]
  staticTypes := #[]
  resolved := Array.replicate 12 none
  statics := none }

def pool6 : Array CpInfo := pool [(1, .class_ 2), (0, u "java/lang/constant/Constable"), (0, .class_ 4), (0, u "java/lang/Object")] 6

/-- java/lang/constant/Constable -/
def k6 : Class := { plain "java/lang/constant/Constable" (some 0) with
  accessFlags := 1537
  interfaces := #[]
  cf := some (fileOf pool6 1 #[] #[] 1537 3 #[] #[])
  fields := #[]
  methods := #[]
  instanceTypes := #[]
  staticTypes := #[]
  resolved := Array.replicate 11 none
  statics := none }

def pool7 : Array CpInfo := pool [(1, .class_ 2), (0, u "java/lang/constant/ConstantDesc"), (0, .class_ 4), (0, u "java/lang/Object")] 32

/-- java/lang/constant/ConstantDesc -/
def k7 : Class := { plain "java/lang/constant/ConstantDesc" (some 0) with
  accessFlags := 1537
  interfaces := #[]
  cf := some (fileOf pool7 1 #[] #[] 1537 3 #[] #[])
  fields := #[]
  methods := #[]
  instanceTypes := #[]
  staticTypes := #[]
  resolved := Array.replicate 37 none
  statics := none }

def pool8 : Array CpInfo := pool [(1, .class_ 2), (0, u "java/lang/Integer"), (16, u "digits"), (0, u "[C"), (46, u "<init>"), (17, u "DigitOnes"), (0, u "[B"), (2, u "DigitTens"), (10, .nameAndType 67 101), (0, u "()V"), (85, u "valueOf"), (0, u "(I)Ljava/lang/Integer;"), (0, .class_ 190), (0, u "java/lang/Integer$IntegerCache"), (0, .fieldref 189 192), (0, .nameAndType 193 194), (0, u "high"), (0, u "I"), (0, .fieldref 189 196), (0, .nameAndType 197 198), (0, u "cache"), (0, u "[Ljava/lang/Integer;"), (0, .methodref 1 200), (0, .nameAndType 67 201), (0, u "(I)V"), (0, .methodref 203 100), (0, .class_ 204), (0, u "java/lang/Number"), (0, .fieldref 1 206), (0, .nameAndType 207 194), (0, u "value"), (94, u "TYPE"), (0, u "Ljava/lang/Class;"), (0, .class_ 305), (0, u "java/lang/Comparable"), (0, .class_ 307), (0, u "java/lang/constant/Constable"), (0, .class_ 309), (0, u "java/lang/constant/ConstantDesc"), (0, u "MIN_VALUE"), (1, u "MAX_VALUE"), (3, u "SIZE"), (1, u "BYTES"), (1, u "serialVersionUID"), (0, u "J")] 131

def k8c0 : Code := { maxStack := 3, maxLocals := 1, code := jdk_33_method_22_code, exceptionTable := #[], attributes := #[] }
def k8m0 : Method := { name := "valueOf", desc := "(I)Ljava/lang/Integer;", sig := { parameters := [.int], returnType := some (.object "java/lang/Integer") }, accessFlags := 9, code := some k8c0 }
def k8c1 : Code := { maxStack := 2, maxLocals := 2, code := jdk_33_method_23_code, exceptionTable := #[], attributes := #[] }
def k8m1 : Method := { name := "<init>", desc := "(I)V", sig := { parameters := [.int], returnType := none }, accessFlags := 1, code := some k8c1 }
/-- java/lang/Integer -/
def k8 : Class := { plain "java/lang/Integer" (some 4) with
  accessFlags := 49
  interfaces := #[5, 6, 7]
  cf := some (fileOf pool8 1 #[.nestMembers #[189]] #[{ accessFlags := 9, nameIndex := 187, descriptorIndex := 188, attributes := #[] }, { accessFlags := 1, nameIndex := 67, descriptorIndex := 201, attributes := #[] }] 49 203 #[304, 306, 308] #[{ accessFlags := 25, nameIndex := 310, descriptorIndex := 194, attributes := #[] }, { accessFlags := 25, nameIndex := 312, descriptorIndex := 194, attributes := #[] }, { accessFlags := 25, nameIndex := 302, descriptorIndex := 303, attributes := #[] }, { accessFlags := 24, nameIndex := 19, descriptorIndex := 20, attributes := #[] }, { accessFlags := 24, nameIndex := 89, descriptorIndex := 86, attributes := #[] }, { accessFlags := 24, nameIndex := 85, descriptorIndex := 86, attributes := #[] }, { accessFlags := 18, nameIndex := 207, descriptorIndex := 194, attributes := #[] }, { accessFlags := 25, nameIndex := 316, descriptorIndex := 194, attributes := #[] }, { accessFlags := 25, nameIndex := 318, descriptorIndex := 194, attributes := #[] }, { accessFlags := 26, nameIndex := 320, descriptorIndex := 321, attributes := #[] }])
  fields := #[{ name := "MIN_VALUE", type := .int, accessFlags := 25, slot := 0, constantValue := 0 }, { name := "MAX_VALUE", type := .int, accessFlags := 25, slot := 1, constantValue := 0 }, { name := "TYPE", type := (.object "java/lang/Class"), accessFlags := 25, slot := 2, constantValue := 0 }, { name := "digits", type := (.array .char), accessFlags := 24, slot := 3, constantValue := 0 }, { name := "DigitTens", type := (.array .byte), accessFlags := 24, slot := 4, constantValue := 0 }, { name := "DigitOnes", type := (.array .byte), accessFlags := 24, slot := 5, constantValue := 0 }, { name := "value", type := .int, accessFlags := 18, slot := 0, constantValue := 0 }, { name := "SIZE", type := .int, accessFlags := 25, slot := 6, constantValue := 0 }, { name := "BYTES", type := .int, accessFlags := 25, slot := 7, constantValue := 0 }, { name := "serialVersionUID", type := .long, accessFlags := 26, slot := 8, constantValue := 0 }]
  methods := #[k8m0, k8m1]
  instanceTypes := #[.int]
  staticTypes := #[.int, .int, (.object "java/lang/Class"), (.array .char), (.array .byte), (.array .byte), .int, .int, .long]
  resolved := Array.replicate 453 none
  statics := none }

def pool9 : Array CpInfo := pool [(2, .class_ 4), (1, u "java/lang/Object"), (0, u "<init>"), (0, u "()V"), (0, .class_ 8), (0, u "java/lang/Integer"), (7, .class_ 18), (1, u "java/lang/Integer$IntegerCache"), (0, u "$assertionsDisabled"), (0, u "Z"), (26, u "high"), (0, u "I"), (8, u "archivedCache"), (0, u "[Ljava/lang/Integer;"), (12, u "cache"), (0, u "low")] 27

def k9m0 : Method := { name := "<init>", desc := "()V", sig := { parameters := [], returnType := none }, accessFlags := 2, code := none }
/-- java/lang/Integer$IntegerCache -/
def k9 : Class := { plain "java/lang/Integer$IntegerCache" (some 0) with
  accessFlags := 48
  interfaces := #[]
  cf := some (fileOf pool9 16 #[.nestHost 7] #[{ accessFlags := 2, nameIndex := 5, descriptorIndex := 6, attributes := #[] }] 48 2 #[] #[{ accessFlags := 24, nameIndex := 72, descriptorIndex := 48, attributes := #[] }, { accessFlags := 24, nameIndex := 47, descriptorIndex := 48, attributes := #[] }, { accessFlags := 24, nameIndex := 71, descriptorIndex := 58, attributes := #[] }, { accessFlags := 8, nameIndex := 57, descriptorIndex := 58, attributes := #[] }, { accessFlags := 4120, nameIndex := 19, descriptorIndex := 20, attributes := #[] }])
  fields := #[{ name := "low", type := .int, accessFlags := 24, slot := 0, constantValue := 0 }, { name := "high", type := .int, accessFlags := 24, slot := 1, constantValue := 0 }, { name := "cache", type := (.array (.object "java/lang/Integer")), accessFlags := 24, slot := 2, constantValue := 0 }, { name := "archivedCache", type := (.array (.object "java/lang/Integer")), accessFlags := 8, slot := 3, constantValue := 0 }, { name := "$assertionsDisabled", type := .boolean, accessFlags := 4120, slot := 4, constantValue := 0 }]
  methods := #[k9m0]
  instanceTypes := #[]
  staticTypes := #[.int, .int, (.array (.object "java/lang/Integer")), (.array (.object "java/lang/Integer")), .boolean]
  resolved := Array.replicate 100 none
  statics := some 0 }

def pool10 : Array CpInfo := pool [(1, u "java/lang/Cloneable"), (0, .class_ 1), (0, u "java/lang/Object"), (0, .class_ 3)] 3

/-- java/lang/Cloneable -/
def k10 : Class := { plain "java/lang/Cloneable" (some 0) with
  accessFlags := 1537
  interfaces := #[]
  cf := some (fileOf pool10 2 #[] #[] 1537 4 #[] #[])
  fields := #[]
  methods := #[]
  instanceTypes := #[]
  staticTypes := #[]
  resolved := Array.replicate 8 none
  statics := none }

/-- the primitive byte -/
def k11 : Class := { plain "byte" none with kind := .primitive 'B', accessFlags := 0x411 }
/-- [B -/
def k12 : Class := { plain "[B" (some 0) with kind := .array 11 .byte, interfaces := #[10, 3], accessFlags := 1041 }

/-- the primitive int -/
def k13 : Class := { plain "int" none with kind := .primitive 'I', accessFlags := 0x411 }
/-- [I -/
def k14 : Class := { plain "[I" (some 0) with kind := .array 13 .int, interfaces := #[10, 3], accessFlags := 1041 }

/-- [Ljava/lang/Integer; -/
def k15 : Class := { plain "[Ljava/lang/Integer;" (some 0) with kind := .array 8 (.object "java/lang/Integer"), interfaces := #[10, 3], accessFlags := 1041 }

def heap : Heap := #[{ cls := 9, slots := #[.int 0, .int 127, .ref 1, .null, .int 0], vm := .statics 9 },
  { cls := 15, slots := #[.ref 2, .ref 3, .ref 4, .ref 5, .ref 6, .ref 7, .ref 8, .ref 9, .ref 10, .ref 11, .ref 12, .ref 13, .ref 14, .ref 15, .ref 16, .ref 17, .ref 18, .ref 19, .ref 20, .ref 21, .ref 22, .ref 23, .ref 24, .ref 25, .ref 26, .ref 27, .ref 28, .ref 29, .ref 30, .ref 31, .ref 32, .ref 33, .ref 34, .ref 35, .ref 36, .ref 37, .ref 38, .ref 39, .ref 40, .ref 41, .ref 42, .ref 43, .ref 44, .ref 45, .ref 46, .ref 47, .ref 48, .ref 49, .ref 50, .ref 51, .ref 52, .ref 53, .ref 54, .ref 55, .ref 56, .ref 57, .ref 58, .ref 59, .ref 60, .ref 61, .ref 62, .ref 63, .ref 64, .ref 65, .ref 66, .ref 67, .ref 68, .ref 69, .ref 70, .ref 71, .ref 72, .ref 73, .ref 74, .ref 75, .ref 76, .ref 77, .ref 78, .ref 79, .ref 80, .ref 81, .ref 82, .ref 83, .ref 84, .ref 85, .ref 86, .ref 87, .ref 88, .ref 89, .ref 90, .ref 91, .ref 92, .ref 93, .ref 94, .ref 95, .ref 96, .ref 97, .ref 98, .ref 99, .ref 100, .ref 101, .ref 102, .ref 103, .ref 104, .ref 105, .ref 106, .ref 107, .ref 108, .ref 109, .ref 110, .ref 111, .ref 112, .ref 113, .ref 114, .ref 115, .ref 116, .ref 117, .ref 118, .ref 119, .ref 120, .ref 121, .ref 122, .ref 123, .ref 124, .ref 125, .ref 126, .ref 127, .ref 128, .ref 129, .ref 130, .ref 131, .ref 132, .ref 133, .ref 134, .ref 135, .ref 136, .ref 137, .ref 138, .ref 139, .ref 140, .ref 141, .ref 142, .ref 143, .ref 144, .ref 145, .ref 146, .ref 147, .ref 148, .ref 149, .ref 150, .ref 151, .ref 152, .ref 153, .ref 154, .ref 155, .ref 156, .ref 157, .ref 158, .ref 159, .ref 160, .ref 161, .ref 162, .ref 163, .ref 164, .ref 165, .ref 166, .ref 167, .ref 168, .ref 169, .ref 170, .ref 171, .ref 172, .ref 173, .ref 174, .ref 175, .ref 176, .ref 177, .ref 178, .ref 179, .ref 180, .ref 181, .ref 182, .ref 183, .ref 184, .ref 185, .ref 186, .ref 187, .ref 188, .ref 189, .ref 190, .ref 191, .ref 192, .ref 193, .ref 194, .ref 195, .ref 196, .ref 197, .ref 198, .ref 199, .ref 200, .ref 201, .ref 202, .ref 203, .ref 204, .ref 205, .ref 206, .ref 207, .ref 208, .ref 209, .ref 210, .ref 211, .ref 212, .ref 213, .ref 214, .ref 215, .ref 216, .ref 217, .ref 218, .ref 219, .ref 220, .ref 221, .ref 222, .ref 223, .ref 224, .ref 225, .ref 226, .ref 227, .ref 228, .ref 229, .ref 230, .ref 231, .ref 232, .ref 233, .ref 234, .ref 235, .ref 236, .ref 237, .ref 238, .ref 239, .ref 240, .ref 241, .ref 242, .ref 243, .ref 244, .ref 245, .ref 246, .ref 247, .ref 248, .ref 249, .ref 250, .ref 251, .ref 252, .ref 253, .ref 254, .ref 255, .ref 256, .ref 257], vm := .none },
  { cls := 8, slots := #[.int (-128)], vm := .none },
  { cls := 8, slots := #[.int (-127)], vm := .none },
  { cls := 8, slots := #[.int (-126)], vm := .none },
  { cls := 8, slots := #[.int (-125)], vm := .none },
  { cls := 8, slots := #[.int (-124)], vm := .none },
  { cls := 8, slots := #[.int (-123)], vm := .none },
  { cls := 8, slots := #[.int (-122)], vm := .none },
  { cls := 8, slots := #[.int (-121)], vm := .none },
  { cls := 8, slots := #[.int (-120)], vm := .none },
  { cls := 8, slots := #[.int (-119)], vm := .none },
  { cls := 8, slots := #[.int (-118)], vm := .none },
  { cls := 8, slots := #[.int (-117)], vm := .none },
  { cls := 8, slots := #[.int (-116)], vm := .none },
  { cls := 8, slots := #[.int (-115)], vm := .none },
  { cls := 8, slots := #[.int (-114)], vm := .none },
  { cls := 8, slots := #[.int (-113)], vm := .none },
  { cls := 8, slots := #[.int (-112)], vm := .none },
  { cls := 8, slots := #[.int (-111)], vm := .none },
  { cls := 8, slots := #[.int (-110)], vm := .none },
  { cls := 8, slots := #[.int (-109)], vm := .none },
  { cls := 8, slots := #[.int (-108)], vm := .none },
  { cls := 8, slots := #[.int (-107)], vm := .none },
  { cls := 8, slots := #[.int (-106)], vm := .none },
  { cls := 8, slots := #[.int (-105)], vm := .none },
  { cls := 8, slots := #[.int (-104)], vm := .none },
  { cls := 8, slots := #[.int (-103)], vm := .none },
  { cls := 8, slots := #[.int (-102)], vm := .none },
  { cls := 8, slots := #[.int (-101)], vm := .none },
  { cls := 8, slots := #[.int (-100)], vm := .none },
  { cls := 8, slots := #[.int (-99)], vm := .none },
  { cls := 8, slots := #[.int (-98)], vm := .none },
  { cls := 8, slots := #[.int (-97)], vm := .none },
  { cls := 8, slots := #[.int (-96)], vm := .none },
  { cls := 8, slots := #[.int (-95)], vm := .none },
  { cls := 8, slots := #[.int (-94)], vm := .none },
  { cls := 8, slots := #[.int (-93)], vm := .none },
  { cls := 8, slots := #[.int (-92)], vm := .none },
  { cls := 8, slots := #[.int (-91)], vm := .none },
  { cls := 8, slots := #[.int (-90)], vm := .none },
  { cls := 8, slots := #[.int (-89)], vm := .none },
  { cls := 8, slots := #[.int (-88)], vm := .none },
  { cls := 8, slots := #[.int (-87)], vm := .none },
  { cls := 8, slots := #[.int (-86)], vm := .none },
  { cls := 8, slots := #[.int (-85)], vm := .none },
  { cls := 8, slots := #[.int (-84)], vm := .none },
  { cls := 8, slots := #[.int (-83)], vm := .none },
  { cls := 8, slots := #[.int (-82)], vm := .none },
  { cls := 8, slots := #[.int (-81)], vm := .none },
  { cls := 8, slots := #[.int (-80)], vm := .none },
  { cls := 8, slots := #[.int (-79)], vm := .none },
  { cls := 8, slots := #[.int (-78)], vm := .none },
  { cls := 8, slots := #[.int (-77)], vm := .none },
  { cls := 8, slots := #[.int (-76)], vm := .none },
  { cls := 8, slots := #[.int (-75)], vm := .none },
  { cls := 8, slots := #[.int (-74)], vm := .none },
  { cls := 8, slots := #[.int (-73)], vm := .none },
  { cls := 8, slots := #[.int (-72)], vm := .none },
  { cls := 8, slots := #[.int (-71)], vm := .none },
  { cls := 8, slots := #[.int (-70)], vm := .none },
  { cls := 8, slots := #[.int (-69)], vm := .none },
  { cls := 8, slots := #[.int (-68)], vm := .none },
  { cls := 8, slots := #[.int (-67)], vm := .none },
  { cls := 8, slots := #[.int (-66)], vm := .none },
  { cls := 8, slots := #[.int (-65)], vm := .none },
  { cls := 8, slots := #[.int (-64)], vm := .none },
  { cls := 8, slots := #[.int (-63)], vm := .none },
  { cls := 8, slots := #[.int (-62)], vm := .none },
  { cls := 8, slots := #[.int (-61)], vm := .none },
  { cls := 8, slots := #[.int (-60)], vm := .none },
  { cls := 8, slots := #[.int (-59)], vm := .none },
  { cls := 8, slots := #[.int (-58)], vm := .none },
  { cls := 8, slots := #[.int (-57)], vm := .none },
  { cls := 8, slots := #[.int (-56)], vm := .none },
  { cls := 8, slots := #[.int (-55)], vm := .none },
  { cls := 8, slots := #[.int (-54)], vm := .none },
  { cls := 8, slots := #[.int (-53)], vm := .none },
  { cls := 8, slots := #[.int (-52)], vm := .none },
  { cls := 8, slots := #[.int (-51)], vm := .none },
  { cls := 8, slots := #[.int (-50)], vm := .none },
  { cls := 8, slots := #[.int (-49)], vm := .none },
  { cls := 8, slots := #[.int (-48)], vm := .none },
  { cls := 8, slots := #[.int (-47)], vm := .none },
  { cls := 8, slots := #[.int (-46)], vm := .none },
  { cls := 8, slots := #[.int (-45)], vm := .none },
  { cls := 8, slots := #[.int (-44)], vm := .none },
  { cls := 8, slots := #[.int (-43)], vm := .none },
  { cls := 8, slots := #[.int (-42)], vm := .none },
  { cls := 8, slots := #[.int (-41)], vm := .none },
  { cls := 8, slots := #[.int (-40)], vm := .none },
  { cls := 8, slots := #[.int (-39)], vm := .none },
  { cls := 8, slots := #[.int (-38)], vm := .none },
  { cls := 8, slots := #[.int (-37)], vm := .none },
  { cls := 8, slots := #[.int (-36)], vm := .none },
  { cls := 8, slots := #[.int (-35)], vm := .none },
  { cls := 8, slots := #[.int (-34)], vm := .none },
  { cls := 8, slots := #[.int (-33)], vm := .none },
  { cls := 8, slots := #[.int (-32)], vm := .none },
  { cls := 8, slots := #[.int (-31)], vm := .none },
  { cls := 8, slots := #[.int (-30)], vm := .none },
  { cls := 8, slots := #[.int (-29)], vm := .none },
  { cls := 8, slots := #[.int (-28)], vm := .none },
  { cls := 8, slots := #[.int (-27)], vm := .none },
  { cls := 8, slots := #[.int (-26)], vm := .none },
  { cls := 8, slots := #[.int (-25)], vm := .none },
  { cls := 8, slots := #[.int (-24)], vm := .none },
  { cls := 8, slots := #[.int (-23)], vm := .none },
  { cls := 8, slots := #[.int (-22)], vm := .none },
  { cls := 8, slots := #[.int (-21)], vm := .none },
  { cls := 8, slots := #[.int (-20)], vm := .none },
  { cls := 8, slots := #[.int (-19)], vm := .none },
  { cls := 8, slots := #[.int (-18)], vm := .none },
  { cls := 8, slots := #[.int (-17)], vm := .none },
  { cls := 8, slots := #[.int (-16)], vm := .none },
  { cls := 8, slots := #[.int (-15)], vm := .none },
  { cls := 8, slots := #[.int (-14)], vm := .none },
  { cls := 8, slots := #[.int (-13)], vm := .none },
  { cls := 8, slots := #[.int (-12)], vm := .none },
  { cls := 8, slots := #[.int (-11)], vm := .none },
  { cls := 8, slots := #[.int (-10)], vm := .none },
  { cls := 8, slots := #[.int (-9)], vm := .none },
  { cls := 8, slots := #[.int (-8)], vm := .none },
  { cls := 8, slots := #[.int (-7)], vm := .none },
  { cls := 8, slots := #[.int (-6)], vm := .none },
  { cls := 8, slots := #[.int (-5)], vm := .none },
  { cls := 8, slots := #[.int (-4)], vm := .none },
  { cls := 8, slots := #[.int (-3)], vm := .none },
  { cls := 8, slots := #[.int (-2)], vm := .none },
  { cls := 8, slots := #[.int (-1)], vm := .none },
  { cls := 8, slots := #[.int (0)], vm := .none },
  { cls := 8, slots := #[.int (1)], vm := .none },
  { cls := 8, slots := #[.int (2)], vm := .none },
  { cls := 8, slots := #[.int (3)], vm := .none },
  { cls := 8, slots := #[.int (4)], vm := .none },
  { cls := 8, slots := #[.int (5)], vm := .none },
  { cls := 8, slots := #[.int (6)], vm := .none },
  { cls := 8, slots := #[.int (7)], vm := .none },
  { cls := 8, slots := #[.int (8)], vm := .none },
  { cls := 8, slots := #[.int (9)], vm := .none },
  { cls := 8, slots := #[.int (10)], vm := .none },
  { cls := 8, slots := #[.int (11)], vm := .none },
  { cls := 8, slots := #[.int (12)], vm := .none },
  { cls := 8, slots := #[.int (13)], vm := .none },
  { cls := 8, slots := #[.int (14)], vm := .none },
  { cls := 8, slots := #[.int (15)], vm := .none },
  { cls := 8, slots := #[.int (16)], vm := .none },
  { cls := 8, slots := #[.int (17)], vm := .none },
  { cls := 8, slots := #[.int (18)], vm := .none },
  { cls := 8, slots := #[.int (19)], vm := .none },
  { cls := 8, slots := #[.int (20)], vm := .none },
  { cls := 8, slots := #[.int (21)], vm := .none },
  { cls := 8, slots := #[.int (22)], vm := .none },
  { cls := 8, slots := #[.int (23)], vm := .none },
  { cls := 8, slots := #[.int (24)], vm := .none },
  { cls := 8, slots := #[.int (25)], vm := .none },
  { cls := 8, slots := #[.int (26)], vm := .none },
  { cls := 8, slots := #[.int (27)], vm := .none },
  { cls := 8, slots := #[.int (28)], vm := .none },
  { cls := 8, slots := #[.int (29)], vm := .none },
  { cls := 8, slots := #[.int (30)], vm := .none },
  { cls := 8, slots := #[.int (31)], vm := .none },
  { cls := 8, slots := #[.int (32)], vm := .none },
  { cls := 8, slots := #[.int (33)], vm := .none },
  { cls := 8, slots := #[.int (34)], vm := .none },
  { cls := 8, slots := #[.int (35)], vm := .none },
  { cls := 8, slots := #[.int (36)], vm := .none },
  { cls := 8, slots := #[.int (37)], vm := .none },
  { cls := 8, slots := #[.int (38)], vm := .none },
  { cls := 8, slots := #[.int (39)], vm := .none },
  { cls := 8, slots := #[.int (40)], vm := .none },
  { cls := 8, slots := #[.int (41)], vm := .none },
  { cls := 8, slots := #[.int (42)], vm := .none },
  { cls := 8, slots := #[.int (43)], vm := .none },
  { cls := 8, slots := #[.int (44)], vm := .none },
  { cls := 8, slots := #[.int (45)], vm := .none },
  { cls := 8, slots := #[.int (46)], vm := .none },
  { cls := 8, slots := #[.int (47)], vm := .none },
  { cls := 8, slots := #[.int (48)], vm := .none },
  { cls := 8, slots := #[.int (49)], vm := .none },
  { cls := 8, slots := #[.int (50)], vm := .none },
  { cls := 8, slots := #[.int (51)], vm := .none },
  { cls := 8, slots := #[.int (52)], vm := .none },
  { cls := 8, slots := #[.int (53)], vm := .none },
  { cls := 8, slots := #[.int (54)], vm := .none },
  { cls := 8, slots := #[.int (55)], vm := .none },
  { cls := 8, slots := #[.int (56)], vm := .none },
  { cls := 8, slots := #[.int (57)], vm := .none },
  { cls := 8, slots := #[.int (58)], vm := .none },
  { cls := 8, slots := #[.int (59)], vm := .none },
  { cls := 8, slots := #[.int (60)], vm := .none },
  { cls := 8, slots := #[.int (61)], vm := .none },
  { cls := 8, slots := #[.int (62)], vm := .none },
  { cls := 8, slots := #[.int (63)], vm := .none },
  { cls := 8, slots := #[.int (64)], vm := .none },
  { cls := 8, slots := #[.int (65)], vm := .none },
  { cls := 8, slots := #[.int (66)], vm := .none },
  { cls := 8, slots := #[.int (67)], vm := .none },
  { cls := 8, slots := #[.int (68)], vm := .none },
  { cls := 8, slots := #[.int (69)], vm := .none },
  { cls := 8, slots := #[.int (70)], vm := .none },
  { cls := 8, slots := #[.int (71)], vm := .none },
  { cls := 8, slots := #[.int (72)], vm := .none },
  { cls := 8, slots := #[.int (73)], vm := .none },
  { cls := 8, slots := #[.int (74)], vm := .none },
  { cls := 8, slots := #[.int (75)], vm := .none },
  { cls := 8, slots := #[.int (76)], vm := .none },
  { cls := 8, slots := #[.int (77)], vm := .none },
  { cls := 8, slots := #[.int (78)], vm := .none },
  { cls := 8, slots := #[.int (79)], vm := .none },
  { cls := 8, slots := #[.int (80)], vm := .none },
  { cls := 8, slots := #[.int (81)], vm := .none },
  { cls := 8, slots := #[.int (82)], vm := .none },
  { cls := 8, slots := #[.int (83)], vm := .none },
  { cls := 8, slots := #[.int (84)], vm := .none },
  { cls := 8, slots := #[.int (85)], vm := .none },
  { cls := 8, slots := #[.int (86)], vm := .none },
  { cls := 8, slots := #[.int (87)], vm := .none },
  { cls := 8, slots := #[.int (88)], vm := .none },
  { cls := 8, slots := #[.int (89)], vm := .none },
  { cls := 8, slots := #[.int (90)], vm := .none },
  { cls := 8, slots := #[.int (91)], vm := .none },
  { cls := 8, slots := #[.int (92)], vm := .none },
  { cls := 8, slots := #[.int (93)], vm := .none },
  { cls := 8, slots := #[.int (94)], vm := .none },
  { cls := 8, slots := #[.int (95)], vm := .none },
  { cls := 8, slots := #[.int (96)], vm := .none },
  { cls := 8, slots := #[.int (97)], vm := .none },
  { cls := 8, slots := #[.int (98)], vm := .none },
  { cls := 8, slots := #[.int (99)], vm := .none },
  { cls := 8, slots := #[.int (100)], vm := .none },
  { cls := 8, slots := #[.int (101)], vm := .none },
  { cls := 8, slots := #[.int (102)], vm := .none },
  { cls := 8, slots := #[.int (103)], vm := .none },
  { cls := 8, slots := #[.int (104)], vm := .none },
  { cls := 8, slots := #[.int (105)], vm := .none },
  { cls := 8, slots := #[.int (106)], vm := .none },
  { cls := 8, slots := #[.int (107)], vm := .none },
  { cls := 8, slots := #[.int (108)], vm := .none },
  { cls := 8, slots := #[.int (109)], vm := .none },
  { cls := 8, slots := #[.int (110)], vm := .none },
  { cls := 8, slots := #[.int (111)], vm := .none },
  { cls := 8, slots := #[.int (112)], vm := .none },
  { cls := 8, slots := #[.int (113)], vm := .none },
  { cls := 8, slots := #[.int (114)], vm := .none },
  { cls := 8, slots := #[.int (115)], vm := .none },
  { cls := 8, slots := #[.int (116)], vm := .none },
  { cls := 8, slots := #[.int (117)], vm := .none },
  { cls := 8, slots := #[.int (118)], vm := .none },
  { cls := 8, slots := #[.int (119)], vm := .none },
  { cls := 8, slots := #[.int (120)], vm := .none },
  { cls := 8, slots := #[.int (121)], vm := .none },
  { cls := 8, slots := #[.int (122)], vm := .none },
  { cls := 8, slots := #[.int (123)], vm := .none },
  { cls := 8, slots := #[.int (124)], vm := .none },
  { cls := 8, slots := #[.int (125)], vm := .none },
  { cls := 8, slots := #[.int (126)], vm := .none },
  { cls := 8, slots := #[.int (127)], vm := .none }]
def classes : Array Class := #[k0, k1, k2, k3, k4, k5, k6, k7, k8, k9, k10, k11, k12, k13, k14, k15]
def interned : List (Array UInt16 × Addr) := []
def slotsUsed : Nat := 517
def theMethod : MethodId := ⟨1, 1⟩
def args0 : Array Value := #[.int 5, .int 7, .int 7]
def aboutOver (below : List Frame) : State where
  vm := { classes := classes, interned := interned.toArray }
  heap := heap
  slotsUsed := slotsUsed
  threads := #[{ frames := .invoking theMethod args0 :: below }]
def below0 : List Frame := [.native { method := ⟨0, 0⟩, args := #[] }]
def about1 : State := aboutOver below0
def p0 : Program := .bare "" "" ""
def e0 : Env := launch0.env 0 0 0
theorem w_frames : about1.frames = Frame.invoking theMethod args0 :: below0 := rfl
set_option maxRecDepth 65536 in
theorem w_args : argsFit about1.vm theMethod args0 = true := by decide +kernel
set_option maxRecDepth 65536 in
theorem w_heap : heapFits about1 = true := by decide +kernel
set_option maxRecDepth 65536 in
theorem w_runnable : about1.curStatus? = some .runnable := by decide +kernel
set_option maxRecDepth 65536 in
theorem w_alone : about1.alone = true := by decide +kernel
set_option maxRecDepth 65536 in
theorem w_named : about1.methodNamed? x = some theMethod := by decide +kernel
set_option maxRecDepth 65536 in
theorem w_hears : about1.hears theMethod below0 = true := by decide +kernel
set_option maxRecDepth 65536 in
theorem w_ripe : about1.ripe theMethod args0 below0 = true := by decide +kernel
theorem w_running : about1.status = .running := rfl
set_option maxRecDepth 65536 in
theorem w_room : about1.hasRoom e0.platform room_1 = true :=
  launch0.hasRoom_least _ room_1 (by decide +kernel) (by decide +kernel) (by decide +kernel) (by decide +kernel) (by decide +kernel) (by decide +kernel)
theorem allAtoms_all (ts : List Jvm.Cond) (a : Array Jvm.Value) (st : Jvm.State) : (allAtoms ts).before a st = ts.all (fun c => c.before a st) := by
  induction ts with
  | nil => rfl
  | cons c t ih =>
    show (Jvm.Cond.and c (allAtoms t)).before a st = _
    rw [Jvm.Cond.before_and, ih, List.all_cons]
def words1 : List Jvm.Cond := Jvm.Cond.code x code maxLocals ret :: tables_1
/-- a 'code' word, met by the world's own term for the bytes: nothing is compared byte by byte -/
theorem code_word {y : MethodName} {bytes : ByteArray} {mx : Nat} {rt : Option FieldType} {a : Array Value} {s : State} {m : MethodId} {meth : Method} {c : Code} (h1 : s.methodNamed? y = some m) (h2 : s.vm.method? m = some meth) (h3 : meth.code = some c) (h4 : c.code = bytes)
    (h5 : (c.maxLocals == mx && c.exceptionTable.isEmpty && decide (c.maxStack ≤ mostOperands) && decide (meth.sig.returnType = rt) && !meth.locks && decide (parseMethodDescriptor y.desc = some meth.sig)) = true) : (Jvm.Cond.code y bytes mx rt).before a s = true := by
  simp only [Bool.and_eq_true, beq_iff_eq, Bool.not_eq_true', decide_eq_true_eq] at h5
  obtain ⟨⟨⟨⟨⟨g1, g2⟩, g3⟩, g4⟩, g5⟩, g6⟩ := h5
  simp [Cond.before, Cond.holds, Cond.value, h1, h2, h3, h4, g1, g2, g3, g4, g5, g6]
def isCode : Jvm.Cond → Bool
  | .code _ _ _ _ => true
  | _ => false
theorem all_split {L : List Jvm.Cond} {P : Jvm.Cond → Bool} (h1 : L.all (fun c => isCode c || P c) = true) (h2 : ∀ c ∈ L.filter isCode, P c = true) : L.all P = true := by
  refine List.all_eq_true.mpr fun c hc => ?_
  have h := List.all_eq_true.mp h1 c hc
  rcases Bool.eq_false_or_eq_true (isCode c) with hi | hi
  · exact h2 c (List.mem_filter.mpr ⟨hc, hi⟩)
  · simpa [hi] using h
set_option maxRecDepth 65536 in
theorem w_c0 : (Jvm.Cond.code x code maxLocals ret).before args0 about1 = true := code_word (m := ⟨1, 1⟩) (meth := k1m1) (c := k1c1) (by decide +kernel) rfl rfl rfl (by decide +kernel)
set_option maxRecDepth 65536 in
theorem w_c1 : (Jvm.Cond.code ({ cls := "com/example/electd/electd/model/Mode", name := "<init>", desc := "(ZZ)V" } : Jvm.MethodName) prog_17_method_1_code (3 : Nat) (Option.none : Option Jvm.ClassFile.FieldType)).before args0 about1 = true := code_word (m := ⟨2, 0⟩) (meth := k2m0) (c := k2c0) (by decide +kernel) rfl rfl rfl (by decide +kernel)
set_option maxRecDepth 65536 in
theorem w_c2 : (Jvm.Cond.code ({ cls := "java/lang/Object", name := "<init>", desc := "()V" } : Jvm.MethodName) object_method_1_code (1 : Nat) (Option.none : Option Jvm.ClassFile.FieldType)).before args0 about1 = true := code_word (m := ⟨0, 0⟩) (meth := k0m0) (c := k0c0) (by decide +kernel) rfl rfl rfl (by decide +kernel)
set_option maxRecDepth 65536 in
theorem w_c3 : (Jvm.Cond.code ({ cls := "com/example/electd/electd/model/Mode", name := "equals", desc := "(Ljava/lang/Object;)Z" } : Jvm.MethodName) prog_17_method_4_code (3 : Nat) (Option.some Jvm.ClassFile.FieldType.boolean)).before args0 about1 = true := code_word (m := ⟨2, 1⟩) (meth := k2m1) (c := k2c1) (by decide +kernel) rfl rfl rfl (by decide +kernel)
set_option maxRecDepth 65536 in
theorem w_c4 : (Jvm.Cond.code ({ cls := "java/lang/Integer", name := "valueOf", desc := "(I)Ljava/lang/Integer;" } : Jvm.MethodName) jdk_33_method_22_code (1 : Nat) (Option.some (Jvm.ClassFile.FieldType.object "java/lang/Integer"))).before args0 about1 = true := code_word (m := ⟨8, 0⟩) (meth := k8m0) (c := k8c0) (by decide +kernel) rfl rfl rfl (by decide +kernel)
set_option maxRecDepth 65536 in
theorem w_c5 : (Jvm.Cond.code ({ cls := "java/lang/Integer", name := "<init>", desc := "(I)V" } : Jvm.MethodName) jdk_33_method_23_code (2 : Nat) (Option.none : Option Jvm.ClassFile.FieldType)).before args0 about1 = true := code_word (m := ⟨8, 1⟩) (meth := k8m1) (c := k8c1) (by decide +kernel) rfl rfl rfl (by decide +kernel)
set_option maxRecDepth 65536 in
theorem w_c6 : (Jvm.Cond.code ({ cls := "java/lang/Number", name := "<init>", desc := "()V" } : Jvm.MethodName) jdk_18_method_1_code (1 : Nat) (Option.none : Option Jvm.ClassFile.FieldType)).before args0 about1 = true := code_word (m := ⟨4, 0⟩) (meth := k4m0) (c := k4c0) (by decide +kernel) rfl rfl rfl (by decide +kernel)
def codes1 : List Jvm.Cond := [Jvm.Cond.code x code maxLocals ret, Jvm.Cond.code ({ cls := "com/example/electd/electd/model/Mode", name := "<init>", desc := "(ZZ)V" } : Jvm.MethodName) prog_17_method_1_code (3 : Nat) (Option.none : Option Jvm.ClassFile.FieldType), Jvm.Cond.code ({ cls := "java/lang/Object", name := "<init>", desc := "()V" } : Jvm.MethodName) object_method_1_code (1 : Nat) (Option.none : Option Jvm.ClassFile.FieldType), Jvm.Cond.code ({ cls := "com/example/electd/electd/model/Mode", name := "equals", desc := "(Ljava/lang/Object;)Z" } : Jvm.MethodName) prog_17_method_4_code (3 : Nat) (Option.some Jvm.ClassFile.FieldType.boolean), Jvm.Cond.code ({ cls := "java/lang/Integer", name := "valueOf", desc := "(I)Ljava/lang/Integer;" } : Jvm.MethodName) jdk_33_method_22_code (1 : Nat) (Option.some (Jvm.ClassFile.FieldType.object "java/lang/Integer")), Jvm.Cond.code ({ cls := "java/lang/Integer", name := "<init>", desc := "(I)V" } : Jvm.MethodName) jdk_33_method_23_code (2 : Nat) (Option.none : Option Jvm.ClassFile.FieldType), Jvm.Cond.code ({ cls := "java/lang/Number", name := "<init>", desc := "()V" } : Jvm.MethodName) jdk_18_method_1_code (1 : Nat) (Option.none : Option Jvm.ClassFile.FieldType)]
set_option maxRecDepth 65536 in
theorem codes_eq : words1.filter isCode = codes1 := rfl
theorem w_codes : ∀ c ∈ words1.filter isCode, c.before args0 about1 = true := by
  rw [codes_eq]
  intro c hc
  simp only [codes1, List.mem_cons, List.not_mem_nil, or_false] at hc
  rcases hc with rfl | rfl | rfl | rfl | rfl | rfl | rfl
  · exact w_c0
  · exact w_c1
  · exact w_c2
  · exact w_c3
  · exact w_c4
  · exact w_c5
  · exact w_c6
set_option maxRecDepth 65536 in
theorem w_t1 : (words1.take 24).all (fun c => isCode c || c.before args0 about1) = true := by decide +kernel
set_option maxRecDepth 65536 in
theorem w_t2 : (words1.drop 24).all (fun c => isCode c || c.before args0 about1) = true := by decide +kernel
theorem w_tables : (allAtoms (Jvm.Cond.code x code maxLocals ret :: tables_1)).before args0 about1 = true := by
  rw [allAtoms_all]
  show words1.all (fun c => c.before args0 about1) = true
  refine all_split ?_ w_codes
  rw [← List.take_append_drop 24 words1, List.all_append, w_t1, w_t2]
  rfl
set_option maxRecDepth 65536 in
theorem w_rest : rest_1_c.before args0 about1 = true := by decide +kernel
set_option maxRecDepth 65536 in
theorem w_case : (Jvm.Cond.and given_1 narrow_1).before args0 about1 = true := by decide +kernel
theorem w_applies : (headSpec (Jvm.Cond.code x code maxLocals ret :: tables_1) room_1).applies x e0.platform about1 = true :=
  (Spec.applies_iff w_frames).mpr ⟨w_running, w_runnable, w_alone, w_named, w_hears, w_ripe, w_room, w_tables⟩
theorem atStart : AtStart classFile x code maxLocals ret World_1 tables_1 room_1 Calls_1 rest_1 Pre_1 launch0 p0 e0 about1 theMethod args0 below0 :=
  ⟨lists_1, trivial, launch0.admits_env _ _ _, launch0.least_env, fairChoices_fair.cas, fairChoices_fair.clock, w_frames, w_args, w_heap, w_applies, trivial, w_rest, w_case⟩
end start1
theorem witness_1 : WitnessClaimed_1 := ⟨start1.p0, start1.e0, start1.about1, start1.theMethod, start1.args0, start1.below0, start1.atStart⟩
end Jvm.Pilot.@@N@@
