import JvmDerived
import JvmDerived.Pilot.@@N@@Statement
import JvmDerived.Pilot.@@N@@Code
set_option linter.unusedVariables false
set_option linter.unusedSimpArgs false
namespace Jvm.Pilot.@@N@@
open Jvm Jvm.ClassFile Sem Op Lib Jvm.Free Jvm.Stand Jvm.LawKit Jvm.RoadKit Bundle Jvm.Pilot.@@N@@.Jvm.D
section OwnKit
variable {p : Program} {l : Launch} {e : Env} {R : Room} {s : State} {m : MethodId} {args : Array Value} {below : List Frame} {meth : Method} {c : Code} {T : State} {locs : List Loc} {cells slots : Nat} {Z : State} {a0 : Array Value} {h : Heap} {Q : Option Value → Heap → List Loc → Prop} {cl sl : Nat}
/-- from the state U the run comes back, and what it leaves is as Q says -/
def Fin1 (p : Program) (e : Env) (below : List Frame) (s : State) (Q : Option Value → Heap → List Loc → Prop) (cl sl : Nat) (U : State) : Prop :=
  ∃ s₂ o, Steps p.tables e below U s₂ ∧ s₂.status = .running ∧ Ended s₂ below o ∧ ∃ v L, o = .returned v ∧ Q v s₂.heap L ∧ FrameEnd s o s₂ L cl sl
theorem own_st {U V : State} (h : ∀ t, Steps p.tables e below V t → Steps p.tables e below U t) (k : Fin1 p e below s Q cl sl V) : Fin1 p e below s Q cl sl U := by
  obtain ⟨s₂, o, h1, r⟩ := k
  exact ⟨s₂, o, h _ h1, r⟩
/-- a contract -/
def Ct (l : Launch) (Z : State) (ws : List Jvm.Cond) (y : MethodName) (bytes : ByteArray) (maxL : Nat) (ret : Option FieldType) (rm : Room) (as' : Array Value) (h : Heap) (Q : Option Value → Heap → List Loc → Prop) : Prop :=
  MetFree l y (head1 (Jvm.Cond.code y bytes maxL ret :: ws) rm) (fun a U => a = as' ∧ Z.Warmed39 U.vm ∧ U.heap = h) (fun _ _ _ _ _ => True) (fun _ U o U' => ∃ v L, o = .returned v ∧ Q v U'.heap L ∧ FrameEnd U o U' L rm.cells rm.slots)
theorem own_enter {ws : List Jvm.Cond} {y : MethodName} {bytes : ByteArray} {maxL : Nat} {ret : Option FieldType} {rm : Room} {as' : Array Value} (hp : plainFor y = true)
    (body : ∀ (p : Program) (e : Env) (s : State) (m : MethodId) (below : List Frame) (meth : Method) (c : Code) (T : State), Stand p l e rm s m as' below meth c T [] 0 0 → p.tables.exec = Jvm.exec → c.code = bytes → c.maxLocals = maxL → Z.Warmed39 s.vm → s.vm.findClass y.cls = some m.cls → meth.name = y.name →
      meth.sig.returnType = ret → meth.locks = false → T.heap = h → Fin1 p e below s Q rm.cells rm.slots (T.setTop (entryFrame m as' maxL))) : Ct l Z ws y bytes maxL ret rm as' h Q := by
  refine MetFree.of_bodySF hp hisR ?_
  intro p e s m args below meth c s₁ Bd hml hP _
  obtain ⟨rfl, hZ, hh⟩ := hP
  exact body p e s m below meth c s₁ (Stand.of_body Bd) Bd.exec Bd.bytes hml hZ (findClass_of_methodNamed Bd.named) (name_of_methodNamed Bd.named Bd.method).1 Bd.returns (BodyLoose.notSynchronized Bd) (by rw [← hh, Bd.state]; rfl)
/-- a stronger promise pays a weaker one -/
theorem Ct.mono {ws : List Jvm.Cond} {y : MethodName} {bytes : ByteArray} {maxL : Nat} {ret : Option FieldType} {rm : Room} {as' : Array Value} {Q' : Option Value → Heap → List Loc → Prop} (hC : Ct l Z ws y bytes maxL ret rm as' h Q) (hQ : ∀ v h' L, Q v h' L → Q' v h' L) : Ct l Z ws y bytes maxL ret rm as' h Q' := by
  intro p e ha hc hk s m args below hf happ hP hK
  obtain ⟨n, o, h1, h2, h3, v, L, h4, h5, h6⟩ := hC p e ha hc hk s m args below hf happ hP hK
  exact ⟨n, o, h1, h2, h3, v, L, h4, hQ _ _ _ h5, h6⟩
theorem own_leave (X : Stand p l e R s m args below meth c T locs cells slots) (hlk : meth.locks = false) {v : Option Value} (hv : meth.sig.returnType = none → v = none) {U : State}
    (hst : ∀ fs, (∀ (f : JFrame) (acts : List Action), f.method = m → f.locked = none → f.entered = [] → (doReturn e (T.setTop f) acts v).1 = T.setFrames fs) → Steps p.tables e below U (T.setFrames fs))
    (hQ : Q v T.heap locs) (hc : cells ≤ cl) (hs : slots ≤ sl) : Fin1 p e below s Q cl sl U := by
  obtain ⟨fs, hr, hrun, hended, hW, hsame⟩ := X.leave (v := v) hv hlk
  exact ⟨_, _, hst fs hr, hrun, hended, v, locs, rfl, hQ, ⟨_, rfl⟩, hW, hsame.mono hc hs⟩
theorem own_retV (X : Stand p l e R s m args below meth c T locs cells slots) (hx : p.tables.exec = Jvm.exec) (hlk : meth.locks = false) {pc : Nat} {Ls : Array Slot} (hret : meth.sig.returnType = none) (hd : decode c.code pc = .ok (.return_, 1))
    (hQ : Q none T.heap locs) (hc : cells ≤ cl) (hs : slots ≤ sl) : Fin1 p e below s Q cl sl (T.setTop (mkF m pc Ls [])) :=
  own_leave X hlk (fun _ => rfl) (fun fs hr => X.returnOut hx hret hd hr) hQ hc hs
theorem own_retI (X : Stand p l e R s m args below meth c T locs cells slots) (hx : p.tables.exec = Jvm.exec) (hlk : meth.locks = false) {pc : Nat} {Ls : Array Slot} {z : Int32} {rest : List Value} (hret : meth.sig.returnType = some .int) (hd : decode c.code pc = .ok (.ireturn, 1))
    (hQ : Q (some (.int z)) T.heap locs) (hc : cells ≤ cl) (hs : slots ≤ sl) : Fin1 p e below s Q cl sl (T.setTop (mkF m pc Ls (.int z :: rest))) :=
  own_leave X hlk (fun h => by rw [hret] at h; cases h) (fun fs hr => retOut X hx hret rfl (Or.inl ⟨rfl, Or.inl rfl, _, rfl⟩) hd hr) hQ hc hs
theorem own_retZ (X : Stand p l e R s m args below meth c T locs cells slots) (hx : p.tables.exec = Jvm.exec) (hlk : meth.locks = false) {pc : Nat} {Ls : Array Slot} {rest : List Value} (hret : meth.sig.returnType = some .boolean) (hd : decode c.code pc = .ok (.ireturn, 1)) {z : Int32} (hz : z = 0 ∨ z = 1)
    (hQ : Q (some (.int z)) T.heap locs) (hc : cells ≤ cl) (hs : slots ≤ sl) : Fin1 p e below s Q cl sl (T.setTop (mkF m pc Ls (.int z :: rest))) :=
  own_leave X hlk (fun h => by rw [hret] at h; cases h) (fun fs hr => retOut X hx hret (by rcases hz with rfl | rfl <;> rfl) (Or.inl ⟨rfl, Or.inr (Or.inl rfl), _, rfl⟩) hd hr) hQ hc hs
theorem own_retJ (X : Stand p l e R s m args below meth c T locs cells slots) (hx : p.tables.exec = Jvm.exec) (hlk : meth.locks = false) {pc : Nat} {Ls : Array Slot} {z : Int64} {rest : List Value} (hret : meth.sig.returnType = some .long) (hd : decode c.code pc = .ok (.lreturn, 1))
    (hQ : Q (some (.long z)) T.heap locs) (hc : cells ≤ cl) (hs : slots ≤ sl) : Fin1 p e below s Q cl sl (T.setTop (mkF m pc Ls (.long z :: rest))) :=
  own_leave X hlk (fun h => by rw [hret] at h; cases h) (fun fs hr => retOut X hx hret rfl (Or.inr (Or.inl ⟨rfl, rfl, _, rfl⟩)) hd hr) hQ hc hs
theorem own_retA (X : Stand p l e R s m args below meth c T locs cells slots) (hx : p.tables.exec = Jvm.exec) (hlk : meth.locks = false) {pc : Nat} {Ls : Array Slot} {z : Value} {rest : List Value} {t : FieldType} (hret : meth.sig.returnType = some t) (ht : t.isReference = true) (hz : z.isRef = true) (hd : decode c.code pc = .ok (.areturn, 1))
    (hQ : Q (some z) T.heap locs) (hc : cells ≤ cl) (hs : slots ≤ sl) : Fin1 p e below s Q cl sl (T.setTop (mkF m pc Ls (z :: rest))) :=
  own_leave X hlk (fun h => by rw [hret] at h; cases h) (fun fs hr => retOut X hx hret (by cases t <;> first | (cases ht; done) | (cases z <;> first | (cases hz; done) | rfl)) (Or.inr (Or.inr (Or.inr (Or.inr ⟨rfl, ht, hz⟩)))) hd hr) hQ hc hs
variable {own : String} {index : Nat} {y z : MethodName} {bytes : ByteArray} {maxL : Nat} {ret : Option FieldType} {rm : Room} {argsL rest : List Value} {a : Addr}
theorem own_static (X : Stand p l e R s m args below meth c T locs cells slots) (hx : p.tables.exec = Jvm.exec) (hZ : Z.Warmed39 s.vm) (hown : s.vm.findClass own = some m.cls) (w1 : (Jvm.Cond.methodLink own index y).before a0 Z = true) (w2 : (Jvm.Cond.static y).before a0 Z = true) (w3 : (Jvm.Cond.initialized y.cls).before a0 Z = true)
    (w4 : (Jvm.Cond.code y bytes maxL ret).before a0 Z = true) (hy : y.cls ≠ "java/lang/invoke/MethodHandle" ∧ y.cls ≠ "java/lang/invoke/VarHandle") (hC : Ct l Z [] y bytes maxL ret rm argsL.toArray h Q) (eT : T.heap = h) {g : JFrame} (hg : g.method = m) (hsize : g.locals.size = c.maxLocals)
    (hlen : ∀ sig, parseMethodDescriptor y.desc = some sig → argsL.length = sig.parameters.length) (hs : g.stack = argsL.reverse ++ rest) {W : Nat} (hW : 2 * g.monitorRoom + (rest.map fun v => v.category).sum ≤ W) (hd : decode c.code g.pc = .ok (.invokestatic index, 3))
    (hf : rm.frames + 1 ≤ R.frames) (hl : W + (maxL + 11) + rm.locals ≤ R.locals) (hc : cells + rm.cells ≤ R.cells) (hsl : slots + rm.slots ≤ R.slots) :
    ∃ v T' h' L, Stand p l e R s m args below meth c T' (locs ++ L) (cells + rm.cells) (slots + rm.slots) ∧ T'.heap = h' ∧ Q v h' L ∧ ∀ t, Steps p.tables e below (T'.setTop { g with pc := g.pc + 3, stack := v.toList ++ rest }) t → Steps p.tables e below (T.setTop g) t := by
  obtain ⟨v, _, ⟨T', L', k', n'⟩, -, X', ⟨Lc, hQ, l1, y1, z1⟩, st⟩ := Jvm.LawKit.callS X hx (y := y) hown (mvT hZ w1) (mvT hZ w2) (mvT hZ w3) (mvT hZ w4) hy (backOf (W := W) hC hZ w4 w3 hf hl) hg hsize hlen hs hW hd (fun _ _ => ⟨rfl, eT, hc, hsl⟩)
  dsimp only [Pt.U, Pt.locs, Pt.cells, Pt.slots] at X' l1 y1 z1 st hQ
  subst l1 y1 z1
  exact ⟨v, T', _, Lc, X', rfl, hQ, st⟩
theorem own_special (X : Stand p l e R s m args below meth c T locs cells slots) (hx : p.tables.exec = Jvm.exec) (hZ : Z.Warmed39 s.vm) (hown : s.vm.findClass own = some m.cls) (hy1 : y.name = "<init>") (w1 : (Jvm.Cond.methodLink own index y).before a0 Z = true) (w2 : (Jvm.Cond.instanceMethod y).before a0 Z = true)
    (w4 : (Jvm.Cond.code y bytes maxL none).before a0 Z = true) (w3 : (Jvm.Cond.initialized y.cls).before a0 Z = true) (hy : y.cls ≠ "java/lang/invoke/MethodHandle" ∧ y.cls ≠ "java/lang/invoke/VarHandle") (hC : Ct l Z [] y bytes maxL none rm (.ref a :: argsL).toArray h Q) (eT : T.heap = h) {g : JFrame} (hg : g.method = m) (hsize : g.locals.size = c.maxLocals)
    (hlen : ∀ sig, parseMethodDescriptor y.desc = some sig → argsL.length = sig.parameters.length) (hs : g.stack = argsL.reverse ++ .ref a :: rest) {W : Nat} (hW : 2 * g.monitorRoom + (rest.map fun v => v.category).sum ≤ W) (hd : decode c.code g.pc = .ok (.invokespecial index, 3))
    (hf : rm.frames + 1 ≤ R.frames) (hl : W + (maxL + 11) + rm.locals ≤ R.locals) (hc : cells + rm.cells ≤ R.cells) (hsl : slots + rm.slots ≤ R.slots) :
    ∃ v T' h' L, Stand p l e R s m args below meth c T' (locs ++ L) (cells + rm.cells) (slots + rm.slots) ∧ T'.heap = h' ∧ Q v h' L ∧ ∀ t, Steps p.tables e below (T'.setTop { g with pc := g.pc + 3, stack := v.toList ++ rest }) t → Steps p.tables e below (T.setTop g) t := by
  obtain ⟨v, _, ⟨T', L', k', n'⟩, -, X', ⟨Lc, hQ, l1, y1, z1⟩, st⟩ := X.specialBack hx (y := y) hy1 hown (mvT hZ w1) (mvT hZ w2) (mvT hZ w4) hy (backOf (W := W) hC hZ w4 w3 hf hl) hg hsize (Steps.refl _) (a := a) hlen hs hW hd (fun _ _ => ⟨rfl, eT, hc, hsl⟩)
  dsimp only [Pt.U, Pt.locs, Pt.cells, Pt.slots] at X' l1 y1 z1 st hQ
  subst l1 y1 z1
  exact ⟨v, T', _, Lc, X', rfl, hQ, fun t k => st.trans k⟩
theorem own_virtual {C : String} (X : Stand p l e R s m args below meth c T locs cells slots) (hx : p.tables.exec = Jvm.exec) (hZ : Z.Warmed39 s.vm) (hown : s.vm.findClass own = some m.cls) (w1 : (Jvm.Cond.methodLink own index y).before a0 Z = true) (w2 : (Jvm.Cond.declares y).before a0 Z = true) (w5 : (Jvm.Cond.selects C y y).before a0 Z = true)
    (w6 : (Jvm.Cond.instanceMethod y).before a0 Z = true) (w4 : (Jvm.Cond.code y bytes maxL ret).before a0 Z = true) (w3 : (Jvm.Cond.initialized y.cls).before a0 Z = true) (hy : y.cls ≠ "java/lang/invoke/MethodHandle" ∧ y.cls ≠ "java/lang/invoke/VarHandle") (E : Exa Z h a C) (hC : Ct l Z [] y bytes maxL ret rm (.ref a :: argsL).toArray h Q) (eT : T.heap = h) {g : JFrame} (hg : g.method = m) (hsize : g.locals.size = c.maxLocals)
    (hlen : ∀ sig, parseMethodDescriptor y.desc = some sig → argsL.length = sig.parameters.length) (hs : g.stack = argsL.reverse ++ .ref a :: rest) {W : Nat} (hW : 2 * g.monitorRoom + (rest.map fun v => v.category).sum ≤ W) (hd : decode c.code g.pc = .ok (.invokevirtual index, 3))
    (hf : rm.frames + 1 ≤ R.frames) (hl : W + (maxL + 11) + rm.locals ≤ R.locals) (hc : cells + rm.cells ≤ R.cells) (hsl : slots + rm.slots ≤ R.slots) :
    ∃ v T' h' L, Stand p l e R s m args below meth c T' (locs ++ L) (cells + rm.cells) (slots + rm.slots) ∧ T'.heap = h' ∧ Q v h' L ∧ ∀ t, Steps p.tables e below (T'.setTop { g with pc := g.pc + 3, stack := v.toList ++ rest }) t → Steps p.tables e below (T.setTop g) t := by
  obtain ⟨cq, kq, qa, qb, qc⟩ := isOf hZ eT E
  obtain ⟨v, _, ⟨T', L', k', n'⟩, -, X', ⟨Lc, hQ, l1, y1, z1⟩, st⟩ := X.virtualBack hx (y := y) (z := y) hown (mvT hZ w1) (mvT hZ w2) (notFace_of_selects (args := #[]) (mvT hZ w5)) (mvT hZ w5) (mvT hZ w6) hy (backOf (W := W) hC hZ w4 w3 hf hl) qa qc hg hsize (Steps.refl _) hlen hs hW hd (fun _ _ => ⟨rfl, eT, hc, hsl⟩)
  dsimp only [Pt.U, Pt.locs, Pt.cells, Pt.slots] at X' l1 y1 z1 st hQ
  subst l1 y1 z1
  exact ⟨v, T', _, Lc, X', rfl, hQ, fun t k => st.trans k⟩
theorem own_private {nn : Nat} (X : Stand p l e R s m args below meth c T locs cells slots) (hx : p.tables.exec = Jvm.exec) (hZ : Z.Warmed39 s.vm) (hown : s.vm.findClass own = some m.cls) (w1 : (Jvm.Cond.methodLink own index y).before a0 Z = true) (w2 : (Jvm.Cond.instanceMethod y).before a0 Z = true) (wi : (Jvm.Cond.instantiable y.cls nn).before a0 Z = true)
    (wp : (Jvm.Cond.privateMethod y).before a0 Z = true) (w4 : (Jvm.Cond.code y bytes maxL ret).before a0 Z = true) (w3 : (Jvm.Cond.initialized y.cls).before a0 Z = true) (hy : y.cls ≠ "java/lang/invoke/MethodHandle" ∧ y.cls ≠ "java/lang/invoke/VarHandle") (E : Exa Z h a y.cls) (hC : Ct l Z [] y bytes maxL ret rm (.ref a :: argsL).toArray h Q) (eT : T.heap = h) {g : JFrame} (hg : g.method = m) (hsize : g.locals.size = c.maxLocals)
    (hlen : ∀ sig, parseMethodDescriptor y.desc = some sig → argsL.length = sig.parameters.length) (hs : g.stack = argsL.reverse ++ .ref a :: rest) {W : Nat} (hW : 2 * g.monitorRoom + (rest.map fun v => v.category).sum ≤ W) (hd : decode c.code g.pc = .ok (.invokevirtual index, 3))
    (hf : rm.frames + 1 ≤ R.frames) (hl : W + (maxL + 11) + rm.locals ≤ R.locals) (hc : cells + rm.cells ≤ R.cells) (hsl : slots + rm.slots ≤ R.slots) :
    ∃ v T' h' L, Stand p l e R s m args below meth c T' (locs ++ L) (cells + rm.cells) (slots + rm.slots) ∧ T'.heap = h' ∧ Q v h' L ∧ ∀ t, Steps p.tables e below (T'.setTop { g with pc := g.pc + 3, stack := v.toList ++ rest }) t → Steps p.tables e below (T.setTop g) t := by
  obtain ⟨cell, hcell, hobj⟩ := E.cell
  have hsel : (Jvm.Cond.selects y.cls y y).before args s = true := by
    obtain ⟨c', k', i1, i2, -, i4, -⟩ := Cond.instantiable_spec (mvT hZ wi : (Jvm.Cond.instantiable y.cls nn).before args s = true)
    exact selects_self_of_private i1 i2 (Bool.or_eq_false_iff.mp i4).1 (Cond.privateMethod_at (mvP hZ wp (args := args))) (mvT hZ w2) hy
  obtain ⟨v, _, ⟨T', L', k', n'⟩, -, X', ⟨Lc, hQ, l1, y1, z1⟩, st⟩ := X.privateBack hx (y := y) hown (mvT hZ w1) (mvT hZ w2) hsel (Cond.privateMethod_at (mvP hZ wp (args := #[]))) (mvT hZ w4) hy (backOf (W := W) hC hZ w4 w3 hf hl) hg hsize (Steps.refl _) (a := a) (by rw [eT]; exact hcell) hobj hlen hs hW hd (fun _ _ => ⟨rfl, eT, hc, hsl⟩)
  dsimp only [Pt.U, Pt.locs, Pt.cells, Pt.slots] at X' l1 y1 z1 st hQ
  subst l1 y1 z1
  exact ⟨v, T', _, Lc, X', rfl, hQ, fun t k => st.trans k⟩
theorem own_virtualUp {C owner : String} (X : Stand p l e R s m args below meth c T locs cells slots) (hx : p.tables.exec = Jvm.exec) (hZ : Z.Warmed39 s.vm) (hown : s.vm.findClass own = some m.cls) (w1 : (Jvm.Cond.methodLink own index y).before a0 Z = true) (ws : (Jvm.Cond.sameMethod y.cls owner y.name y.desc).before a0 Z = true) (w2 : (Jvm.Cond.declares ⟨owner, y.name, y.desc⟩).before a0 Z = true) (w5 : (Jvm.Cond.selects C y z).before a0 Z = true)
    (w6 : (Jvm.Cond.instanceMethod z).before a0 Z = true) (w4 : (Jvm.Cond.code z bytes maxL ret).before a0 Z = true) (w3 : (Jvm.Cond.initialized z.cls).before a0 Z = true) (ho : owner ≠ "java/lang/invoke/MethodHandle" ∧ owner ≠ "java/lang/invoke/VarHandle") (E : Exa Z h a C) (hC : Ct l Z [] z bytes maxL ret rm (.ref a :: argsL).toArray h Q) (eT : T.heap = h) {g : JFrame} (hg : g.method = m) (hsize : g.locals.size = c.maxLocals)
    (hlen : ∀ sig, parseMethodDescriptor y.desc = some sig → argsL.length = sig.parameters.length) (hs : g.stack = argsL.reverse ++ .ref a :: rest) {W : Nat} (hW : 2 * g.monitorRoom + (rest.map fun v => v.category).sum ≤ W) (hd : decode c.code g.pc = .ok (.invokevirtual index, 3))
    (hf : rm.frames + 1 ≤ R.frames) (hl : W + (maxL + 11) + rm.locals ≤ R.locals) (hc : cells + rm.cells ≤ R.cells) (hsl : slots + rm.slots ≤ R.slots) :
    ∃ v T' h' L, Stand p l e R s m args below meth c T' (locs ++ L) (cells + rm.cells) (slots + rm.slots) ∧ T'.heap = h' ∧ Q v h' L ∧ ∀ t, Steps p.tables e below (T'.setTop { g with pc := g.pc + 3, stack := v.toList ++ rest }) t → Steps p.tables e below (T.setTop g) t := by
  obtain ⟨cq, kq, qa, qb, qc⟩ := isOf hZ eT E
  obtain ⟨v, _, ⟨T', L', k', n'⟩, -, X', ⟨Lc, hQ, l1, y1, z1⟩, st⟩ := X.virtualBackUp hx (x := y) (y := z) (owner := owner) hown (mvT hZ w1) (mvT hZ ws) (mvT hZ w2) ho (mvT hZ w5) (mvT hZ w6) (backOf (W := W) hC hZ w4 w3 hf hl) qa qc hg hsize (Steps.refl _) hlen hs hW hd (fun _ _ => ⟨rfl, eT, hc, hsl⟩)
  dsimp only [Pt.U, Pt.locs, Pt.cells, Pt.slots] at X' l1 y1 z1 st hQ
  subst l1 y1 z1
  exact ⟨v, T', _, Lc, X', rfl, hQ, fun t k => st.trans k⟩
theorem own_ref {x : Value} (hq : x = .null ∨ ∃ b, x = .ref b) : x.isRef = true := by rcases hq with rfl | ⟨_, rfl⟩ <;> rfl
theorem own_cat {x : Value} (hq : x = .null ∨ ∃ b, x = .ref b) : x.category = 1 := by rcases hq with rfl | ⟨_, rfl⟩ <;> rfl
theorem own_nar {x : Value} {t : FieldType} (hq : x = .null ∨ ∃ b, x = .ref b) (ht : t.isReference = true) : narrow t x = x := by rcases hq with rfl | ⟨_, rfl⟩ <;> cases t <;> first | rfl | (cases ht; done)
theorem own_fit {x : Value} {t : FieldType} (hq : x = .null ∨ ∃ b, x = .ref b) (ht : t.isReference = true) : fits t x = true := by rcases hq with rfl | ⟨_, rfl⟩ <;> cases t <;> first | rfl | (cases ht; done)
variable {k : ClassId} {ty : FieldType} {n j : Int32} {vs : List Value} {dv v : Value}
theorem own_ld (X : Stand p l e R s m args below meth c T locs cells slots) (hx : p.tables.exec = Jvm.exec) (hZ : Z.Warmed39 s.vm) (eT : T.heap = h) (F : Arv Z h a k ty n vs dv) (hj : ¬ j < 0 ∧ j < n) (hv : vs.getD j.toNatClampNeg dv = v) {g : JFrame} (hg : g.method = m) (hs : g.stack = .int j :: .ref a :: rest) {i : Instr}
    (hi : (i = .iaload ∧ ty = .int) ∨ (i = .laload ∧ ty = .long) ∨ (i = .aaload ∧ ty.isReference = true)) (hd : decode c.code g.pc = .ok (i, 1)) : ∀ t, Steps p.tables e below (T.setTop { g with pc := g.pc + 1, stack := v :: rest }) t → Steps p.tables e below (T.setTop g) t := by
  obtain ⟨cl, A, -, S, -, H, -⟩ := F
  have hin := inb_of S hj
  have hat := H.at hin hv
  rcases hi with ⟨rfl, rfl⟩ | ⟨rfl, rfl⟩ | ⟨rfl, ht⟩
  · exact X.iaload hx (j := j) (v := v) (by rw [eT]; exact A.1) (State.isArrayOf_alike hZ.alike A.2.1) A.2.2 hin hat hg hs hd
  · exact X.laload hx (j := j) (v := v) (by rw [eT]; exact A.1) (State.isArrayOf_alike hZ.alike A.2.1) A.2.2 hin hat hg hs hd
  · exact X.aaload hx (j := j) (v := v) (by rw [eT]; exact A.1) (State.isArrayOf_alike hZ.alike A.2.1) ht A.2.2 hin hat hg hs hd
theorem own_len (X : Stand p l e R s m args below meth c T locs cells slots) (hx : p.tables.exec = Jvm.exec) (hZ : Z.Warmed39 s.vm) (eT : T.heap = h) (F : Arv Z h a k ty n vs dv) {g : JFrame} (hg : g.method = m) (hs : g.stack = .ref a :: rest) (hd : decode c.code g.pc = .ok (.arraylength, 1)) :
    ∀ t, Steps p.tables e below (T.setTop { g with pc := g.pc + 1, stack := .int n :: rest }) t → Steps p.tables e below (T.setTop g) t := by
  obtain ⟨cl, A, -, S, q, -, -⟩ := F
  intro t kt
  refine X.arraylength hx (by rw [eT]; exact A.1) (State.isArrayOf_alike hZ.alike A.2.1) hg hs hd t ?_
  rw [len_of S q]
  exact kt
theorem own_lenA {cc : Cell} (X : Stand p l e R s m args below meth c T locs cells slots) (hx : p.tables.exec = Jvm.exec) (hZ : Z.Warmed39 s.vm) (eT : T.heap = h) (A : Arr Z h a cc ty) (hn : cc.slots.size.toInt32 = n) {g : JFrame} (hg : g.method = m) (hs : g.stack = .ref a :: rest) (hd : decode c.code g.pc = .ok (.arraylength, 1)) :
    ∀ t, Steps p.tables e below (T.setTop { g with pc := g.pc + 1, stack := .int n :: rest }) t → Steps p.tables e below (T.setTop g) t := by
  intro t kt
  refine X.arraylength hx (by rw [eT]; exact A.1) (State.isArrayOf_alike hZ.alike A.2.1) hg hs hd t ?_
  rw [hn]
  exact kt
theorem own_stI (X : Stand p l e R s m args below meth c T locs cells slots) (hx : p.tables.exec = Jvm.exec) (hZ : Z.Warmed39 s.vm) (eT : T.heap = h) (F : Arv Z h a k .int n vs dv) (hj : ¬ j < 0 ∧ j < n) (i : Nat) (hi : j.toNatClampNeg = i) (hl : i < vs.length) {x : Int32} {g : JFrame} (hg : g.method = m) (hs : g.stack = .int x :: .int j :: .ref a :: rest) (hd : decode c.code g.pc = .ok (.iastore, 1)) :
    ∃ T' h', Stand p l e R s m args below meth c T' (locs ++ [⟨a, j.toNatClampNeg⟩]) cells slots ∧ T'.heap = h' ∧ Wr h h' a j.toNatClampNeg (.int x) ∧ Arv Z h' a k .int n (vs.set i (.int x)) dv ∧ ∀ t, Steps p.tables e below (T'.setTop { g with pc := g.pc + 1, stack := rest }) t → Steps p.tables e below (T.setTop g) t := by
  obtain ⟨cl, A, q1, S, q3, H, G⟩ := F
  obtain ⟨T', h', X', e', W, st⟩ := stI X hx hZ eT A (inb_of S hj) hg hs hd
  exact ⟨T', h', X', e', W, Arv.set A q1 S q3 H G rfl W i hi hl, st⟩
theorem own_stJ (X : Stand p l e R s m args below meth c T locs cells slots) (hx : p.tables.exec = Jvm.exec) (hZ : Z.Warmed39 s.vm) (eT : T.heap = h) (F : Arv Z h a k .long n vs dv) (hj : ¬ j < 0 ∧ j < n) (i : Nat) (hi : j.toNatClampNeg = i) (hl : i < vs.length) {x : Int64} {g : JFrame} (hg : g.method = m) (hs : g.stack = .long x :: .int j :: .ref a :: rest) (hd : decode c.code g.pc = .ok (.lastore, 1)) :
    ∃ T' h', Stand p l e R s m args below meth c T' (locs ++ [⟨a, j.toNatClampNeg⟩]) cells slots ∧ T'.heap = h' ∧ Wr h h' a j.toNatClampNeg (.long x) ∧ Arv Z h' a k .long n (vs.set i (.long x)) dv ∧ ∀ t, Steps p.tables e below (T'.setTop { g with pc := g.pc + 1, stack := rest }) t → Steps p.tables e below (T.setTop g) t := by
  obtain ⟨cl, A, q1, S, q3, H, G⟩ := F
  obtain ⟨T', h', X', e', W, st⟩ := stJ X hx hZ eT A (inb_of S hj) hg hs hd
  exact ⟨T', h', X', e', W, Arv.set A q1 S q3 H G rfl W i hi hl, st⟩
theorem own_stR {C : String} {y : Value} (X : Stand p l e R s m args below meth c T locs cells slots) (hx : p.tables.exec = Jvm.exec) (hZ : Z.Warmed39 s.vm) (eT : T.heap = h) (F : Arv Z h a k ty n vs dv) (ht : ty.isReference = true) (hf : fits ty y = true) (O : y = .null ∨ ∃ b, y = .ref b ∧ Ovr Z k C ∧ Ins Z h b C true) (hj : ¬ j < 0 ∧ j < n) (i : Nat) (hi : j.toNatClampNeg = i) (hl : i < vs.length) {g : JFrame} (hg : g.method = m) (hs : g.stack = y :: .int j :: .ref a :: rest) (hd : decode c.code g.pc = .ok (.aastore, 1)) :
    ∃ T' h', Stand p l e R s m args below meth c T' (locs ++ [⟨a, j.toNatClampNeg⟩]) cells slots ∧ T'.heap = h' ∧ Wr h h' a j.toNatClampNeg y ∧ Arv Z h' a k ty n (vs.set i y) dv ∧ ∀ t, Steps p.tables e below (T'.setTop { g with pc := g.pc + 1, stack := rest }) t → Steps p.tables e below (T.setTop g) t := by
  obtain ⟨cl, A, q1, S, q3, H, G⟩ := F
  obtain ⟨T', h', X', e', W, st⟩ := stR X hx hZ eT A (inb_of S hj) ht (by rcases O with rfl | ⟨b, rfl, O, I⟩; exact Or.inl rfl; exact Sto.ofV A q1 O I) hg hs hd
  exact ⟨T', h', X', e', W, Arv.set A q1 S q3 H G hf W i hi hl, st⟩
end OwnKit
def own_M (Z : State) (va x0 x1 x2 x3 : Addr) (vc : Cell) : Prop := Sta Z Z.heap "com/example/electd/electd/model/MessageKind" "$VALUES" "[Lcom/example/electd/electd/model/MessageKind;" (.ref va) ∧ Arr Z Z.heap va vc (.object "com/example/electd/electd/model/MessageKind") ∧ Exa Z Z.heap va "[Lcom/example/electd/electd/model/MessageKind;" ∧ vc.slots.size = 4 ∧ FitC Z vc ∧ (Sta Z Z.heap "com/example/electd/electd/model/MessageKind" "REQUEST" "Lcom/example/electd/electd/model/MessageKind;" (.ref x0) ∧ Exa Z Z.heap x0 "com/example/electd/electd/model/MessageKind" ∧ Fld Z Z.heap x0 "java/lang/Enum" "ordinal" "I" (.int (0 : Int32))) ∧ (Sta Z Z.heap "com/example/electd/electd/model/MessageKind" "REPLY" "Lcom/example/electd/electd/model/MessageKind;" (.ref x1) ∧ Exa Z Z.heap x1 "com/example/electd/electd/model/MessageKind" ∧ Fld Z Z.heap x1 "java/lang/Enum" "ordinal" "I" (.int (1 : Int32))) ∧ (Sta Z Z.heap "com/example/electd/electd/model/MessageKind" "RELEASE" "Lcom/example/electd/electd/model/MessageKind;" (.ref x2) ∧ Exa Z Z.heap x2 "com/example/electd/electd/model/MessageKind" ∧ Fld Z Z.heap x2 "java/lang/Enum" "ordinal" "I" (.int (2 : Int32))) ∧ (Sta Z Z.heap "com/example/electd/electd/model/MessageKind" "HELLO" "Lcom/example/electd/electd/model/MessageKind;" (.ref x3) ∧ Exa Z Z.heap x3 "com/example/electd/electd/model/MessageKind" ∧ Fld Z Z.heap x3 "java/lang/Enum" "ordinal" "I" (.int (3 : Int32)))
def own_J (Z : State) (va x0 x1 x2 x3 : Addr) (vc : Cell) : Prop := Sta Z Z.heap "com/example/electd/electd/io/Rejection" "$VALUES" "[Lcom/example/electd/electd/io/Rejection;" (.ref va) ∧ Arr Z Z.heap va vc (.object "com/example/electd/electd/io/Rejection") ∧ Exa Z Z.heap va "[Lcom/example/electd/electd/io/Rejection;" ∧ vc.slots.size = 4 ∧ FitC Z vc ∧ (Sta Z Z.heap "com/example/electd/electd/io/Rejection" "MALFORMED" "Lcom/example/electd/electd/io/Rejection;" (.ref x0) ∧ Exa Z Z.heap x0 "com/example/electd/electd/io/Rejection" ∧ Fld Z Z.heap x0 "java/lang/Enum" "ordinal" "I" (.int (0 : Int32))) ∧ (Sta Z Z.heap "com/example/electd/electd/io/Rejection" "BAD_TAG" "Lcom/example/electd/electd/io/Rejection;" (.ref x1) ∧ Exa Z Z.heap x1 "com/example/electd/electd/io/Rejection" ∧ Fld Z Z.heap x1 "java/lang/Enum" "ordinal" "I" (.int (1 : Int32))) ∧ (Sta Z Z.heap "com/example/electd/electd/io/Rejection" "UNCONFIRMED" "Lcom/example/electd/electd/io/Rejection;" (.ref x2) ∧ Exa Z Z.heap x2 "com/example/electd/electd/io/Rejection" ∧ Fld Z Z.heap x2 "java/lang/Enum" "ordinal" "I" (.int (2 : Int32))) ∧ (Sta Z Z.heap "com/example/electd/electd/io/Rejection" "REPLAYED" "Lcom/example/electd/electd/io/Rejection;" (.ref x3) ∧ Exa Z Z.heap x3 "com/example/electd/electd/io/Rejection" ∧ Fld Z Z.heap x3 "java/lang/Enum" "ordinal" "I" (.int (3 : Int32)))
theorem own_four (y : Int32) (h : ¬ y < (0 : Int32) ∧ y < (4 : Int32)) : y = 0 ∨ y = 1 ∨ y = 2 ∨ y = 3 := by
  obtain ⟨h1, h2⟩ := h
  rw [Int32.lt_iff_toInt_lt] at h1 h2
  have e0 : (0 : Int32).toInt = 0 := rfl
  have e4 : (4 : Int32).toInt = 4 := rfl
  have q : y.toInt = 0 ∨ y.toInt = 1 ∨ y.toInt = 2 ∨ y.toInt = 3 := by omega
  rcases q with q | q | q | q
  · exact Or.inl (Int32.toInt_inj.mp q)
  · exact Or.inr (Or.inl (Int32.toInt_inj.mp q))
  · exact Or.inr (Or.inr (Or.inl (Int32.toInt_inj.mp q)))
  · exact Or.inr (Or.inr (Or.inr (Int32.toInt_inj.mp q)))
theorem own_rng (x : Int32) : ¬ (x &&& (3 : Int32)) < (0 : Int32) ∧ (x &&& (3 : Int32)) < (4 : Int32) := by
  have q := c_and x (3 : Int32) (by decide)
  have e0 : (0 : Int32).toInt = 0 := rfl
  have e3 : (3 : Int32).toInt = 3 := rfl
  have e4 : (4 : Int32).toInt = 4 := rfl
  rw [Int32.lt_iff_toInt_lt, Int32.lt_iff_toInt_lt]
  omega
def own_hit (i o : Int32) : Int64 := if o = i then 1 else 0
theorem own_at (c0 c1 c2 c3 : Int64) (o : Int32) (h : ¬ o < (0 : Int32) ∧ o < (4 : Int32)) : ([.long c0, .long c1, .long c2, .long c3] : List Value).getD o.toNatClampNeg (.long (0 : Int64)) = .long (if o = (0 : Int32) then c0 else if o = (1 : Int32) then c1 else if o = (2 : Int32) then c2 else c3) := by
  rcases own_four o h with rfl | rfl | rfl | rfl <;> rfl
theorem own_size {Z : State} {a0 : Array Value} {t : Term} {va : Addr} {vc : Cell} {ty : FieldType} (ec : t.eval a0 Z none [] Z = some (.ref va)) (A : Arr Z Z.heap va vc ty) (w : (Jvm.Cond.eq (.length t) (.int (4 : Int32))).value a0 Z none Z [] = some true) : vc.slots.size = 4 := by
  have el := eqv_i (Term.int_eval 4) w
  have ha := A.fin (Vm.Alike.refl _)
  have hl : vc.slots.size < 2 ^ 31 := by
    by_cases q : vc.slots.size < 2 ^ 31
    · exact q
    · simp [Term.eval, ec, ha] at el; omega
  have el2 := len_f ec ha hl
  have es : vc.slots.size.toInt32 = (4 : Int32) := by
    have := el2.symm.trans el
    simpa using this
  have e := len_toInt hl
  rw [es] at e
  have e4 : (4 : Int32).toInt = 4 := rfl
  omega
theorem own_con {Z : State} {a0 : Array Value} {K c d : String} {i : Int32} (wi : (Jvm.Cond.initialized K).before a0 Z = true) (wl : (Jvm.Cond.laysStatic K c d).before a0 Z = true) (we : (Jvm.Cond.exactly (.static K c d) K).value a0 Z none Z [] = some true) (wo : (Jvm.Cond.eq (.field (.static K c d) "java/lang/Enum" "ordinal" "I") (.int i)).value a0 Z none Z [] = some true) :
    ∃ x : Addr, Sta Z Z.heap K c d (.ref x) ∧ Exa Z Z.heap x K ∧ Fld Z Z.heap x "java/lang/Enum" "ordinal" "I" (.int i) := by
  obtain ⟨x, ex⟩ := exa_v we
  exact ⟨x, Sta.start ex (Or.inr ⟨wi, wl⟩), Exa.start ex we, Fld.start ((fld_at ex).symm.trans (eqv_i (Term.int_eval i) wo))⟩
theorem d3_0 : decode prog_16_method_1_code 0 = .ok (.getstatic 16, 3) := by decide +kernel
theorem d3_3 : decode prog_16_method_1_code 3 = .ok (.invokevirtual 20, 3) := by decide +kernel
theorem d3_6 : decode prog_16_method_1_code 6 = .ok (.checkcast 21, 3) := by decide +kernel
theorem d3_9 : decode prog_16_method_1_code 9 = .ok (.areturn, 1) := by decide +kernel
theorem pn_0 : plainName "com/example/electd/electd/model/MessageKind" = true := by first | (simp [plainName, overriddenIn]; done) | decide +kernel
def rmVMQ (Z : State) (vaM : Addr) (xM0 : Addr) (xM1 : Addr) (xM2 : Addr) (xM3 : Addr) (vcM : Cell) (h0 : Heap) (n0 : Nat) (v : Option Value) (h : Heap) (L : List Loc) : Prop := ∃ (b : Addr) (cb : Cell), v = some (.ref b) ∧ Fr n0 L ∧ Keep h0 h [] ∧ h0.size ≤ b ∧ Arr Z h b cb (.object "com/example/electd/electd/model/MessageKind") ∧ cb.slots.size = 4
set_option maxRecDepth 65536 in
set_option maxHeartbeats 40000000 in
theorem rmVM (l : Launch) (Z : State) (a0 : Array Value) (hw : ∀ d ∈ tables_1, d.before a0 Z = true) (vaM : Addr) (xM0 : Addr) (xM1 : Addr) (xM2 : Addr) (xM3 : Addr) (vcM : Cell) (h0 : Heap) (n0 : Nat) (Z0 : n0 ≤ h0.size) (O : Old Z n0 h0) (EM : own_M Z vaM xM0 xM1 xM2 xM3 vcM) :
    Ct l Z [] (⟨"com/example/electd/electd/model/MessageKind", "values", "()[Lcom/example/electd/electd/model/MessageKind;"⟩ : MethodName) prog_16_method_1_code 0 (some (.array (.object "com/example/electd/electd/model/MessageKind"))) ({ frames := 1, cells := 1, slots := 4, locals := 14 } : Room) #[] h0 (rmVMQ Z vaM xM0 xM1 xM2 xM3 vcM h0 n0) := by
  refine own_enter (plainFor_of_name pn_0) ?_
  intro p e s m below meth c T0 X0 hx hby hml hZ hown hnm hret hlk e0
  have hown : s.vm.findClass "com/example/electd/electd/model/MessageKind" = some m.cls := hown
  have N0 := Fr.nil n0
  have K0 := Keep.refl h0 []
  refine own_st (fun wt wk => castTop (g' := mkF m 0 #[] []) (by first | (simp [entryFrame, mkF, argsToLocals, Value.category]; done) | rfl) wk) ?_
  show Fin1 p e below s (rmVMQ Z vaM xM0 xM1 xM2 xM3 vcM h0 n0) ({ frames := 1, cells := 1, slots := 4, locals := 14 } : Room).cells ({ frames := 1, cells := 1, slots := 4, locals := 14 } : Room).slots (T0.setTop (mkF m 0 #[] []))
  obtain ⟨SMv, AMv, XMv, zMv, FMv, ⟨SM0, QM0, OM0⟩, ⟨SM1, QM1, OM1⟩, ⟨SM2, QM2, OM2⟩, ⟨SM3, QM3, OM3⟩⟩ := EM
  obtain ⟨T1, X1, e1, st1⟩ := getS2 X0 hx hZ hown (host := "") (Or.inl (hw _ (List.mem_of_getElem? (i := 36) rfl))) Via.refl e0 (SMv.ext O.2) (g := (mkF m 0 #[] [])) rfl (hb hby d3_0)
  refine own_st st1 ?_
  show Fin1 p e below s (rmVMQ Z vaM xM0 xM1 xM2 xM3 vcM h0 n0) ({ frames := 1, cells := 1, slots := 4, locals := 14 } : Room).cells ({ frames := 1, cells := 1, slots := 4, locals := 14 } : Room).slots (T1.setTop (mkF m 3 #[] [(.ref vaM)]))
  obtain ⟨T2, h2, X2, e2, E2, A2, Y2, st2⟩ := cloneA X1 hx hZ hown (hw _ (List.mem_of_getElem? (i := 38) rfl)) (hw _ (List.mem_of_getElem? (i := 39) rfl)) (hw _ (List.mem_of_getElem? (i := 43) rfl)) (hw _ (List.mem_of_getElem? (i := 41) rfl)) (hw _ (List.mem_of_getElem? (i := 42) rfl)) (hw _ (List.mem_of_getElem? (i := 44) rfl)) e1 (AMv.ext O.2) (XMv.ext O.2) FMv (g := (mkF m 3 #[] [(.ref vaM)])) rfl (by rw [hml]; rfl) rfl (hb hby d3_3) (by decide) (W := 0) (by show 2 * 0 + _ ≤ _; exact Nat.le_of_eq rfl) (by decide) (cap := 4) (Nat.le_of_eq zMv) (by decide) (by decide)
  obtain ⟨b, gz⟩ : ∃ z, z = h0.size := ⟨_, rfl⟩
  rw [← gz] at A2 Y2 st2
  have Z0 := Nat.le_trans Z0 E2.1
  have K0 := K0.ext E2
  refine own_st st2 ?_
  show Fin1 p e below s (rmVMQ Z vaM xM0 xM1 xM2 xM3 vcM h0 n0) ({ frames := 1, cells := 1, slots := 4, locals := 14 } : Room).cells ({ frames := 1, cells := 1, slots := 4, locals := 14 } : Room).slots (T2.setTop (mkF m 6 #[] [(.ref b)]))
  obtain ⟨T3, X3, e3, st3⟩ := castY X2 hx hZ hown (hw _ (List.mem_of_getElem? (i := 46) rfl)) e2 (Ins.self Y2) (g := (mkF m 6 #[] [(.ref b)])) rfl rfl (hb hby d3_6)
  refine own_st st3 ?_
  show Fin1 p e below s (rmVMQ Z vaM xM0 xM1 xM2 xM3 vcM h0 n0) ({ frames := 1, cells := 1, slots := 4, locals := 14 } : Room).cells ({ frames := 1, cells := 1, slots := 4, locals := 14 } : Room).slots (T3.setTop (mkF m 9 #[] [(.ref b)]))
  exact own_retA X3 hx hlk hret rfl rfl (hb hby d3_9) (by rw [e3]; exact ⟨b, _, rfl, N0, K0, Nat.le_of_eq gz.symm, A2, zMv⟩) (by decide) (by decide)
theorem d4_0 : decode prog_4_method_1_code 0 = .ok (.getstatic 16, 3) := by decide +kernel
theorem d4_3 : decode prog_4_method_1_code 3 = .ok (.invokevirtual 20, 3) := by decide +kernel
theorem d4_6 : decode prog_4_method_1_code 6 = .ok (.checkcast 21, 3) := by decide +kernel
theorem d4_9 : decode prog_4_method_1_code 9 = .ok (.areturn, 1) := by decide +kernel
theorem pn_1 : plainName "com/example/electd/electd/io/Rejection" = true := by first | (simp [plainName, overriddenIn]; done) | decide +kernel
def rmVJQ (Z : State) (vaJ : Addr) (xJ0 : Addr) (xJ1 : Addr) (xJ2 : Addr) (xJ3 : Addr) (vcJ : Cell) (h0 : Heap) (n0 : Nat) (v : Option Value) (h : Heap) (L : List Loc) : Prop := ∃ (b : Addr) (cb : Cell), v = some (.ref b) ∧ Fr n0 L ∧ Keep h0 h [] ∧ h0.size ≤ b ∧ Arr Z h b cb (.object "com/example/electd/electd/io/Rejection") ∧ cb.slots.size = 4
set_option maxRecDepth 65536 in
set_option maxHeartbeats 40000000 in
theorem rmVJ (l : Launch) (Z : State) (a0 : Array Value) (hw : ∀ d ∈ tables_1, d.before a0 Z = true) (vaJ : Addr) (xJ0 : Addr) (xJ1 : Addr) (xJ2 : Addr) (xJ3 : Addr) (vcJ : Cell) (h0 : Heap) (n0 : Nat) (Z0 : n0 ≤ h0.size) (O : Old Z n0 h0) (EJ : own_J Z vaJ xJ0 xJ1 xJ2 xJ3 vcJ) :
    Ct l Z [] (⟨"com/example/electd/electd/io/Rejection", "values", "()[Lcom/example/electd/electd/io/Rejection;"⟩ : MethodName) prog_4_method_1_code 0 (some (.array (.object "com/example/electd/electd/io/Rejection"))) ({ frames := 1, cells := 1, slots := 4, locals := 14 } : Room) #[] h0 (rmVJQ Z vaJ xJ0 xJ1 xJ2 xJ3 vcJ h0 n0) := by
  refine own_enter (plainFor_of_name pn_1) ?_
  intro p e s m below meth c T0 X0 hx hby hml hZ hown hnm hret hlk e0
  have hown : s.vm.findClass "com/example/electd/electd/io/Rejection" = some m.cls := hown
  have N0 := Fr.nil n0
  have K0 := Keep.refl h0 []
  refine own_st (fun wt wk => castTop (g' := mkF m 0 #[] []) (by first | (simp [entryFrame, mkF, argsToLocals, Value.category]; done) | rfl) wk) ?_
  show Fin1 p e below s (rmVJQ Z vaJ xJ0 xJ1 xJ2 xJ3 vcJ h0 n0) ({ frames := 1, cells := 1, slots := 4, locals := 14 } : Room).cells ({ frames := 1, cells := 1, slots := 4, locals := 14 } : Room).slots (T0.setTop (mkF m 0 #[] []))
  obtain ⟨SJv, AJv, XJv, zJv, FJv, ⟨SJ0, QJ0, OJ0⟩, ⟨SJ1, QJ1, OJ1⟩, ⟨SJ2, QJ2, OJ2⟩, ⟨SJ3, QJ3, OJ3⟩⟩ := EJ
  obtain ⟨T1, X1, e1, st1⟩ := getS2 X0 hx hZ hown (host := "") (Or.inl (hw _ (List.mem_of_getElem? (i := 56) rfl))) Via.refl e0 (SJv.ext O.2) (g := (mkF m 0 #[] [])) rfl (hb hby d4_0)
  refine own_st st1 ?_
  show Fin1 p e below s (rmVJQ Z vaJ xJ0 xJ1 xJ2 xJ3 vcJ h0 n0) ({ frames := 1, cells := 1, slots := 4, locals := 14 } : Room).cells ({ frames := 1, cells := 1, slots := 4, locals := 14 } : Room).slots (T1.setTop (mkF m 3 #[] [(.ref vaJ)]))
  obtain ⟨T2, h2, X2, e2, E2, A2, Y2, st2⟩ := cloneA X1 hx hZ hown (hw _ (List.mem_of_getElem? (i := 58) rfl)) (hw _ (List.mem_of_getElem? (i := 59) rfl)) (hw _ (List.mem_of_getElem? (i := 43) rfl)) (hw _ (List.mem_of_getElem? (i := 41) rfl)) (hw _ (List.mem_of_getElem? (i := 60) rfl)) (hw _ (List.mem_of_getElem? (i := 61) rfl)) e1 (AJv.ext O.2) (XJv.ext O.2) FJv (g := (mkF m 3 #[] [(.ref vaJ)])) rfl (by rw [hml]; rfl) rfl (hb hby d4_3) (by decide) (W := 0) (by show 2 * 0 + _ ≤ _; exact Nat.le_of_eq rfl) (by decide) (cap := 4) (Nat.le_of_eq zJv) (by decide) (by decide)
  obtain ⟨b, gz⟩ : ∃ z, z = h0.size := ⟨_, rfl⟩
  rw [← gz] at A2 Y2 st2
  have Z0 := Nat.le_trans Z0 E2.1
  have K0 := K0.ext E2
  refine own_st st2 ?_
  show Fin1 p e below s (rmVJQ Z vaJ xJ0 xJ1 xJ2 xJ3 vcJ h0 n0) ({ frames := 1, cells := 1, slots := 4, locals := 14 } : Room).cells ({ frames := 1, cells := 1, slots := 4, locals := 14 } : Room).slots (T2.setTop (mkF m 6 #[] [(.ref b)]))
  obtain ⟨T3, X3, e3, st3⟩ := castY X2 hx hZ hown (hw _ (List.mem_of_getElem? (i := 63) rfl)) e2 (Ins.self Y2) (g := (mkF m 6 #[] [(.ref b)])) rfl rfl (hb hby d4_6)
  refine own_st st3 ?_
  show Fin1 p e below s (rmVJQ Z vaJ xJ0 xJ1 xJ2 xJ3 vcJ h0 n0) ({ frames := 1, cells := 1, slots := 4, locals := 14 } : Room).cells ({ frames := 1, cells := 1, slots := 4, locals := 14 } : Room).slots (T3.setTop (mkF m 9 #[] [(.ref b)]))
  exact own_retA X3 hx hlk hret rfl rfl (hb hby d4_9) (by rw [e3]; exact ⟨b, _, rfl, N0, K0, Nat.le_of_eq gz.symm, A2, zJv⟩) (by decide) (by decide)
theorem d6_0 : decode jdk_37_method_2_code 0 = .ok (.aload_n 0, 1) := by decide +kernel
theorem d6_1 : decode jdk_37_method_2_code 1 = .ok (.getfield 7, 3) := by decide +kernel
theorem d6_4 : decode jdk_37_method_2_code 4 = .ok (.ireturn, 1) := by decide +kernel
theorem pn_2 : plainName "java/lang/Enum" = true := by first | (simp [plainName, overriddenIn]; done) | decide +kernel
def rmOrdQ (Z : State) (a1 : Addr) (o : Int32) (h0 : Heap) (n0 : Nat) (v : Option Value) (h : Heap) (L : List Loc) : Prop := v = some (.int o) ∧ Fr n0 L ∧ h = h0
set_option maxRecDepth 65536 in
set_option maxHeartbeats 40000000 in
theorem rmOrd (l : Launch) (Z : State) (a0 : Array Value) (hw : ∀ d ∈ tables_1, d.before a0 Z = true) (a1 : Addr) (o : Int32) (h0 : Heap) (n0 : Nat) (Z0 : n0 ≤ h0.size) (Fo : Fld Z h0 a1 "java/lang/Enum" "ordinal" "I" (.int o)) :
    Ct l Z [] (⟨"java/lang/Enum", "ordinal", "()I"⟩ : MethodName) jdk_37_method_2_code 1 (some .int) ({ frames := 0, cells := 0, slots := 0, locals := 0 } : Room) #[(.ref a1)] h0 (rmOrdQ Z a1 o h0 n0) := by
  refine own_enter (plainFor_of_name pn_2) ?_
  intro p e s m below meth c T0 X0 hx hby hml hZ hown hnm hret hlk e0
  have hown : s.vm.findClass "java/lang/Enum" = some m.cls := hown
  have N0 := Fr.nil n0
  have K0 := Keep.refl h0 []
  refine own_st (fun wt wk => castTop (g' := mkF m 0 #[.val (.ref a1)] []) (by first | (simp [entryFrame, mkF, argsToLocals, Value.category]; done) | rfl) wk) ?_
  show Fin1 p e below s (rmOrdQ Z a1 o h0 n0) ({ frames := 0, cells := 0, slots := 0, locals := 0 } : Room).cells ({ frames := 0, cells := 0, slots := 0, locals := 0 } : Room).slots (T0.setTop (mkF m 0 #[.val (.ref a1)] []))
  refine own_st (fun wt wk => XS.aloadN X0.here hx rfl (hb hby d6_0) rfl rfl wk) ?_
  show Fin1 p e below s (rmOrdQ Z a1 o h0 n0) ({ frames := 0, cells := 0, slots := 0, locals := 0 } : Room).cells ({ frames := 0, cells := 0, slots := 0, locals := 0 } : Room).slots (T0.setTop (mkF m 1 #[.val (.ref a1)] [(.ref a1)]))
  obtain ⟨T1, X1, e1, st1⟩ := getF X0 hx hZ hown (host := "") (Or.inl (hw _ (List.mem_of_getElem? (i := 79) rfl))) Via.refl e0 Fo (g := (mkF m 1 #[.val (.ref a1)] [(.ref a1)])) rfl rfl (hb hby d6_1)
  refine own_st st1 ?_
  show Fin1 p e below s (rmOrdQ Z a1 o h0 n0) ({ frames := 0, cells := 0, slots := 0, locals := 0 } : Room).cells ({ frames := 0, cells := 0, slots := 0, locals := 0 } : Room).slots (T1.setTop (mkF m 4 #[.val (.ref a1)] [(.int o)]))
  exact own_retI X1 hx hlk hret (hb hby d6_4) (by rw [e1]; exact ⟨rfl, N0, rfl⟩) (by decide) (by decide)
theorem d1_0 : decode prog_25_method_1_code 0 = .ok (.aload_n 0, 1) := by decide +kernel
theorem d1_1 : decode prog_25_method_1_code 1 = .ok (.invokespecial 1, 3) := by decide +kernel
theorem d1_4 : decode prog_25_method_1_code 4 = .ok (.aload_n 0, 1) := by decide +kernel
theorem d1_5 : decode prog_25_method_1_code 5 = .ok (.invokestatic 7, 3) := by decide +kernel
theorem d1_8 : decode prog_25_method_1_code 8 = .ok (.arraylength, 1) := by decide +kernel
theorem d1_9 : decode prog_25_method_1_code 9 = .ok (.newarray .long, 2) := by decide +kernel
theorem d1_11 : decode prog_25_method_1_code 11 = .ok (.putfield 13, 3) := by decide +kernel
theorem d1_14 : decode prog_25_method_1_code 14 = .ok (.aload_n 0, 1) := by decide +kernel
theorem d1_15 : decode prog_25_method_1_code 15 = .ok (.invokestatic 7, 3) := by decide +kernel
theorem d1_18 : decode prog_25_method_1_code 18 = .ok (.arraylength, 1) := by decide +kernel
theorem d1_19 : decode prog_25_method_1_code 19 = .ok (.newarray .long, 2) := by decide +kernel
theorem d1_21 : decode prog_25_method_1_code 21 = .ok (.putfield 19, 3) := by decide +kernel
theorem d1_24 : decode prog_25_method_1_code 24 = .ok (.aload_n 0, 1) := by decide +kernel
theorem d1_25 : decode prog_25_method_1_code 25 = .ok (.invokestatic 22, 3) := by decide +kernel
theorem d1_28 : decode prog_25_method_1_code 28 = .ok (.arraylength, 1) := by decide +kernel
theorem d1_29 : decode prog_25_method_1_code 29 = .ok (.newarray .long, 2) := by decide +kernel
theorem d1_31 : decode prog_25_method_1_code 31 = .ok (.putfield 27, 3) := by decide +kernel
theorem d1_34 : decode prog_25_method_1_code 34 = .ok (.return_, 1) := by decide +kernel
theorem pn_3 : plainName "com/example/electd/electd/service/DatagramCounts" = true := by first | (simp [plainName, overriddenIn]; done) | decide +kernel
theorem pd_4 : parseMethodDescriptor "()[Lcom/example/electd/electd/model/MessageKind;" = some ⟨[], some (.array (.object "com/example/electd/electd/model/MessageKind"))⟩ := by decide +kernel
theorem pd_5 : parseMethodDescriptor "()[Lcom/example/electd/electd/io/Rejection;" = some ⟨[], some (.array (.object "com/example/electd/electd/io/Rejection"))⟩ := by decide +kernel
def rmCQ (Z : State) (a1 : Addr) (vaM : Addr) (xM0 : Addr) (xM1 : Addr) (xM2 : Addr) (xM3 : Addr) (vcM : Cell) (vaJ : Addr) (xJ0 : Addr) (xJ1 : Addr) (xJ2 : Addr) (xJ3 : Addr) (vcJ : Cell) (h0 : Heap) (n0 : Nat) (v : Option Value) (h : Heap) (L : List Loc) : Prop := v = none ∧ Fr n0 L ∧ ∃ (t0 t1 t2 : Addr) (k0 k1 k2 : ClassId), Keep h0 h [a1] ∧ (h0.size ≤ t0 ∧ h0.size ≤ t1 ∧ h0.size ≤ t2) ∧ (t0 ≠ t1 ∧ t0 ≠ t2 ∧ t1 ≠ t2) ∧ Fld Z h a1 "com/example/electd/electd/service/DatagramCounts" "sent" "[J" (.ref t0) ∧ Fld Z h a1 "com/example/electd/electd/service/DatagramCounts" "received" "[J" (.ref t1) ∧ Fld Z h a1 "com/example/electd/electd/service/DatagramCounts" "rejected" "[J" (.ref t2) ∧ Arv Z h t0 k0 .long (4 : Int32) [(.long (0 : Int64)), (.long (0 : Int64)), (.long (0 : Int64)), (.long (0 : Int64))] (.long (0 : Int64)) ∧ Arv Z h t1 k1 .long (4 : Int32) [(.long (0 : Int64)), (.long (0 : Int64)), (.long (0 : Int64)), (.long (0 : Int64))] (.long (0 : Int64)) ∧ Arv Z h t2 k2 .long (4 : Int32) [(.long (0 : Int64)), (.long (0 : Int64)), (.long (0 : Int64)), (.long (0 : Int64))] (.long (0 : Int64))
set_option maxRecDepth 65536 in
set_option maxHeartbeats 40000000 in
theorem rmC (l : Launch) (Z : State) (a0 : Array Value) (hw : ∀ d ∈ tables_1, d.before a0 Z = true) (a1 : Addr) (vaM : Addr) (xM0 : Addr) (xM1 : Addr) (xM2 : Addr) (xM3 : Addr) (vcM : Cell) (vaJ : Addr) (xJ0 : Addr) (xJ1 : Addr) (xJ2 : Addr) (xJ3 : Addr) (vcJ : Cell) (h0 : Heap) (n0 : Nat) (Z0 : n0 ≤ h0.size) (g_a1 : n0 ≤ a1) (E_a1 : Exa Z h0 a1 "com/example/electd/electd/service/DatagramCounts") (F0 : Fld Z h0 a1 "com/example/electd/electd/service/DatagramCounts" "sent" "[J" .null) (F1 : Fld Z h0 a1 "com/example/electd/electd/service/DatagramCounts" "received" "[J" .null) (F2 : Fld Z h0 a1 "com/example/electd/electd/service/DatagramCounts" "rejected" "[J" .null) (O : Old Z n0 h0) (EM : own_M Z vaM xM0 xM1 xM2 xM3 vcM) (EJ : own_J Z vaJ xJ0 xJ1 xJ2 xJ3 vcJ) :
    Ct l Z [] (⟨"com/example/electd/electd/service/DatagramCounts", "<init>", "()V"⟩ : MethodName) prog_25_method_1_code 1 none ({ frames := 2, cells := 6, slots := 24, locals := 26 } : Room) #[(.ref a1)] h0 (rmCQ Z a1 vaM xM0 xM1 xM2 xM3 vcM vaJ xJ0 xJ1 xJ2 xJ3 vcJ h0 n0) := by
  refine own_enter (plainFor_of_name pn_3) ?_
  intro p e s m below meth c T0 X0 hx hby hml hZ hown hnm hret hlk e0
  have hown : s.vm.findClass "com/example/electd/electd/service/DatagramCounts" = some m.cls := hown
  have N0 := Fr.nil n0
  have K0 := Keep.refl h0 [a1]
  refine own_st (fun wt wk => castTop (g' := mkF m 0 #[.val (.ref a1)] []) (by first | (simp [entryFrame, mkF, argsToLocals, Value.category]; done) | rfl) wk) ?_
  show Fin1 p e below s (rmCQ Z a1 vaM xM0 xM1 xM2 xM3 vcM vaJ xJ0 xJ1 xJ2 xJ3 vcJ h0 n0) ({ frames := 2, cells := 6, slots := 24, locals := 26 } : Room).cells ({ frames := 2, cells := 6, slots := 24, locals := 26 } : Room).slots (T0.setTop (mkF m 0 #[.val (.ref a1)] []))
  refine own_st (fun wt wk => XS.aloadN X0.here hx rfl (hb hby d1_0) rfl rfl wk) ?_
  show Fin1 p e below s (rmCQ Z a1 vaM xM0 xM1 xM2 xM3 vcM vaJ xJ0 xJ1 xJ2 xJ3 vcJ h0 n0) ({ frames := 2, cells := 6, slots := 24, locals := 26 } : Room).cells ({ frames := 2, cells := 6, slots := 24, locals := 26 } : Room).slots (T0.setTop (mkF m 1 #[.val (.ref a1)] [(.ref a1)]))
  obtain ⟨T1, X1, e1, st1⟩ := initO X0 hx hZ hown (hw _ (List.mem_of_getElem? (i := 30) rfl)) (hw _ (List.mem_of_getElem? (i := 31) rfl)) (hw _ (List.mem_of_getElem? (i := 32) rfl)) e0 (g := (mkF m 1 #[.val (.ref a1)] [(.ref a1)])) rfl (by rw [hml]; rfl) rfl (hb hby d1_1) (by decide) (W := 0) (by show 2 * 0 + _ ≤ _; exact Nat.le_of_eq rfl) (by decide)
  refine own_st st1 ?_
  show Fin1 p e below s (rmCQ Z a1 vaM xM0 xM1 xM2 xM3 vcM vaJ xJ0 xJ1 xJ2 xJ3 vcJ h0 n0) ({ frames := 2, cells := 6, slots := 24, locals := 26 } : Room).cells ({ frames := 2, cells := 6, slots := 24, locals := 26 } : Room).slots (T1.setTop (mkF m 4 #[.val (.ref a1)] []))
  refine own_st (fun wt wk => XS.aloadN X1.here hx rfl (hb hby d1_4) rfl rfl wk) ?_
  show Fin1 p e below s (rmCQ Z a1 vaM xM0 xM1 xM2 xM3 vcM vaJ xJ0 xJ1 xJ2 xJ3 vcJ h0 n0) ({ frames := 2, cells := 6, slots := 24, locals := 26 } : Room).cells ({ frames := 2, cells := 6, slots := 24, locals := 26 } : Room).slots (T1.setTop (mkF m 5 #[.val (.ref a1)] [(.ref a1)]))
  obtain ⟨v2, T2, h2, L2, X2, e2, hQ2, st2⟩ := own_static X1 hx hZ hown (hw _ (List.mem_of_getElem? (i := 33) rfl)) (hw _ (List.mem_of_getElem? (i := 34) rfl)) (hw _ (List.mem_of_getElem? (i := 15) rfl)) (hw _ (List.mem_of_getElem? (i := 35) rfl)) (by decide) (rmVM l Z a0 hw vaM xM0 xM1 xM2 xM3 vcM h0 n0 Z0 O EM) e1 (g := (mkF m 5 #[.val (.ref a1)] [(.ref a1)])) rfl (by rw [hml]; rfl) (argsL := []) (rest := [(.ref a1)]) (lenOf pd_4 rfl) rfl (W := 1) (by show 2 * 0 + _ ≤ _; exact Nat.le_of_eq rfl) (hb hby d1_5) (by decide) (by decide) (by decide) (by decide)
  obtain ⟨bv0, cv0, rfl, N2q, K2, sv0, Av0, zv0⟩ := hQ2
  have N2 := Fr.app N0 N2q
  have Z0 := Nat.le_trans Z0 K2.1
  have K0 := K0.trans K2 all0
  have E_a1 := E_a1.keep K2
  have O := O.keep K2 all0
  have F0 := F0.keep K2 nin0
  have F1 := F1.keep K2 nin0
  have F2 := F2.keep K2 nin0
  refine own_st st2 ?_
  show Fin1 p e below s (rmCQ Z a1 vaM xM0 xM1 xM2 xM3 vcM vaJ xJ0 xJ1 xJ2 xJ3 vcJ h0 n0) ({ frames := 2, cells := 6, slots := 24, locals := 26 } : Room).cells ({ frames := 2, cells := 6, slots := 24, locals := 26 } : Room).slots (T2.setTop (mkF m 8 #[.val (.ref a1)] [(.ref bv0), (.ref a1)]))
  refine own_st (own_lenA (n := (4 : Int32)) X2 hx hZ e2 Av0 (by rw [zv0]; rfl) (g := (mkF m 8 #[.val (.ref a1)] [(.ref bv0), (.ref a1)])) rfl rfl (hb hby d1_8)) ?_
  show Fin1 p e below s (rmCQ Z a1 vaM xM0 xM1 xM2 xM3 vcM vaJ xJ0 xJ1 xJ2 xJ3 vcJ h0 n0) ({ frames := 2, cells := 6, slots := 24, locals := 26 } : Room).cells ({ frames := 2, cells := 6, slots := 24, locals := 26 } : Room).slots (T2.setTop (mkF m 9 #[.val (.ref a1)] [(.int (4 : Int32)), (.ref a1)]))
  obtain ⟨T3, h3, kc3, X3, e3, E3, A3, st3⟩ := newP X2 hx hZ (hw _ (List.mem_of_getElem? (i := 48) rfl)) e2 (g := (mkF m 9 #[.val (.ref a1)] [(.int (4 : Int32)), (.ref a1)])) rfl (hb hby d1_9) rfl (by decide) (cap := 4) (by decide) (by decide) (by decide) (by decide)
  obtain ⟨t0, gz_t0⟩ : ∃ z, z = h2.size := ⟨_, rfl⟩
  rw [← gz_t0] at A3 st3
  have ne_a1_t0 : a1 ≠ t0 := Nat.ne_of_lt (Nat.lt_of_lt_of_le E_a1.lt (Nat.le_of_eq gz_t0.symm))
  have sz_t0 : h0.size ≤ t0 := Nat.le_trans K0.1 (Nat.le_of_eq gz_t0.symm)
  have g_t0 : n0 ≤ t0 := Nat.le_trans Z0 (Nat.le_of_eq gz_t0.symm)
  have Z0 := Nat.le_trans Z0 E3.1
  have K0 := K0.ext E3
  have E_a1 := E_a1.ext E3
  have O := O.ext E3
  have F0 := F0.ext E3
  have F1 := F1.ext E3
  have F2 := F2.ext E3
  refine own_st st3 ?_
  have V_t0 : Arv Z h3 t0 kc3 .long (4 : Int32) [(.long (0 : Int64)), (.long (0 : Int64)), (.long (0 : Int64)), (.long (0 : Int64))] (.long (0 : Int64)) := (Arv.new A3 (by decide)).pad (pad_rep [] (.long (0 : Int64)) 4)
  show Fin1 p e below s (rmCQ Z a1 vaM xM0 xM1 xM2 xM3 vcM vaJ xJ0 xJ1 xJ2 xJ3 vcJ h0 n0) ({ frames := 2, cells := 6, slots := 24, locals := 26 } : Room).cells ({ frames := 2, cells := 6, slots := 24, locals := 26 } : Room).slots (T3.setTop (mkF m 11 #[.val (.ref a1)] [(.ref t0), (.ref a1)]))
  obtain ⟨T4, h4, X4, e4, W4, st4⟩ := putF X3 hx hZ hown (host := "") (Or.inl (hw _ (List.mem_of_getElem? (i := 49) rfl))) Via.refl e3 F0 E_a1 (Or.inr ⟨(hw _ (List.mem_of_getElem? (i := 50) rfl)), rfl, hnm⟩) (hw _ (List.mem_of_getElem? (i := 25) rfl)) (ty := (.array .long)) (by decide) rfl rfl (g := (mkF m 11 #[.val (.ref a1)] [(.ref t0), (.ref a1)])) rfl rfl (hb hby d1_11)
  refine own_st st4 ?_
  have N4 := Fr.snoc X4 N2 g_a1
  have Z0 := Nat.le_trans Z0 (Nat.le_of_eq W4.size.symm)
  have K0 := K0.wr W4 (Or.inl (List.mem_of_getElem? (i := 0) rfl))
  have E_a1 := E_a1.wr W4
  have O := O.wr W4 g_a1
  have F0 := F0.same W4
  have F1 := F1.other W4 (Or.inr (slot_ne (Or.inr (hw _ (List.mem_of_getElem? (i := 52) rfl))) (Or.inr (hw _ (List.mem_of_getElem? (i := 50) rfl))) (by decide) (t := (.array .long)) (t' := (.array .long)) (by decide) (by decide)))
  have F2 := F2.other W4 (Or.inr (slot_ne (Or.inr (hw _ (List.mem_of_getElem? (i := 66) rfl))) (Or.inr (hw _ (List.mem_of_getElem? (i := 50) rfl))) (by decide) (t := (.array .long)) (t' := (.array .long)) (by decide) (by decide)))
  have V_t0 := V_t0.other W4 (Ne.symm ne_a1_t0)
  show Fin1 p e below s (rmCQ Z a1 vaM xM0 xM1 xM2 xM3 vcM vaJ xJ0 xJ1 xJ2 xJ3 vcJ h0 n0) ({ frames := 2, cells := 6, slots := 24, locals := 26 } : Room).cells ({ frames := 2, cells := 6, slots := 24, locals := 26 } : Room).slots (T4.setTop (mkF m 14 #[.val (.ref a1)] []))
  refine own_st (fun wt wk => XS.aloadN X4.here hx rfl (hb hby d1_14) rfl rfl wk) ?_
  show Fin1 p e below s (rmCQ Z a1 vaM xM0 xM1 xM2 xM3 vcM vaJ xJ0 xJ1 xJ2 xJ3 vcJ h0 n0) ({ frames := 2, cells := 6, slots := 24, locals := 26 } : Room).cells ({ frames := 2, cells := 6, slots := 24, locals := 26 } : Room).slots (T4.setTop (mkF m 15 #[.val (.ref a1)] [(.ref a1)]))
  obtain ⟨v5, T5, h5, L5, X5, e5, hQ5, st5⟩ := own_static X4 hx hZ hown (hw _ (List.mem_of_getElem? (i := 33) rfl)) (hw _ (List.mem_of_getElem? (i := 34) rfl)) (hw _ (List.mem_of_getElem? (i := 15) rfl)) (hw _ (List.mem_of_getElem? (i := 35) rfl)) (by decide) (rmVM l Z a0 hw vaM xM0 xM1 xM2 xM3 vcM h4 n0 Z0 O EM) e4 (g := (mkF m 15 #[.val (.ref a1)] [(.ref a1)])) rfl (by rw [hml]; rfl) (argsL := []) (rest := [(.ref a1)]) (lenOf pd_4 rfl) rfl (W := 1) (by show 2 * 0 + _ ≤ _; exact Nat.le_of_eq rfl) (hb hby d1_15) (by decide) (by decide) (by decide) (by decide)
  obtain ⟨bv1, cv1, rfl, N5q, K5, sv1, Av1, zv1⟩ := hQ5
  have N5 := Fr.app N4 N5q
  have Z0 := Nat.le_trans Z0 K5.1
  have K0 := K0.trans K5 all0
  have E_a1 := E_a1.keep K5
  have O := O.keep K5 all0
  have F0 := F0.keep K5 nin0
  have F1 := F1.keep K5 nin0
  have F2 := F2.keep K5 nin0
  have V_t0 := V_t0.keep K5 nin0
  refine own_st st5 ?_
  show Fin1 p e below s (rmCQ Z a1 vaM xM0 xM1 xM2 xM3 vcM vaJ xJ0 xJ1 xJ2 xJ3 vcJ h0 n0) ({ frames := 2, cells := 6, slots := 24, locals := 26 } : Room).cells ({ frames := 2, cells := 6, slots := 24, locals := 26 } : Room).slots (T5.setTop (mkF m 18 #[.val (.ref a1)] [(.ref bv1), (.ref a1)]))
  refine own_st (own_lenA (n := (4 : Int32)) X5 hx hZ e5 Av1 (by rw [zv1]; rfl) (g := (mkF m 18 #[.val (.ref a1)] [(.ref bv1), (.ref a1)])) rfl rfl (hb hby d1_18)) ?_
  show Fin1 p e below s (rmCQ Z a1 vaM xM0 xM1 xM2 xM3 vcM vaJ xJ0 xJ1 xJ2 xJ3 vcJ h0 n0) ({ frames := 2, cells := 6, slots := 24, locals := 26 } : Room).cells ({ frames := 2, cells := 6, slots := 24, locals := 26 } : Room).slots (T5.setTop (mkF m 19 #[.val (.ref a1)] [(.int (4 : Int32)), (.ref a1)]))
  obtain ⟨T6, h6, kc6, X6, e6, E6, A6, st6⟩ := newP X5 hx hZ (hw _ (List.mem_of_getElem? (i := 48) rfl)) e5 (g := (mkF m 19 #[.val (.ref a1)] [(.int (4 : Int32)), (.ref a1)])) rfl (hb hby d1_19) rfl (by decide) (cap := 4) (by decide) (by decide) (by decide) (by decide)
  obtain ⟨t1, gz_t1⟩ : ∃ z, z = h5.size := ⟨_, rfl⟩
  rw [← gz_t1] at A6 st6
  have ne_a1_t1 : a1 ≠ t1 := Nat.ne_of_lt (Nat.lt_of_lt_of_le E_a1.lt (Nat.le_of_eq gz_t1.symm))
  have ne_t0_t1 : t0 ≠ t1 := Nat.ne_of_lt (Nat.lt_of_lt_of_le V_t0.lt (Nat.le_of_eq gz_t1.symm))
  have sz_t1 : h0.size ≤ t1 := Nat.le_trans K0.1 (Nat.le_of_eq gz_t1.symm)
  have g_t1 : n0 ≤ t1 := Nat.le_trans Z0 (Nat.le_of_eq gz_t1.symm)
  have Z0 := Nat.le_trans Z0 E6.1
  have K0 := K0.ext E6
  have E_a1 := E_a1.ext E6
  have O := O.ext E6
  have F0 := F0.ext E6
  have F1 := F1.ext E6
  have F2 := F2.ext E6
  have V_t0 := V_t0.ext E6
  refine own_st st6 ?_
  have V_t1 : Arv Z h6 t1 kc6 .long (4 : Int32) [(.long (0 : Int64)), (.long (0 : Int64)), (.long (0 : Int64)), (.long (0 : Int64))] (.long (0 : Int64)) := (Arv.new A6 (by decide)).pad (pad_rep [] (.long (0 : Int64)) 4)
  show Fin1 p e below s (rmCQ Z a1 vaM xM0 xM1 xM2 xM3 vcM vaJ xJ0 xJ1 xJ2 xJ3 vcJ h0 n0) ({ frames := 2, cells := 6, slots := 24, locals := 26 } : Room).cells ({ frames := 2, cells := 6, slots := 24, locals := 26 } : Room).slots (T6.setTop (mkF m 21 #[.val (.ref a1)] [(.ref t1), (.ref a1)]))
  obtain ⟨T7, h7, X7, e7, W7, st7⟩ := putF X6 hx hZ hown (host := "") (Or.inl (hw _ (List.mem_of_getElem? (i := 51) rfl))) Via.refl e6 F1 E_a1 (Or.inr ⟨(hw _ (List.mem_of_getElem? (i := 52) rfl)), rfl, hnm⟩) (hw _ (List.mem_of_getElem? (i := 25) rfl)) (ty := (.array .long)) (by decide) rfl rfl (g := (mkF m 21 #[.val (.ref a1)] [(.ref t1), (.ref a1)])) rfl rfl (hb hby d1_21)
  refine own_st st7 ?_
  have N7 := Fr.snoc X7 N5 g_a1
  have Z0 := Nat.le_trans Z0 (Nat.le_of_eq W7.size.symm)
  have K0 := K0.wr W7 (Or.inl (List.mem_of_getElem? (i := 0) rfl))
  have E_a1 := E_a1.wr W7
  have O := O.wr W7 g_a1
  have F0 := F0.other W7 (Or.inr (slot_ne (Or.inr (hw _ (List.mem_of_getElem? (i := 50) rfl))) (Or.inr (hw _ (List.mem_of_getElem? (i := 52) rfl))) (by decide) (t := (.array .long)) (t' := (.array .long)) (by decide) (by decide)))
  have F1 := F1.same W7
  have F2 := F2.other W7 (Or.inr (slot_ne (Or.inr (hw _ (List.mem_of_getElem? (i := 66) rfl))) (Or.inr (hw _ (List.mem_of_getElem? (i := 52) rfl))) (by decide) (t := (.array .long)) (t' := (.array .long)) (by decide) (by decide)))
  have V_t0 := V_t0.other W7 (Ne.symm ne_a1_t0)
  have V_t1 := V_t1.other W7 (Ne.symm ne_a1_t1)
  show Fin1 p e below s (rmCQ Z a1 vaM xM0 xM1 xM2 xM3 vcM vaJ xJ0 xJ1 xJ2 xJ3 vcJ h0 n0) ({ frames := 2, cells := 6, slots := 24, locals := 26 } : Room).cells ({ frames := 2, cells := 6, slots := 24, locals := 26 } : Room).slots (T7.setTop (mkF m 24 #[.val (.ref a1)] []))
  refine own_st (fun wt wk => XS.aloadN X7.here hx rfl (hb hby d1_24) rfl rfl wk) ?_
  show Fin1 p e below s (rmCQ Z a1 vaM xM0 xM1 xM2 xM3 vcM vaJ xJ0 xJ1 xJ2 xJ3 vcJ h0 n0) ({ frames := 2, cells := 6, slots := 24, locals := 26 } : Room).cells ({ frames := 2, cells := 6, slots := 24, locals := 26 } : Room).slots (T7.setTop (mkF m 25 #[.val (.ref a1)] [(.ref a1)]))
  obtain ⟨v8, T8, h8, L8, X8, e8, hQ8, st8⟩ := own_static X7 hx hZ hown (hw _ (List.mem_of_getElem? (i := 53) rfl)) (hw _ (List.mem_of_getElem? (i := 54) rfl)) (hw _ (List.mem_of_getElem? (i := 3) rfl)) (hw _ (List.mem_of_getElem? (i := 55) rfl)) (by decide) (rmVJ l Z a0 hw vaJ xJ0 xJ1 xJ2 xJ3 vcJ h7 n0 Z0 O EJ) e7 (g := (mkF m 25 #[.val (.ref a1)] [(.ref a1)])) rfl (by rw [hml]; rfl) (argsL := []) (rest := [(.ref a1)]) (lenOf pd_5 rfl) rfl (W := 1) (by show 2 * 0 + _ ≤ _; exact Nat.le_of_eq rfl) (hb hby d1_25) (by decide) (by decide) (by decide) (by decide)
  obtain ⟨bv2, cv2, rfl, N8q, K8, sv2, Av2, zv2⟩ := hQ8
  have N8 := Fr.app N7 N8q
  have Z0 := Nat.le_trans Z0 K8.1
  have K0 := K0.trans K8 all0
  have E_a1 := E_a1.keep K8
  have O := O.keep K8 all0
  have F0 := F0.keep K8 nin0
  have F1 := F1.keep K8 nin0
  have F2 := F2.keep K8 nin0
  have V_t0 := V_t0.keep K8 nin0
  have V_t1 := V_t1.keep K8 nin0
  refine own_st st8 ?_
  show Fin1 p e below s (rmCQ Z a1 vaM xM0 xM1 xM2 xM3 vcM vaJ xJ0 xJ1 xJ2 xJ3 vcJ h0 n0) ({ frames := 2, cells := 6, slots := 24, locals := 26 } : Room).cells ({ frames := 2, cells := 6, slots := 24, locals := 26 } : Room).slots (T8.setTop (mkF m 28 #[.val (.ref a1)] [(.ref bv2), (.ref a1)]))
  refine own_st (own_lenA (n := (4 : Int32)) X8 hx hZ e8 Av2 (by rw [zv2]; rfl) (g := (mkF m 28 #[.val (.ref a1)] [(.ref bv2), (.ref a1)])) rfl rfl (hb hby d1_28)) ?_
  show Fin1 p e below s (rmCQ Z a1 vaM xM0 xM1 xM2 xM3 vcM vaJ xJ0 xJ1 xJ2 xJ3 vcJ h0 n0) ({ frames := 2, cells := 6, slots := 24, locals := 26 } : Room).cells ({ frames := 2, cells := 6, slots := 24, locals := 26 } : Room).slots (T8.setTop (mkF m 29 #[.val (.ref a1)] [(.int (4 : Int32)), (.ref a1)]))
  obtain ⟨T9, h9, kc9, X9, e9, E9, A9, st9⟩ := newP X8 hx hZ (hw _ (List.mem_of_getElem? (i := 48) rfl)) e8 (g := (mkF m 29 #[.val (.ref a1)] [(.int (4 : Int32)), (.ref a1)])) rfl (hb hby d1_29) rfl (by decide) (cap := 4) (by decide) (by decide) (by decide) (by decide)
  obtain ⟨t2, gz_t2⟩ : ∃ z, z = h8.size := ⟨_, rfl⟩
  rw [← gz_t2] at A9 st9
  have ne_a1_t2 : a1 ≠ t2 := Nat.ne_of_lt (Nat.lt_of_lt_of_le E_a1.lt (Nat.le_of_eq gz_t2.symm))
  have ne_t0_t2 : t0 ≠ t2 := Nat.ne_of_lt (Nat.lt_of_lt_of_le V_t0.lt (Nat.le_of_eq gz_t2.symm))
  have ne_t1_t2 : t1 ≠ t2 := Nat.ne_of_lt (Nat.lt_of_lt_of_le V_t1.lt (Nat.le_of_eq gz_t2.symm))
  have sz_t2 : h0.size ≤ t2 := Nat.le_trans K0.1 (Nat.le_of_eq gz_t2.symm)
  have g_t2 : n0 ≤ t2 := Nat.le_trans Z0 (Nat.le_of_eq gz_t2.symm)
  have Z0 := Nat.le_trans Z0 E9.1
  have K0 := K0.ext E9
  have E_a1 := E_a1.ext E9
  have O := O.ext E9
  have F0 := F0.ext E9
  have F1 := F1.ext E9
  have F2 := F2.ext E9
  have V_t0 := V_t0.ext E9
  have V_t1 := V_t1.ext E9
  refine own_st st9 ?_
  have V_t2 : Arv Z h9 t2 kc9 .long (4 : Int32) [(.long (0 : Int64)), (.long (0 : Int64)), (.long (0 : Int64)), (.long (0 : Int64))] (.long (0 : Int64)) := (Arv.new A9 (by decide)).pad (pad_rep [] (.long (0 : Int64)) 4)
  show Fin1 p e below s (rmCQ Z a1 vaM xM0 xM1 xM2 xM3 vcM vaJ xJ0 xJ1 xJ2 xJ3 vcJ h0 n0) ({ frames := 2, cells := 6, slots := 24, locals := 26 } : Room).cells ({ frames := 2, cells := 6, slots := 24, locals := 26 } : Room).slots (T9.setTop (mkF m 31 #[.val (.ref a1)] [(.ref t2), (.ref a1)]))
  obtain ⟨T10, h10, X10, e10, W10, st10⟩ := putF X9 hx hZ hown (host := "") (Or.inl (hw _ (List.mem_of_getElem? (i := 65) rfl))) Via.refl e9 F2 E_a1 (Or.inr ⟨(hw _ (List.mem_of_getElem? (i := 66) rfl)), rfl, hnm⟩) (hw _ (List.mem_of_getElem? (i := 25) rfl)) (ty := (.array .long)) (by decide) rfl rfl (g := (mkF m 31 #[.val (.ref a1)] [(.ref t2), (.ref a1)])) rfl rfl (hb hby d1_31)
  refine own_st st10 ?_
  have N10 := Fr.snoc X10 N8 g_a1
  have Z0 := Nat.le_trans Z0 (Nat.le_of_eq W10.size.symm)
  have K0 := K0.wr W10 (Or.inl (List.mem_of_getElem? (i := 0) rfl))
  have E_a1 := E_a1.wr W10
  have O := O.wr W10 g_a1
  have F0 := F0.other W10 (Or.inr (slot_ne (Or.inr (hw _ (List.mem_of_getElem? (i := 50) rfl))) (Or.inr (hw _ (List.mem_of_getElem? (i := 66) rfl))) (by decide) (t := (.array .long)) (t' := (.array .long)) (by decide) (by decide)))
  have F1 := F1.other W10 (Or.inr (slot_ne (Or.inr (hw _ (List.mem_of_getElem? (i := 52) rfl))) (Or.inr (hw _ (List.mem_of_getElem? (i := 66) rfl))) (by decide) (t := (.array .long)) (t' := (.array .long)) (by decide) (by decide)))
  have F2 := F2.same W10
  have V_t0 := V_t0.other W10 (Ne.symm ne_a1_t0)
  have V_t1 := V_t1.other W10 (Ne.symm ne_a1_t1)
  have V_t2 := V_t2.other W10 (Ne.symm ne_a1_t2)
  show Fin1 p e below s (rmCQ Z a1 vaM xM0 xM1 xM2 xM3 vcM vaJ xJ0 xJ1 xJ2 xJ3 vcJ h0 n0) ({ frames := 2, cells := 6, slots := 24, locals := 26 } : Room).cells ({ frames := 2, cells := 6, slots := 24, locals := 26 } : Room).slots (T10.setTop (mkF m 34 #[.val (.ref a1)] []))
  exact own_retV X10 hx hlk hret (hb hby d1_34) (by rw [e10]; exact ⟨rfl, N10, t0, t1, t2, kc3, kc6, kc9, K0, ⟨sz_t0, sz_t1, sz_t2⟩, ⟨ne_t0_t1, ne_t0_t2, ne_t1_t2⟩, F0, F1, F2, V_t0, V_t1, V_t2⟩) (by decide) (by decide)
theorem d5_0 : decode prog_25_method_4_code 0 = .ok (.aload_n 0, 1) := by decide +kernel
theorem d5_1 : decode prog_25_method_4_code 1 = .ok (.getfield 27, 3) := by decide +kernel
theorem d5_4 : decode prog_25_method_4_code 4 = .ok (.aload_n 1, 1) := by decide +kernel
theorem d5_5 : decode prog_25_method_4_code 5 = .ok (.invokevirtual 40, 3) := by decide +kernel
theorem d5_8 : decode prog_25_method_4_code 8 = .ok (.dup2, 1) := by decide +kernel
theorem d5_9 : decode prog_25_method_4_code 9 = .ok (.laload, 1) := by decide +kernel
theorem d5_10 : decode prog_25_method_4_code 10 = .ok (.lconst 1, 1) := by decide +kernel
theorem d5_11 : decode prog_25_method_4_code 11 = .ok (.ladd, 1) := by decide +kernel
theorem d5_12 : decode prog_25_method_4_code 12 = .ok (.lastore, 1) := by decide +kernel
theorem d5_13 : decode prog_25_method_4_code 13 = .ok (.return_, 1) := by decide +kernel
theorem pd_6 : parseMethodDescriptor "()I" = some ⟨[], some .int⟩ := by decide +kernel
def rmRejQ (Z : State) (a1 : Addr) (r : Addr) (o : Int32) (t : Addr) (kt : ClassId) (c0 : Int64) (c1 : Int64) (c2 : Int64) (c3 : Int64) (h0 : Heap) (n0 : Nat) (v : Option Value) (h : Heap) (L : List Loc) : Prop := v = none ∧ Fr n0 L ∧ Keep h0 h [t] ∧ Arv Z h t kt .long (4 : Int32) [(.long (c0 + own_hit (0 : Int32) o)), (.long (c1 + own_hit (1 : Int32) o)), (.long (c2 + own_hit (2 : Int32) o)), (.long (c3 + own_hit (3 : Int32) o))] (.long (0 : Int64))
set_option maxRecDepth 65536 in
set_option maxHeartbeats 40000000 in
theorem rmRej (l : Launch) (Z : State) (a0 : Array Value) (hw : ∀ d ∈ tables_1, d.before a0 Z = true) (a1 : Addr) (r : Addr) (o : Int32) (t : Addr) (kt : ClassId) (c0 : Int64) (c1 : Int64) (c2 : Int64) (c3 : Int64) (h0 : Heap) (n0 : Nat) (Z0 : n0 ≤ h0.size) (g_t : n0 ≤ t) (ho : ¬ o < (0 : Int32) ∧ o < (4 : Int32)) (F2 : Fld Z h0 a1 "com/example/electd/electd/service/DatagramCounts" "rejected" "[J" (.ref t)) (E_r : Exa Z h0 r "com/example/electd/electd/io/Rejection") (Fo : Fld Z h0 r "java/lang/Enum" "ordinal" "I" (.int o)) (V_t : Arv Z h0 t kt .long (4 : Int32) [(.long c0), (.long c1), (.long c2), (.long c3)] (.long (0 : Int64))) :
    Ct l Z [] (⟨"com/example/electd/electd/service/DatagramCounts", "rejected", "(Lcom/example/electd/electd/io/Rejection;)V"⟩ : MethodName) prog_25_method_4_code 2 none ({ frames := 1, cells := 0, slots := 0, locals := 13 } : Room) #[(.ref a1), (.ref r)] h0 (rmRejQ Z a1 r o t kt c0 c1 c2 c3 h0 n0) := by
  refine own_enter (plainFor_of_name pn_3) ?_
  intro p e s m below meth c T0 X0 hx hby hml hZ hown hnm hret hlk e0
  have hown : s.vm.findClass "com/example/electd/electd/service/DatagramCounts" = some m.cls := hown
  have N0 := Fr.nil n0
  have K0 := Keep.refl h0 [t]
  refine own_st (fun wt wk => castTop (g' := mkF m 0 #[.val (.ref a1), .val (.ref r)] []) (by first | (simp [entryFrame, mkF, argsToLocals, Value.category]; done) | rfl) wk) ?_
  show Fin1 p e below s (rmRejQ Z a1 r o t kt c0 c1 c2 c3 h0 n0) ({ frames := 1, cells := 0, slots := 0, locals := 13 } : Room).cells ({ frames := 1, cells := 0, slots := 0, locals := 13 } : Room).slots (T0.setTop (mkF m 0 #[.val (.ref a1), .val (.ref r)] []))
  rcases own_four o ho with rfl | rfl | rfl | rfl
  · show Fin1 p e below s (rmRejQ Z a1 r (0 : Int32) t kt c0 c1 c2 c3 h0 n0) ({ frames := 1, cells := 0, slots := 0, locals := 13 } : Room).cells ({ frames := 1, cells := 0, slots := 0, locals := 13 } : Room).slots (T0.setTop (mkF m 0 #[.val (.ref a1), .val (.ref r)] []))
    refine own_st (fun wt wk => XS.aloadN X0.here hx rfl (hb hby d5_0) rfl rfl wk) ?_
    show Fin1 p e below s (rmRejQ Z a1 r (0 : Int32) t kt c0 c1 c2 c3 h0 n0) ({ frames := 1, cells := 0, slots := 0, locals := 13 } : Room).cells ({ frames := 1, cells := 0, slots := 0, locals := 13 } : Room).slots (T0.setTop (mkF m 1 #[.val (.ref a1), .val (.ref r)] [(.ref a1)]))
    obtain ⟨T1, X1, e1, st1⟩ := getF X0 hx hZ hown (host := "") (Or.inl (hw _ (List.mem_of_getElem? (i := 65) rfl))) Via.refl e0 F2 (g := (mkF m 1 #[.val (.ref a1), .val (.ref r)] [(.ref a1)])) rfl rfl (hb hby d5_1)
    refine own_st st1 ?_
    show Fin1 p e below s (rmRejQ Z a1 r (0 : Int32) t kt c0 c1 c2 c3 h0 n0) ({ frames := 1, cells := 0, slots := 0, locals := 13 } : Room).cells ({ frames := 1, cells := 0, slots := 0, locals := 13 } : Room).slots (T1.setTop (mkF m 4 #[.val (.ref a1), .val (.ref r)] [(.ref t)]))
    refine own_st (fun wt wk => XS.aloadN X1.here hx rfl (hb hby d5_4) rfl rfl wk) ?_
    show Fin1 p e below s (rmRejQ Z a1 r (0 : Int32) t kt c0 c1 c2 c3 h0 n0) ({ frames := 1, cells := 0, slots := 0, locals := 13 } : Room).cells ({ frames := 1, cells := 0, slots := 0, locals := 13 } : Room).slots (T1.setTop (mkF m 5 #[.val (.ref a1), .val (.ref r)] [(.ref r), (.ref t)]))
    obtain ⟨v2, T2, h2, L2, X2, e2, hQ2, st2⟩ := own_virtualUp X1 hx hZ hown (hw _ (List.mem_of_getElem? (i := 72) rfl)) (hw _ (List.mem_of_getElem? (i := 73) rfl)) (hw _ (List.mem_of_getElem? (i := 74) rfl)) (hw _ (List.mem_of_getElem? (i := 76) rfl)) (hw _ (List.mem_of_getElem? (i := 75) rfl)) (hw _ (List.mem_of_getElem? (i := 78) rfl)) (hw _ (List.mem_of_getElem? (i := 77) rfl)) (by decide) (a := r) E_r (rmOrd l Z a0 hw r (0 : Int32) h0 n0 Z0 Fo) e1 (g := (mkF m 5 #[.val (.ref a1), .val (.ref r)] [(.ref r), (.ref t)])) rfl (by rw [hml]; rfl) (argsL := []) (rest := [(.ref t)]) (lenOf pd_6 rfl) rfl (W := 1) (by show 2 * 0 + _ ≤ _; exact Nat.le_of_eq rfl) (hb hby d5_5) (by decide) (by decide) (by decide) (by decide)
    obtain ⟨rfl, N2q, hh2⟩ := hQ2
    have N2 := Fr.app N0 N2q
    rw [hh2] at e2
    refine own_st st2 ?_
    show Fin1 p e below s (rmRejQ Z a1 r (0 : Int32) t kt c0 c1 c2 c3 h0 n0) ({ frames := 1, cells := 0, slots := 0, locals := 13 } : Room).cells ({ frames := 1, cells := 0, slots := 0, locals := 13 } : Room).slots (T2.setTop (mkF m 8 #[.val (.ref a1), .val (.ref r)] [(.int (0 : Int32)), (.ref t)]))
    refine own_st (fun wt wk => Jvm.Free.XT.dup2 X2.here hx rfl (hb hby d5_8) rfl rfl rfl wk) ?_
    show Fin1 p e below s (rmRejQ Z a1 r (0 : Int32) t kt c0 c1 c2 c3 h0 n0) ({ frames := 1, cells := 0, slots := 0, locals := 13 } : Room).cells ({ frames := 1, cells := 0, slots := 0, locals := 13 } : Room).slots (T2.setTop (mkF m 9 #[.val (.ref a1), .val (.ref r)] [(.int (0 : Int32)), (.ref t), (.int (0 : Int32)), (.ref t)]))
    refine own_st (own_ld (j := (0 : Int32)) (v := (.long c0)) X2 hx hZ e2 V_t ⟨by decide, by decide⟩ rfl (g := (mkF m 9 #[.val (.ref a1), .val (.ref r)] [(.int (0 : Int32)), (.ref t), (.int (0 : Int32)), (.ref t)])) rfl rfl (Or.inr (Or.inl ⟨rfl, rfl⟩)) (hb hby d5_9)) ?_
    show Fin1 p e below s (rmRejQ Z a1 r (0 : Int32) t kt c0 c1 c2 c3 h0 n0) ({ frames := 1, cells := 0, slots := 0, locals := 13 } : Room).cells ({ frames := 1, cells := 0, slots := 0, locals := 13 } : Room).slots (T2.setTop (mkF m 10 #[.val (.ref a1), .val (.ref r)] [(.long c0), (.int (0 : Int32)), (.ref t)]))
    refine own_st (fun wt wk => XS.lconst X2.here hx rfl (hb hby d5_10) wk) ?_
    show Fin1 p e below s (rmRejQ Z a1 r (0 : Int32) t kt c0 c1 c2 c3 h0 n0) ({ frames := 1, cells := 0, slots := 0, locals := 13 } : Room).cells ({ frames := 1, cells := 0, slots := 0, locals := 13 } : Room).slots (T2.setTop (mkF m 11 #[.val (.ref a1), .val (.ref r)] [(.long (1 : Int64)), (.long c0), (.int (0 : Int32)), (.ref t)]))
    refine own_st (fun wt wk => XS.ladd X2.here hx rfl (hb hby d5_11) rfl wk) ?_
    show Fin1 p e below s (rmRejQ Z a1 r (0 : Int32) t kt c0 c1 c2 c3 h0 n0) ({ frames := 1, cells := 0, slots := 0, locals := 13 } : Room).cells ({ frames := 1, cells := 0, slots := 0, locals := 13 } : Room).slots (T2.setTop (mkF m 12 #[.val (.ref a1), .val (.ref r)] [(.long (c0 + (1 : Int64))), (.int (0 : Int32)), (.ref t)]))
    obtain ⟨T3, h3, X3, e3, W3, U3, st3⟩ := own_stJ (j := (0 : Int32)) X2 hx hZ e2 V_t ⟨by decide, by decide⟩ 0 rfl (by simp) (g := (mkF m 12 #[.val (.ref a1), .val (.ref r)] [(.long (c0 + (1 : Int64))), (.int (0 : Int32)), (.ref t)])) rfl rfl (hb hby d5_12)
    have N3 := Fr.snoc X3 N2 g_t
    have Z0 := Nat.le_trans Z0 (Nat.le_of_eq W3.size.symm)
    have K0 := K0.wr W3 (Or.inl (List.mem_of_getElem? (i := 0) rfl))
    have V_t : Arv Z h3 t kt .long (4 : Int32) [(.long (c0 + (1 : Int64))), (.long c1), (.long c2), (.long c3)] (.long (0 : Int64)) := U3
    refine own_st st3 ?_
    show Fin1 p e below s (rmRejQ Z a1 r (0 : Int32) t kt c0 c1 c2 c3 h0 n0) ({ frames := 1, cells := 0, slots := 0, locals := 13 } : Room).cells ({ frames := 1, cells := 0, slots := 0, locals := 13 } : Room).slots (T3.setTop (mkF m 13 #[.val (.ref a1), .val (.ref r)] []))
    exact own_retV X3 hx hlk hret (hb hby d5_13) (by rw [e3]; exact ⟨rfl, N3, K0, (by simpa [own_hit] using V_t)⟩) (by decide) (by decide)
  · show Fin1 p e below s (rmRejQ Z a1 r (1 : Int32) t kt c0 c1 c2 c3 h0 n0) ({ frames := 1, cells := 0, slots := 0, locals := 13 } : Room).cells ({ frames := 1, cells := 0, slots := 0, locals := 13 } : Room).slots (T0.setTop (mkF m 0 #[.val (.ref a1), .val (.ref r)] []))
    refine own_st (fun wt wk => XS.aloadN X0.here hx rfl (hb hby d5_0) rfl rfl wk) ?_
    show Fin1 p e below s (rmRejQ Z a1 r (1 : Int32) t kt c0 c1 c2 c3 h0 n0) ({ frames := 1, cells := 0, slots := 0, locals := 13 } : Room).cells ({ frames := 1, cells := 0, slots := 0, locals := 13 } : Room).slots (T0.setTop (mkF m 1 #[.val (.ref a1), .val (.ref r)] [(.ref a1)]))
    obtain ⟨T4, X4, e4, st4⟩ := getF X0 hx hZ hown (host := "") (Or.inl (hw _ (List.mem_of_getElem? (i := 65) rfl))) Via.refl e0 F2 (g := (mkF m 1 #[.val (.ref a1), .val (.ref r)] [(.ref a1)])) rfl rfl (hb hby d5_1)
    refine own_st st4 ?_
    show Fin1 p e below s (rmRejQ Z a1 r (1 : Int32) t kt c0 c1 c2 c3 h0 n0) ({ frames := 1, cells := 0, slots := 0, locals := 13 } : Room).cells ({ frames := 1, cells := 0, slots := 0, locals := 13 } : Room).slots (T4.setTop (mkF m 4 #[.val (.ref a1), .val (.ref r)] [(.ref t)]))
    refine own_st (fun wt wk => XS.aloadN X4.here hx rfl (hb hby d5_4) rfl rfl wk) ?_
    show Fin1 p e below s (rmRejQ Z a1 r (1 : Int32) t kt c0 c1 c2 c3 h0 n0) ({ frames := 1, cells := 0, slots := 0, locals := 13 } : Room).cells ({ frames := 1, cells := 0, slots := 0, locals := 13 } : Room).slots (T4.setTop (mkF m 5 #[.val (.ref a1), .val (.ref r)] [(.ref r), (.ref t)]))
    obtain ⟨v5, T5, h5, L5, X5, e5, hQ5, st5⟩ := own_virtualUp X4 hx hZ hown (hw _ (List.mem_of_getElem? (i := 72) rfl)) (hw _ (List.mem_of_getElem? (i := 73) rfl)) (hw _ (List.mem_of_getElem? (i := 74) rfl)) (hw _ (List.mem_of_getElem? (i := 76) rfl)) (hw _ (List.mem_of_getElem? (i := 75) rfl)) (hw _ (List.mem_of_getElem? (i := 78) rfl)) (hw _ (List.mem_of_getElem? (i := 77) rfl)) (by decide) (a := r) E_r (rmOrd l Z a0 hw r (1 : Int32) h0 n0 Z0 Fo) e4 (g := (mkF m 5 #[.val (.ref a1), .val (.ref r)] [(.ref r), (.ref t)])) rfl (by rw [hml]; rfl) (argsL := []) (rest := [(.ref t)]) (lenOf pd_6 rfl) rfl (W := 1) (by show 2 * 0 + _ ≤ _; exact Nat.le_of_eq rfl) (hb hby d5_5) (by decide) (by decide) (by decide) (by decide)
    obtain ⟨rfl, N5q, hh5⟩ := hQ5
    have N5 := Fr.app N0 N5q
    rw [hh5] at e5
    refine own_st st5 ?_
    show Fin1 p e below s (rmRejQ Z a1 r (1 : Int32) t kt c0 c1 c2 c3 h0 n0) ({ frames := 1, cells := 0, slots := 0, locals := 13 } : Room).cells ({ frames := 1, cells := 0, slots := 0, locals := 13 } : Room).slots (T5.setTop (mkF m 8 #[.val (.ref a1), .val (.ref r)] [(.int (1 : Int32)), (.ref t)]))
    refine own_st (fun wt wk => Jvm.Free.XT.dup2 X5.here hx rfl (hb hby d5_8) rfl rfl rfl wk) ?_
    show Fin1 p e below s (rmRejQ Z a1 r (1 : Int32) t kt c0 c1 c2 c3 h0 n0) ({ frames := 1, cells := 0, slots := 0, locals := 13 } : Room).cells ({ frames := 1, cells := 0, slots := 0, locals := 13 } : Room).slots (T5.setTop (mkF m 9 #[.val (.ref a1), .val (.ref r)] [(.int (1 : Int32)), (.ref t), (.int (1 : Int32)), (.ref t)]))
    refine own_st (own_ld (j := (1 : Int32)) (v := (.long c1)) X5 hx hZ e5 V_t ⟨by decide, by decide⟩ rfl (g := (mkF m 9 #[.val (.ref a1), .val (.ref r)] [(.int (1 : Int32)), (.ref t), (.int (1 : Int32)), (.ref t)])) rfl rfl (Or.inr (Or.inl ⟨rfl, rfl⟩)) (hb hby d5_9)) ?_
    show Fin1 p e below s (rmRejQ Z a1 r (1 : Int32) t kt c0 c1 c2 c3 h0 n0) ({ frames := 1, cells := 0, slots := 0, locals := 13 } : Room).cells ({ frames := 1, cells := 0, slots := 0, locals := 13 } : Room).slots (T5.setTop (mkF m 10 #[.val (.ref a1), .val (.ref r)] [(.long c1), (.int (1 : Int32)), (.ref t)]))
    refine own_st (fun wt wk => XS.lconst X5.here hx rfl (hb hby d5_10) wk) ?_
    show Fin1 p e below s (rmRejQ Z a1 r (1 : Int32) t kt c0 c1 c2 c3 h0 n0) ({ frames := 1, cells := 0, slots := 0, locals := 13 } : Room).cells ({ frames := 1, cells := 0, slots := 0, locals := 13 } : Room).slots (T5.setTop (mkF m 11 #[.val (.ref a1), .val (.ref r)] [(.long (1 : Int64)), (.long c1), (.int (1 : Int32)), (.ref t)]))
    refine own_st (fun wt wk => XS.ladd X5.here hx rfl (hb hby d5_11) rfl wk) ?_
    show Fin1 p e below s (rmRejQ Z a1 r (1 : Int32) t kt c0 c1 c2 c3 h0 n0) ({ frames := 1, cells := 0, slots := 0, locals := 13 } : Room).cells ({ frames := 1, cells := 0, slots := 0, locals := 13 } : Room).slots (T5.setTop (mkF m 12 #[.val (.ref a1), .val (.ref r)] [(.long (c1 + (1 : Int64))), (.int (1 : Int32)), (.ref t)]))
    obtain ⟨T6, h6, X6, e6, W6, U6, st6⟩ := own_stJ (j := (1 : Int32)) X5 hx hZ e5 V_t ⟨by decide, by decide⟩ 1 rfl (by simp) (g := (mkF m 12 #[.val (.ref a1), .val (.ref r)] [(.long (c1 + (1 : Int64))), (.int (1 : Int32)), (.ref t)])) rfl rfl (hb hby d5_12)
    have N6 := Fr.snoc X6 N5 g_t
    have Z0 := Nat.le_trans Z0 (Nat.le_of_eq W6.size.symm)
    have K0 := K0.wr W6 (Or.inl (List.mem_of_getElem? (i := 0) rfl))
    have V_t : Arv Z h6 t kt .long (4 : Int32) [(.long c0), (.long (c1 + (1 : Int64))), (.long c2), (.long c3)] (.long (0 : Int64)) := U6
    refine own_st st6 ?_
    show Fin1 p e below s (rmRejQ Z a1 r (1 : Int32) t kt c0 c1 c2 c3 h0 n0) ({ frames := 1, cells := 0, slots := 0, locals := 13 } : Room).cells ({ frames := 1, cells := 0, slots := 0, locals := 13 } : Room).slots (T6.setTop (mkF m 13 #[.val (.ref a1), .val (.ref r)] []))
    exact own_retV X6 hx hlk hret (hb hby d5_13) (by rw [e6]; exact ⟨rfl, N6, K0, (by simpa [own_hit] using V_t)⟩) (by decide) (by decide)
  · show Fin1 p e below s (rmRejQ Z a1 r (2 : Int32) t kt c0 c1 c2 c3 h0 n0) ({ frames := 1, cells := 0, slots := 0, locals := 13 } : Room).cells ({ frames := 1, cells := 0, slots := 0, locals := 13 } : Room).slots (T0.setTop (mkF m 0 #[.val (.ref a1), .val (.ref r)] []))
    refine own_st (fun wt wk => XS.aloadN X0.here hx rfl (hb hby d5_0) rfl rfl wk) ?_
    show Fin1 p e below s (rmRejQ Z a1 r (2 : Int32) t kt c0 c1 c2 c3 h0 n0) ({ frames := 1, cells := 0, slots := 0, locals := 13 } : Room).cells ({ frames := 1, cells := 0, slots := 0, locals := 13 } : Room).slots (T0.setTop (mkF m 1 #[.val (.ref a1), .val (.ref r)] [(.ref a1)]))
    obtain ⟨T7, X7, e7, st7⟩ := getF X0 hx hZ hown (host := "") (Or.inl (hw _ (List.mem_of_getElem? (i := 65) rfl))) Via.refl e0 F2 (g := (mkF m 1 #[.val (.ref a1), .val (.ref r)] [(.ref a1)])) rfl rfl (hb hby d5_1)
    refine own_st st7 ?_
    show Fin1 p e below s (rmRejQ Z a1 r (2 : Int32) t kt c0 c1 c2 c3 h0 n0) ({ frames := 1, cells := 0, slots := 0, locals := 13 } : Room).cells ({ frames := 1, cells := 0, slots := 0, locals := 13 } : Room).slots (T7.setTop (mkF m 4 #[.val (.ref a1), .val (.ref r)] [(.ref t)]))
    refine own_st (fun wt wk => XS.aloadN X7.here hx rfl (hb hby d5_4) rfl rfl wk) ?_
    show Fin1 p e below s (rmRejQ Z a1 r (2 : Int32) t kt c0 c1 c2 c3 h0 n0) ({ frames := 1, cells := 0, slots := 0, locals := 13 } : Room).cells ({ frames := 1, cells := 0, slots := 0, locals := 13 } : Room).slots (T7.setTop (mkF m 5 #[.val (.ref a1), .val (.ref r)] [(.ref r), (.ref t)]))
    obtain ⟨v8, T8, h8, L8, X8, e8, hQ8, st8⟩ := own_virtualUp X7 hx hZ hown (hw _ (List.mem_of_getElem? (i := 72) rfl)) (hw _ (List.mem_of_getElem? (i := 73) rfl)) (hw _ (List.mem_of_getElem? (i := 74) rfl)) (hw _ (List.mem_of_getElem? (i := 76) rfl)) (hw _ (List.mem_of_getElem? (i := 75) rfl)) (hw _ (List.mem_of_getElem? (i := 78) rfl)) (hw _ (List.mem_of_getElem? (i := 77) rfl)) (by decide) (a := r) E_r (rmOrd l Z a0 hw r (2 : Int32) h0 n0 Z0 Fo) e7 (g := (mkF m 5 #[.val (.ref a1), .val (.ref r)] [(.ref r), (.ref t)])) rfl (by rw [hml]; rfl) (argsL := []) (rest := [(.ref t)]) (lenOf pd_6 rfl) rfl (W := 1) (by show 2 * 0 + _ ≤ _; exact Nat.le_of_eq rfl) (hb hby d5_5) (by decide) (by decide) (by decide) (by decide)
    obtain ⟨rfl, N8q, hh8⟩ := hQ8
    have N8 := Fr.app N0 N8q
    rw [hh8] at e8
    refine own_st st8 ?_
    show Fin1 p e below s (rmRejQ Z a1 r (2 : Int32) t kt c0 c1 c2 c3 h0 n0) ({ frames := 1, cells := 0, slots := 0, locals := 13 } : Room).cells ({ frames := 1, cells := 0, slots := 0, locals := 13 } : Room).slots (T8.setTop (mkF m 8 #[.val (.ref a1), .val (.ref r)] [(.int (2 : Int32)), (.ref t)]))
    refine own_st (fun wt wk => Jvm.Free.XT.dup2 X8.here hx rfl (hb hby d5_8) rfl rfl rfl wk) ?_
    show Fin1 p e below s (rmRejQ Z a1 r (2 : Int32) t kt c0 c1 c2 c3 h0 n0) ({ frames := 1, cells := 0, slots := 0, locals := 13 } : Room).cells ({ frames := 1, cells := 0, slots := 0, locals := 13 } : Room).slots (T8.setTop (mkF m 9 #[.val (.ref a1), .val (.ref r)] [(.int (2 : Int32)), (.ref t), (.int (2 : Int32)), (.ref t)]))
    refine own_st (own_ld (j := (2 : Int32)) (v := (.long c2)) X8 hx hZ e8 V_t ⟨by decide, by decide⟩ rfl (g := (mkF m 9 #[.val (.ref a1), .val (.ref r)] [(.int (2 : Int32)), (.ref t), (.int (2 : Int32)), (.ref t)])) rfl rfl (Or.inr (Or.inl ⟨rfl, rfl⟩)) (hb hby d5_9)) ?_
    show Fin1 p e below s (rmRejQ Z a1 r (2 : Int32) t kt c0 c1 c2 c3 h0 n0) ({ frames := 1, cells := 0, slots := 0, locals := 13 } : Room).cells ({ frames := 1, cells := 0, slots := 0, locals := 13 } : Room).slots (T8.setTop (mkF m 10 #[.val (.ref a1), .val (.ref r)] [(.long c2), (.int (2 : Int32)), (.ref t)]))
    refine own_st (fun wt wk => XS.lconst X8.here hx rfl (hb hby d5_10) wk) ?_
    show Fin1 p e below s (rmRejQ Z a1 r (2 : Int32) t kt c0 c1 c2 c3 h0 n0) ({ frames := 1, cells := 0, slots := 0, locals := 13 } : Room).cells ({ frames := 1, cells := 0, slots := 0, locals := 13 } : Room).slots (T8.setTop (mkF m 11 #[.val (.ref a1), .val (.ref r)] [(.long (1 : Int64)), (.long c2), (.int (2 : Int32)), (.ref t)]))
    refine own_st (fun wt wk => XS.ladd X8.here hx rfl (hb hby d5_11) rfl wk) ?_
    show Fin1 p e below s (rmRejQ Z a1 r (2 : Int32) t kt c0 c1 c2 c3 h0 n0) ({ frames := 1, cells := 0, slots := 0, locals := 13 } : Room).cells ({ frames := 1, cells := 0, slots := 0, locals := 13 } : Room).slots (T8.setTop (mkF m 12 #[.val (.ref a1), .val (.ref r)] [(.long (c2 + (1 : Int64))), (.int (2 : Int32)), (.ref t)]))
    obtain ⟨T9, h9, X9, e9, W9, U9, st9⟩ := own_stJ (j := (2 : Int32)) X8 hx hZ e8 V_t ⟨by decide, by decide⟩ 2 rfl (by simp) (g := (mkF m 12 #[.val (.ref a1), .val (.ref r)] [(.long (c2 + (1 : Int64))), (.int (2 : Int32)), (.ref t)])) rfl rfl (hb hby d5_12)
    have N9 := Fr.snoc X9 N8 g_t
    have Z0 := Nat.le_trans Z0 (Nat.le_of_eq W9.size.symm)
    have K0 := K0.wr W9 (Or.inl (List.mem_of_getElem? (i := 0) rfl))
    have V_t : Arv Z h9 t kt .long (4 : Int32) [(.long c0), (.long c1), (.long (c2 + (1 : Int64))), (.long c3)] (.long (0 : Int64)) := U9
    refine own_st st9 ?_
    show Fin1 p e below s (rmRejQ Z a1 r (2 : Int32) t kt c0 c1 c2 c3 h0 n0) ({ frames := 1, cells := 0, slots := 0, locals := 13 } : Room).cells ({ frames := 1, cells := 0, slots := 0, locals := 13 } : Room).slots (T9.setTop (mkF m 13 #[.val (.ref a1), .val (.ref r)] []))
    exact own_retV X9 hx hlk hret (hb hby d5_13) (by rw [e9]; exact ⟨rfl, N9, K0, (by simpa [own_hit] using V_t)⟩) (by decide) (by decide)
  · show Fin1 p e below s (rmRejQ Z a1 r (3 : Int32) t kt c0 c1 c2 c3 h0 n0) ({ frames := 1, cells := 0, slots := 0, locals := 13 } : Room).cells ({ frames := 1, cells := 0, slots := 0, locals := 13 } : Room).slots (T0.setTop (mkF m 0 #[.val (.ref a1), .val (.ref r)] []))
    refine own_st (fun wt wk => XS.aloadN X0.here hx rfl (hb hby d5_0) rfl rfl wk) ?_
    show Fin1 p e below s (rmRejQ Z a1 r (3 : Int32) t kt c0 c1 c2 c3 h0 n0) ({ frames := 1, cells := 0, slots := 0, locals := 13 } : Room).cells ({ frames := 1, cells := 0, slots := 0, locals := 13 } : Room).slots (T0.setTop (mkF m 1 #[.val (.ref a1), .val (.ref r)] [(.ref a1)]))
    obtain ⟨T10, X10, e10, st10⟩ := getF X0 hx hZ hown (host := "") (Or.inl (hw _ (List.mem_of_getElem? (i := 65) rfl))) Via.refl e0 F2 (g := (mkF m 1 #[.val (.ref a1), .val (.ref r)] [(.ref a1)])) rfl rfl (hb hby d5_1)
    refine own_st st10 ?_
    show Fin1 p e below s (rmRejQ Z a1 r (3 : Int32) t kt c0 c1 c2 c3 h0 n0) ({ frames := 1, cells := 0, slots := 0, locals := 13 } : Room).cells ({ frames := 1, cells := 0, slots := 0, locals := 13 } : Room).slots (T10.setTop (mkF m 4 #[.val (.ref a1), .val (.ref r)] [(.ref t)]))
    refine own_st (fun wt wk => XS.aloadN X10.here hx rfl (hb hby d5_4) rfl rfl wk) ?_
    show Fin1 p e below s (rmRejQ Z a1 r (3 : Int32) t kt c0 c1 c2 c3 h0 n0) ({ frames := 1, cells := 0, slots := 0, locals := 13 } : Room).cells ({ frames := 1, cells := 0, slots := 0, locals := 13 } : Room).slots (T10.setTop (mkF m 5 #[.val (.ref a1), .val (.ref r)] [(.ref r), (.ref t)]))
    obtain ⟨v11, T11, h11, L11, X11, e11, hQ11, st11⟩ := own_virtualUp X10 hx hZ hown (hw _ (List.mem_of_getElem? (i := 72) rfl)) (hw _ (List.mem_of_getElem? (i := 73) rfl)) (hw _ (List.mem_of_getElem? (i := 74) rfl)) (hw _ (List.mem_of_getElem? (i := 76) rfl)) (hw _ (List.mem_of_getElem? (i := 75) rfl)) (hw _ (List.mem_of_getElem? (i := 78) rfl)) (hw _ (List.mem_of_getElem? (i := 77) rfl)) (by decide) (a := r) E_r (rmOrd l Z a0 hw r (3 : Int32) h0 n0 Z0 Fo) e10 (g := (mkF m 5 #[.val (.ref a1), .val (.ref r)] [(.ref r), (.ref t)])) rfl (by rw [hml]; rfl) (argsL := []) (rest := [(.ref t)]) (lenOf pd_6 rfl) rfl (W := 1) (by show 2 * 0 + _ ≤ _; exact Nat.le_of_eq rfl) (hb hby d5_5) (by decide) (by decide) (by decide) (by decide)
    obtain ⟨rfl, N11q, hh11⟩ := hQ11
    have N11 := Fr.app N0 N11q
    rw [hh11] at e11
    refine own_st st11 ?_
    show Fin1 p e below s (rmRejQ Z a1 r (3 : Int32) t kt c0 c1 c2 c3 h0 n0) ({ frames := 1, cells := 0, slots := 0, locals := 13 } : Room).cells ({ frames := 1, cells := 0, slots := 0, locals := 13 } : Room).slots (T11.setTop (mkF m 8 #[.val (.ref a1), .val (.ref r)] [(.int (3 : Int32)), (.ref t)]))
    refine own_st (fun wt wk => Jvm.Free.XT.dup2 X11.here hx rfl (hb hby d5_8) rfl rfl rfl wk) ?_
    show Fin1 p e below s (rmRejQ Z a1 r (3 : Int32) t kt c0 c1 c2 c3 h0 n0) ({ frames := 1, cells := 0, slots := 0, locals := 13 } : Room).cells ({ frames := 1, cells := 0, slots := 0, locals := 13 } : Room).slots (T11.setTop (mkF m 9 #[.val (.ref a1), .val (.ref r)] [(.int (3 : Int32)), (.ref t), (.int (3 : Int32)), (.ref t)]))
    refine own_st (own_ld (j := (3 : Int32)) (v := (.long c3)) X11 hx hZ e11 V_t ⟨by decide, by decide⟩ rfl (g := (mkF m 9 #[.val (.ref a1), .val (.ref r)] [(.int (3 : Int32)), (.ref t), (.int (3 : Int32)), (.ref t)])) rfl rfl (Or.inr (Or.inl ⟨rfl, rfl⟩)) (hb hby d5_9)) ?_
    show Fin1 p e below s (rmRejQ Z a1 r (3 : Int32) t kt c0 c1 c2 c3 h0 n0) ({ frames := 1, cells := 0, slots := 0, locals := 13 } : Room).cells ({ frames := 1, cells := 0, slots := 0, locals := 13 } : Room).slots (T11.setTop (mkF m 10 #[.val (.ref a1), .val (.ref r)] [(.long c3), (.int (3 : Int32)), (.ref t)]))
    refine own_st (fun wt wk => XS.lconst X11.here hx rfl (hb hby d5_10) wk) ?_
    show Fin1 p e below s (rmRejQ Z a1 r (3 : Int32) t kt c0 c1 c2 c3 h0 n0) ({ frames := 1, cells := 0, slots := 0, locals := 13 } : Room).cells ({ frames := 1, cells := 0, slots := 0, locals := 13 } : Room).slots (T11.setTop (mkF m 11 #[.val (.ref a1), .val (.ref r)] [(.long (1 : Int64)), (.long c3), (.int (3 : Int32)), (.ref t)]))
    refine own_st (fun wt wk => XS.ladd X11.here hx rfl (hb hby d5_11) rfl wk) ?_
    show Fin1 p e below s (rmRejQ Z a1 r (3 : Int32) t kt c0 c1 c2 c3 h0 n0) ({ frames := 1, cells := 0, slots := 0, locals := 13 } : Room).cells ({ frames := 1, cells := 0, slots := 0, locals := 13 } : Room).slots (T11.setTop (mkF m 12 #[.val (.ref a1), .val (.ref r)] [(.long (c3 + (1 : Int64))), (.int (3 : Int32)), (.ref t)]))
    obtain ⟨T12, h12, X12, e12, W12, U12, st12⟩ := own_stJ (j := (3 : Int32)) X11 hx hZ e11 V_t ⟨by decide, by decide⟩ 3 rfl (by simp) (g := (mkF m 12 #[.val (.ref a1), .val (.ref r)] [(.long (c3 + (1 : Int64))), (.int (3 : Int32)), (.ref t)])) rfl rfl (hb hby d5_12)
    have N12 := Fr.snoc X12 N11 g_t
    have Z0 := Nat.le_trans Z0 (Nat.le_of_eq W12.size.symm)
    have K0 := K0.wr W12 (Or.inl (List.mem_of_getElem? (i := 0) rfl))
    have V_t : Arv Z h12 t kt .long (4 : Int32) [(.long c0), (.long c1), (.long c2), (.long (c3 + (1 : Int64)))] (.long (0 : Int64)) := U12
    refine own_st st12 ?_
    show Fin1 p e below s (rmRejQ Z a1 r (3 : Int32) t kt c0 c1 c2 c3 h0 n0) ({ frames := 1, cells := 0, slots := 0, locals := 13 } : Room).cells ({ frames := 1, cells := 0, slots := 0, locals := 13 } : Room).slots (T12.setTop (mkF m 13 #[.val (.ref a1), .val (.ref r)] []))
    exact own_retV X12 hx hlk hret (hb hby d5_13) (by rw [e12]; exact ⟨rfl, N12, K0, (by simpa [own_hit] using V_t)⟩) (by decide) (by decide)
theorem d9_0 : decode prog_25_method_8_code 0 = .ok (.aload_n 0, 1) := by decide +kernel
theorem d9_1 : decode prog_25_method_8_code 1 = .ok (.getfield 27, 3) := by decide +kernel
theorem d9_4 : decode prog_25_method_8_code 4 = .ok (.aload_n 1, 1) := by decide +kernel
theorem d9_5 : decode prog_25_method_8_code 5 = .ok (.invokevirtual 40, 3) := by decide +kernel
theorem d9_8 : decode prog_25_method_8_code 8 = .ok (.laload, 1) := by decide +kernel
theorem d9_9 : decode prog_25_method_8_code 9 = .ok (.lreturn, 1) := by decide +kernel
def rm_getRejectedQ (Z : State) (a1 : Addr) (r : Addr) (o : Int32) (t : Addr) (kt : ClassId) (vs : List Value) (x : Int64) (h0 : Heap) (n0 : Nat) (v : Option Value) (h : Heap) (L : List Loc) : Prop := v = some (.long x) ∧ Fr n0 L ∧ h = h0
set_option maxRecDepth 65536 in
set_option maxHeartbeats 40000000 in
theorem rm_getRejected (l : Launch) (Z : State) (a0 : Array Value) (hw : ∀ d ∈ tables_1, d.before a0 Z = true) (a1 : Addr) (r : Addr) (o : Int32) (t : Addr) (kt : ClassId) (vs : List Value) (x : Int64) (h0 : Heap) (n0 : Nat) (Z0 : n0 ≤ h0.size) (ho : ¬ o < (0 : Int32) ∧ o < (4 : Int32)) (F2 : Fld Z h0 a1 "com/example/electd/electd/service/DatagramCounts" "rejected" "[J" (.ref t)) (E_r : Exa Z h0 r "com/example/electd/electd/io/Rejection") (Fo : Fld Z h0 r "java/lang/Enum" "ordinal" "I" (.int o)) (V_t : Arv Z h0 t kt .long (4 : Int32) vs (.long (0 : Int64))) (hv : vs.getD o.toNatClampNeg (.long (0 : Int64)) = .long x) :
    Ct l Z [] (⟨"com/example/electd/electd/service/DatagramCounts", "getRejected", "(Lcom/example/electd/electd/io/Rejection;)J"⟩ : MethodName) prog_25_method_8_code 2 (some .long) ({ frames := 1, cells := 0, slots := 0, locals := 13 } : Room) #[(.ref a1), (.ref r)] h0 (rm_getRejectedQ Z a1 r o t kt vs x h0 n0) := by
  refine own_enter (plainFor_of_name pn_3) ?_
  intro p e s m below meth c T0 X0 hx hby hml hZ hown hnm hret hlk e0
  have hown : s.vm.findClass "com/example/electd/electd/service/DatagramCounts" = some m.cls := hown
  have N0 := Fr.nil n0
  have K0 := Keep.refl h0 []
  refine own_st (fun wt wk => castTop (g' := mkF m 0 #[.val (.ref a1), .val (.ref r)] []) (by first | (simp [entryFrame, mkF, argsToLocals, Value.category]; done) | rfl) wk) ?_
  show Fin1 p e below s (rm_getRejectedQ Z a1 r o t kt vs x h0 n0) ({ frames := 1, cells := 0, slots := 0, locals := 13 } : Room).cells ({ frames := 1, cells := 0, slots := 0, locals := 13 } : Room).slots (T0.setTop (mkF m 0 #[.val (.ref a1), .val (.ref r)] []))
  refine own_st (fun wt wk => XS.aloadN X0.here hx rfl (hb hby d9_0) rfl rfl wk) ?_
  show Fin1 p e below s (rm_getRejectedQ Z a1 r o t kt vs x h0 n0) ({ frames := 1, cells := 0, slots := 0, locals := 13 } : Room).cells ({ frames := 1, cells := 0, slots := 0, locals := 13 } : Room).slots (T0.setTop (mkF m 1 #[.val (.ref a1), .val (.ref r)] [(.ref a1)]))
  obtain ⟨T1, X1, e1, st1⟩ := getF X0 hx hZ hown (host := "") (Or.inl (hw _ (List.mem_of_getElem? (i := 65) rfl))) Via.refl e0 F2 (g := (mkF m 1 #[.val (.ref a1), .val (.ref r)] [(.ref a1)])) rfl rfl (hb hby d9_1)
  refine own_st st1 ?_
  show Fin1 p e below s (rm_getRejectedQ Z a1 r o t kt vs x h0 n0) ({ frames := 1, cells := 0, slots := 0, locals := 13 } : Room).cells ({ frames := 1, cells := 0, slots := 0, locals := 13 } : Room).slots (T1.setTop (mkF m 4 #[.val (.ref a1), .val (.ref r)] [(.ref t)]))
  refine own_st (fun wt wk => XS.aloadN X1.here hx rfl (hb hby d9_4) rfl rfl wk) ?_
  show Fin1 p e below s (rm_getRejectedQ Z a1 r o t kt vs x h0 n0) ({ frames := 1, cells := 0, slots := 0, locals := 13 } : Room).cells ({ frames := 1, cells := 0, slots := 0, locals := 13 } : Room).slots (T1.setTop (mkF m 5 #[.val (.ref a1), .val (.ref r)] [(.ref r), (.ref t)]))
  obtain ⟨v2, T2, h2, L2, X2, e2, hQ2, st2⟩ := own_virtualUp X1 hx hZ hown (hw _ (List.mem_of_getElem? (i := 72) rfl)) (hw _ (List.mem_of_getElem? (i := 73) rfl)) (hw _ (List.mem_of_getElem? (i := 74) rfl)) (hw _ (List.mem_of_getElem? (i := 76) rfl)) (hw _ (List.mem_of_getElem? (i := 75) rfl)) (hw _ (List.mem_of_getElem? (i := 78) rfl)) (hw _ (List.mem_of_getElem? (i := 77) rfl)) (by decide) (a := r) E_r (rmOrd l Z a0 hw r o h0 n0 Z0 Fo) e1 (g := (mkF m 5 #[.val (.ref a1), .val (.ref r)] [(.ref r), (.ref t)])) rfl (by rw [hml]; rfl) (argsL := []) (rest := [(.ref t)]) (lenOf pd_6 rfl) rfl (W := 1) (by show 2 * 0 + _ ≤ _; exact Nat.le_of_eq rfl) (hb hby d9_5) (by decide) (by decide) (by decide) (by decide)
  obtain ⟨rfl, N2q, hh2⟩ := hQ2
  have N2 := Fr.app N0 N2q
  rw [hh2] at e2
  refine own_st st2 ?_
  show Fin1 p e below s (rm_getRejectedQ Z a1 r o t kt vs x h0 n0) ({ frames := 1, cells := 0, slots := 0, locals := 13 } : Room).cells ({ frames := 1, cells := 0, slots := 0, locals := 13 } : Room).slots (T2.setTop (mkF m 8 #[.val (.ref a1), .val (.ref r)] [(.int o), (.ref t)]))
  refine own_st (own_ld (j := o) (v := (.long x)) X2 hx hZ e2 V_t ho hv (g := (mkF m 8 #[.val (.ref a1), .val (.ref r)] [(.int o), (.ref t)])) rfl rfl (Or.inr (Or.inl ⟨rfl, rfl⟩)) (hb hby d9_8)) ?_
  show Fin1 p e below s (rm_getRejectedQ Z a1 r o t kt vs x h0 n0) ({ frames := 1, cells := 0, slots := 0, locals := 13 } : Room).cells ({ frames := 1, cells := 0, slots := 0, locals := 13 } : Room).slots (T2.setTop (mkF m 9 #[.val (.ref a1), .val (.ref r)] [(.long x)]))
  exact own_retJ X2 hx hlk hret (hb hby d9_9) (by rw [e2]; exact ⟨rfl, N2, rfl⟩) (by decide) (by decide)
theorem d10_0 : decode prog_25_method_6_code 0 = .ok (.aload_n 0, 1) := by decide +kernel
theorem d10_1 : decode prog_25_method_6_code 1 = .ok (.getfield 13, 3) := by decide +kernel
theorem d10_4 : decode prog_25_method_6_code 4 = .ok (.aload_n 1, 1) := by decide +kernel
theorem d10_5 : decode prog_25_method_6_code 5 = .ok (.invokevirtual 36, 3) := by decide +kernel
theorem d10_8 : decode prog_25_method_6_code 8 = .ok (.laload, 1) := by decide +kernel
theorem d10_9 : decode prog_25_method_6_code 9 = .ok (.lreturn, 1) := by decide +kernel
def rm_getSentQ (Z : State) (a1 : Addr) (r : Addr) (o : Int32) (t : Addr) (kt : ClassId) (vs : List Value) (x : Int64) (h0 : Heap) (n0 : Nat) (v : Option Value) (h : Heap) (L : List Loc) : Prop := v = some (.long x) ∧ Fr n0 L ∧ h = h0
set_option maxRecDepth 65536 in
set_option maxHeartbeats 40000000 in
theorem rm_getSent (l : Launch) (Z : State) (a0 : Array Value) (hw : ∀ d ∈ tables_1, d.before a0 Z = true) (a1 : Addr) (r : Addr) (o : Int32) (t : Addr) (kt : ClassId) (vs : List Value) (x : Int64) (h0 : Heap) (n0 : Nat) (Z0 : n0 ≤ h0.size) (ho : ¬ o < (0 : Int32) ∧ o < (4 : Int32)) (F2 : Fld Z h0 a1 "com/example/electd/electd/service/DatagramCounts" "sent" "[J" (.ref t)) (E_r : Exa Z h0 r "com/example/electd/electd/model/MessageKind") (Fo : Fld Z h0 r "java/lang/Enum" "ordinal" "I" (.int o)) (V_t : Arv Z h0 t kt .long (4 : Int32) vs (.long (0 : Int64))) (hv : vs.getD o.toNatClampNeg (.long (0 : Int64)) = .long x) :
    Ct l Z [] (⟨"com/example/electd/electd/service/DatagramCounts", "getSent", "(Lcom/example/electd/electd/model/MessageKind;)J"⟩ : MethodName) prog_25_method_6_code 2 (some .long) ({ frames := 1, cells := 0, slots := 0, locals := 13 } : Room) #[(.ref a1), (.ref r)] h0 (rm_getSentQ Z a1 r o t kt vs x h0 n0) := by
  refine own_enter (plainFor_of_name pn_3) ?_
  intro p e s m below meth c T0 X0 hx hby hml hZ hown hnm hret hlk e0
  have hown : s.vm.findClass "com/example/electd/electd/service/DatagramCounts" = some m.cls := hown
  have N0 := Fr.nil n0
  have K0 := Keep.refl h0 []
  refine own_st (fun wt wk => castTop (g' := mkF m 0 #[.val (.ref a1), .val (.ref r)] []) (by first | (simp [entryFrame, mkF, argsToLocals, Value.category]; done) | rfl) wk) ?_
  show Fin1 p e below s (rm_getSentQ Z a1 r o t kt vs x h0 n0) ({ frames := 1, cells := 0, slots := 0, locals := 13 } : Room).cells ({ frames := 1, cells := 0, slots := 0, locals := 13 } : Room).slots (T0.setTop (mkF m 0 #[.val (.ref a1), .val (.ref r)] []))
  refine own_st (fun wt wk => XS.aloadN X0.here hx rfl (hb hby d10_0) rfl rfl wk) ?_
  show Fin1 p e below s (rm_getSentQ Z a1 r o t kt vs x h0 n0) ({ frames := 1, cells := 0, slots := 0, locals := 13 } : Room).cells ({ frames := 1, cells := 0, slots := 0, locals := 13 } : Room).slots (T0.setTop (mkF m 1 #[.val (.ref a1), .val (.ref r)] [(.ref a1)]))
  obtain ⟨T1, X1, e1, st1⟩ := getF X0 hx hZ hown (host := "") (Or.inl (hw _ (List.mem_of_getElem? (i := 49) rfl))) Via.refl e0 F2 (g := (mkF m 1 #[.val (.ref a1), .val (.ref r)] [(.ref a1)])) rfl rfl (hb hby d10_1)
  refine own_st st1 ?_
  show Fin1 p e below s (rm_getSentQ Z a1 r o t kt vs x h0 n0) ({ frames := 1, cells := 0, slots := 0, locals := 13 } : Room).cells ({ frames := 1, cells := 0, slots := 0, locals := 13 } : Room).slots (T1.setTop (mkF m 4 #[.val (.ref a1), .val (.ref r)] [(.ref t)]))
  refine own_st (fun wt wk => XS.aloadN X1.here hx rfl (hb hby d10_4) rfl rfl wk) ?_
  show Fin1 p e below s (rm_getSentQ Z a1 r o t kt vs x h0 n0) ({ frames := 1, cells := 0, slots := 0, locals := 13 } : Room).cells ({ frames := 1, cells := 0, slots := 0, locals := 13 } : Room).slots (T1.setTop (mkF m 5 #[.val (.ref a1), .val (.ref r)] [(.ref r), (.ref t)]))
  obtain ⟨v2, T2, h2, L2, X2, e2, hQ2, st2⟩ := own_virtualUp X1 hx hZ hown (hw _ (List.mem_of_getElem? (i := 106) rfl)) (hw _ (List.mem_of_getElem? (i := 107) rfl)) (hw _ (List.mem_of_getElem? (i := 74) rfl)) (hw _ (List.mem_of_getElem? (i := 108) rfl)) (hw _ (List.mem_of_getElem? (i := 75) rfl)) (hw _ (List.mem_of_getElem? (i := 78) rfl)) (hw _ (List.mem_of_getElem? (i := 77) rfl)) (by decide) (a := r) E_r (rmOrd l Z a0 hw r o h0 n0 Z0 Fo) e1 (g := (mkF m 5 #[.val (.ref a1), .val (.ref r)] [(.ref r), (.ref t)])) rfl (by rw [hml]; rfl) (argsL := []) (rest := [(.ref t)]) (lenOf pd_6 rfl) rfl (W := 1) (by show 2 * 0 + _ ≤ _; exact Nat.le_of_eq rfl) (hb hby d10_5) (by decide) (by decide) (by decide) (by decide)
  obtain ⟨rfl, N2q, hh2⟩ := hQ2
  have N2 := Fr.app N0 N2q
  rw [hh2] at e2
  refine own_st st2 ?_
  show Fin1 p e below s (rm_getSentQ Z a1 r o t kt vs x h0 n0) ({ frames := 1, cells := 0, slots := 0, locals := 13 } : Room).cells ({ frames := 1, cells := 0, slots := 0, locals := 13 } : Room).slots (T2.setTop (mkF m 8 #[.val (.ref a1), .val (.ref r)] [(.int o), (.ref t)]))
  refine own_st (own_ld (j := o) (v := (.long x)) X2 hx hZ e2 V_t ho hv (g := (mkF m 8 #[.val (.ref a1), .val (.ref r)] [(.int o), (.ref t)])) rfl rfl (Or.inr (Or.inl ⟨rfl, rfl⟩)) (hb hby d10_8)) ?_
  show Fin1 p e below s (rm_getSentQ Z a1 r o t kt vs x h0 n0) ({ frames := 1, cells := 0, slots := 0, locals := 13 } : Room).cells ({ frames := 1, cells := 0, slots := 0, locals := 13 } : Room).slots (T2.setTop (mkF m 9 #[.val (.ref a1), .val (.ref r)] [(.long x)]))
  exact own_retJ X2 hx hlk hret (hb hby d10_9) (by rw [e2]; exact ⟨rfl, N2, rfl⟩) (by decide) (by decide)
theorem d11_0 : decode prog_25_method_7_code 0 = .ok (.aload_n 0, 1) := by decide +kernel
theorem d11_1 : decode prog_25_method_7_code 1 = .ok (.getfield 19, 3) := by decide +kernel
theorem d11_4 : decode prog_25_method_7_code 4 = .ok (.aload_n 1, 1) := by decide +kernel
theorem d11_5 : decode prog_25_method_7_code 5 = .ok (.invokevirtual 36, 3) := by decide +kernel
theorem d11_8 : decode prog_25_method_7_code 8 = .ok (.laload, 1) := by decide +kernel
theorem d11_9 : decode prog_25_method_7_code 9 = .ok (.lreturn, 1) := by decide +kernel
def rm_getReceivedQ (Z : State) (a1 : Addr) (r : Addr) (o : Int32) (t : Addr) (kt : ClassId) (vs : List Value) (x : Int64) (h0 : Heap) (n0 : Nat) (v : Option Value) (h : Heap) (L : List Loc) : Prop := v = some (.long x) ∧ Fr n0 L ∧ h = h0
set_option maxRecDepth 65536 in
set_option maxHeartbeats 40000000 in
theorem rm_getReceived (l : Launch) (Z : State) (a0 : Array Value) (hw : ∀ d ∈ tables_1, d.before a0 Z = true) (a1 : Addr) (r : Addr) (o : Int32) (t : Addr) (kt : ClassId) (vs : List Value) (x : Int64) (h0 : Heap) (n0 : Nat) (Z0 : n0 ≤ h0.size) (ho : ¬ o < (0 : Int32) ∧ o < (4 : Int32)) (F2 : Fld Z h0 a1 "com/example/electd/electd/service/DatagramCounts" "received" "[J" (.ref t)) (E_r : Exa Z h0 r "com/example/electd/electd/model/MessageKind") (Fo : Fld Z h0 r "java/lang/Enum" "ordinal" "I" (.int o)) (V_t : Arv Z h0 t kt .long (4 : Int32) vs (.long (0 : Int64))) (hv : vs.getD o.toNatClampNeg (.long (0 : Int64)) = .long x) :
    Ct l Z [] (⟨"com/example/electd/electd/service/DatagramCounts", "getReceived", "(Lcom/example/electd/electd/model/MessageKind;)J"⟩ : MethodName) prog_25_method_7_code 2 (some .long) ({ frames := 1, cells := 0, slots := 0, locals := 13 } : Room) #[(.ref a1), (.ref r)] h0 (rm_getReceivedQ Z a1 r o t kt vs x h0 n0) := by
  refine own_enter (plainFor_of_name pn_3) ?_
  intro p e s m below meth c T0 X0 hx hby hml hZ hown hnm hret hlk e0
  have hown : s.vm.findClass "com/example/electd/electd/service/DatagramCounts" = some m.cls := hown
  have N0 := Fr.nil n0
  have K0 := Keep.refl h0 []
  refine own_st (fun wt wk => castTop (g' := mkF m 0 #[.val (.ref a1), .val (.ref r)] []) (by first | (simp [entryFrame, mkF, argsToLocals, Value.category]; done) | rfl) wk) ?_
  show Fin1 p e below s (rm_getReceivedQ Z a1 r o t kt vs x h0 n0) ({ frames := 1, cells := 0, slots := 0, locals := 13 } : Room).cells ({ frames := 1, cells := 0, slots := 0, locals := 13 } : Room).slots (T0.setTop (mkF m 0 #[.val (.ref a1), .val (.ref r)] []))
  refine own_st (fun wt wk => XS.aloadN X0.here hx rfl (hb hby d11_0) rfl rfl wk) ?_
  show Fin1 p e below s (rm_getReceivedQ Z a1 r o t kt vs x h0 n0) ({ frames := 1, cells := 0, slots := 0, locals := 13 } : Room).cells ({ frames := 1, cells := 0, slots := 0, locals := 13 } : Room).slots (T0.setTop (mkF m 1 #[.val (.ref a1), .val (.ref r)] [(.ref a1)]))
  obtain ⟨T1, X1, e1, st1⟩ := getF X0 hx hZ hown (host := "") (Or.inl (hw _ (List.mem_of_getElem? (i := 51) rfl))) Via.refl e0 F2 (g := (mkF m 1 #[.val (.ref a1), .val (.ref r)] [(.ref a1)])) rfl rfl (hb hby d11_1)
  refine own_st st1 ?_
  show Fin1 p e below s (rm_getReceivedQ Z a1 r o t kt vs x h0 n0) ({ frames := 1, cells := 0, slots := 0, locals := 13 } : Room).cells ({ frames := 1, cells := 0, slots := 0, locals := 13 } : Room).slots (T1.setTop (mkF m 4 #[.val (.ref a1), .val (.ref r)] [(.ref t)]))
  refine own_st (fun wt wk => XS.aloadN X1.here hx rfl (hb hby d11_4) rfl rfl wk) ?_
  show Fin1 p e below s (rm_getReceivedQ Z a1 r o t kt vs x h0 n0) ({ frames := 1, cells := 0, slots := 0, locals := 13 } : Room).cells ({ frames := 1, cells := 0, slots := 0, locals := 13 } : Room).slots (T1.setTop (mkF m 5 #[.val (.ref a1), .val (.ref r)] [(.ref r), (.ref t)]))
  obtain ⟨v2, T2, h2, L2, X2, e2, hQ2, st2⟩ := own_virtualUp X1 hx hZ hown (hw _ (List.mem_of_getElem? (i := 106) rfl)) (hw _ (List.mem_of_getElem? (i := 107) rfl)) (hw _ (List.mem_of_getElem? (i := 74) rfl)) (hw _ (List.mem_of_getElem? (i := 108) rfl)) (hw _ (List.mem_of_getElem? (i := 75) rfl)) (hw _ (List.mem_of_getElem? (i := 78) rfl)) (hw _ (List.mem_of_getElem? (i := 77) rfl)) (by decide) (a := r) E_r (rmOrd l Z a0 hw r o h0 n0 Z0 Fo) e1 (g := (mkF m 5 #[.val (.ref a1), .val (.ref r)] [(.ref r), (.ref t)])) rfl (by rw [hml]; rfl) (argsL := []) (rest := [(.ref t)]) (lenOf pd_6 rfl) rfl (W := 1) (by show 2 * 0 + _ ≤ _; exact Nat.le_of_eq rfl) (hb hby d11_5) (by decide) (by decide) (by decide) (by decide)
  obtain ⟨rfl, N2q, hh2⟩ := hQ2
  have N2 := Fr.app N0 N2q
  rw [hh2] at e2
  refine own_st st2 ?_
  show Fin1 p e below s (rm_getReceivedQ Z a1 r o t kt vs x h0 n0) ({ frames := 1, cells := 0, slots := 0, locals := 13 } : Room).cells ({ frames := 1, cells := 0, slots := 0, locals := 13 } : Room).slots (T2.setTop (mkF m 8 #[.val (.ref a1), .val (.ref r)] [(.int o), (.ref t)]))
  refine own_st (own_ld (j := o) (v := (.long x)) X2 hx hZ e2 V_t ho hv (g := (mkF m 8 #[.val (.ref a1), .val (.ref r)] [(.int o), (.ref t)])) rfl rfl (Or.inr (Or.inl ⟨rfl, rfl⟩)) (hb hby d11_8)) ?_
  show Fin1 p e below s (rm_getReceivedQ Z a1 r o t kt vs x h0 n0) ({ frames := 1, cells := 0, slots := 0, locals := 13 } : Room).cells ({ frames := 1, cells := 0, slots := 0, locals := 13 } : Room).slots (T2.setTop (mkF m 9 #[.val (.ref a1), .val (.ref r)] [(.long x)]))
  exact own_retJ X2 hx hlk hret (hb hby d11_9) (by rw [e2]; exact ⟨rfl, N2, rfl⟩) (by decide) (by decide)
theorem own_selM {Z : State} {va x0 x1 x2 x3 : Addr} {vc : Cell} (E : own_M Z va x0 x1 x2 x3 vc) (o : Int32) (ho : ¬ o < (0 : Int32) ∧ o < (4 : Int32)) : ∃ r : Addr, ([.ref x0, .ref x1, .ref x2, .ref x3] : List Value).getD o.toNatClampNeg .null = .ref r ∧ Exa Z Z.heap r "com/example/electd/electd/model/MessageKind" ∧ Fld Z Z.heap r "java/lang/Enum" "ordinal" "I" (.int o) := by
  obtain ⟨-, -, -, -, -, ⟨-, Q0, O0⟩, ⟨-, Q1, O1⟩, ⟨-, Q2, O2⟩, ⟨-, Q3, O3⟩⟩ := E
  rcases own_four o ho with rfl | rfl | rfl | rfl
  · exact ⟨x0, rfl, Q0, O0⟩
  · exact ⟨x1, rfl, Q1, O1⟩
  · exact ⟨x2, rfl, Q2, O2⟩
  · exact ⟨x3, rfl, Q3, O3⟩
theorem own_selJ {Z : State} {va x0 x1 x2 x3 : Addr} {vc : Cell} (E : own_J Z va x0 x1 x2 x3 vc) (o : Int32) (ho : ¬ o < (0 : Int32) ∧ o < (4 : Int32)) : ∃ r : Addr, ([.ref x0, .ref x1, .ref x2, .ref x3] : List Value).getD o.toNatClampNeg .null = .ref r ∧ Exa Z Z.heap r "com/example/electd/electd/io/Rejection" ∧ Fld Z Z.heap r "java/lang/Enum" "ordinal" "I" (.int o) := by
  obtain ⟨-, -, -, -, -, ⟨-, Q0, O0⟩, ⟨-, Q1, O1⟩, ⟨-, Q2, O2⟩, ⟨-, Q3, O3⟩⟩ := E
  rcases own_four o ho with rfl | rfl | rfl | rfl
  · exact ⟨x0, rfl, Q0, O0⟩
  · exact ⟨x1, rfl, Q1, O1⟩
  · exact ⟨x2, rfl, Q2, O2⟩
  · exact ⟨x3, rfl, Q3, O3⟩
theorem own_getf (f : Int32 → Int64) (o : Int32) (ho : ¬ o < (0 : Int32) ∧ o < (4 : Int32)) : ([.long (f 0), .long (f 1), .long (f 2), .long (f 3)] : List Value).getD o.toNatClampNeg (.long (0 : Int64)) = .long (f o) := by
  rcases own_four o ho with rfl | rfl | rfl | rfl <;> rfl
theorem d7_0 : decode prog_25_method_5_code 0 = .ok (.new 14, 3) := by decide +kernel
theorem d7_3 : decode prog_25_method_5_code 3 = .ok (.dup, 1) := by decide +kernel
theorem d7_4 : decode prog_25_method_5_code 4 = .ok (.invokespecial 41, 3) := by decide +kernel
theorem d7_7 : decode prog_25_method_5_code 7 = .ok (.astore_n 1, 1) := by decide +kernel
theorem d7_8 : decode prog_25_method_5_code 8 = .ok (.aload_n 0, 1) := by decide +kernel
theorem d7_9 : decode prog_25_method_5_code 9 = .ok (.getfield 13, 3) := by decide +kernel
theorem d7_12 : decode prog_25_method_5_code 12 = .ok (.iconst 0, 1) := by decide +kernel
theorem d7_13 : decode prog_25_method_5_code 13 = .ok (.aload_n 1, 1) := by decide +kernel
theorem d7_14 : decode prog_25_method_5_code 14 = .ok (.getfield 13, 3) := by decide +kernel
theorem d7_17 : decode prog_25_method_5_code 17 = .ok (.iconst 0, 1) := by decide +kernel
theorem d7_18 : decode prog_25_method_5_code 18 = .ok (.aload_n 0, 1) := by decide +kernel
theorem d7_19 : decode prog_25_method_5_code 19 = .ok (.getfield 13, 3) := by decide +kernel
theorem d7_22 : decode prog_25_method_5_code 22 = .ok (.arraylength, 1) := by decide +kernel
theorem d7_23 : decode prog_25_method_5_code 23 = .ok (.invokestatic 42, 3) := by decide +kernel
theorem d7_26 : decode prog_25_method_5_code 26 = .ok (.aload_n 0, 1) := by decide +kernel
theorem d7_27 : decode prog_25_method_5_code 27 = .ok (.getfield 19, 3) := by decide +kernel
theorem d7_30 : decode prog_25_method_5_code 30 = .ok (.iconst 0, 1) := by decide +kernel
theorem d7_31 : decode prog_25_method_5_code 31 = .ok (.aload_n 1, 1) := by decide +kernel
theorem d7_32 : decode prog_25_method_5_code 32 = .ok (.getfield 19, 3) := by decide +kernel
theorem d7_35 : decode prog_25_method_5_code 35 = .ok (.iconst 0, 1) := by decide +kernel
theorem d7_36 : decode prog_25_method_5_code 36 = .ok (.aload_n 0, 1) := by decide +kernel
theorem d7_37 : decode prog_25_method_5_code 37 = .ok (.getfield 19, 3) := by decide +kernel
theorem d7_40 : decode prog_25_method_5_code 40 = .ok (.arraylength, 1) := by decide +kernel
theorem d7_41 : decode prog_25_method_5_code 41 = .ok (.invokestatic 42, 3) := by decide +kernel
theorem d7_44 : decode prog_25_method_5_code 44 = .ok (.aload_n 0, 1) := by decide +kernel
theorem d7_45 : decode prog_25_method_5_code 45 = .ok (.getfield 27, 3) := by decide +kernel
theorem d7_48 : decode prog_25_method_5_code 48 = .ok (.iconst 0, 1) := by decide +kernel
theorem d7_49 : decode prog_25_method_5_code 49 = .ok (.aload_n 1, 1) := by decide +kernel
theorem d7_50 : decode prog_25_method_5_code 50 = .ok (.getfield 27, 3) := by decide +kernel
theorem d7_53 : decode prog_25_method_5_code 53 = .ok (.iconst 0, 1) := by decide +kernel
theorem d7_54 : decode prog_25_method_5_code 54 = .ok (.aload_n 0, 1) := by decide +kernel
theorem d7_55 : decode prog_25_method_5_code 55 = .ok (.getfield 27, 3) := by decide +kernel
theorem d7_58 : decode prog_25_method_5_code 58 = .ok (.arraylength, 1) := by decide +kernel
theorem d7_59 : decode prog_25_method_5_code 59 = .ok (.invokestatic 42, 3) := by decide +kernel
theorem d7_62 : decode prog_25_method_5_code 62 = .ok (.aload_n 1, 1) := by decide +kernel
theorem d7_63 : decode prog_25_method_5_code 63 = .ok (.areturn, 1) := by decide +kernel
theorem pd_7 : parseMethodDescriptor "()V" = some ⟨[], none⟩ := by decide +kernel
def rmCpQ (Z : State) (a1 : Addr) (t0 : Addr) (t1 : Addr) (t2 : Addr) (k0 : ClassId) (k1 : ClassId) (k2 : ClassId) (c0 : Int64) (c1 : Int64) (c2 : Int64) (c3 : Int64) (vaM : Addr) (xM0 : Addr) (xM1 : Addr) (xM2 : Addr) (xM3 : Addr) (vcM : Cell) (vaJ : Addr) (xJ0 : Addr) (xJ1 : Addr) (xJ2 : Addr) (xJ3 : Addr) (vcJ : Cell) (h0 : Heap) (n0 : Nat) (v : Option Value) (h : Heap) (L : List Loc) : Prop := ∃ (b u0 u1 u2 : Addr) (j0 j1 j2 : ClassId), v = some (.ref b) ∧ Fr n0 L ∧ Keep h0 h [] ∧ (h0.size ≤ b ∧ h0.size ≤ u0 ∧ h0.size ≤ u1 ∧ h0.size ≤ u2) ∧ (b ≠ u0 ∧ b ≠ u1 ∧ b ≠ u2 ∧ u0 ≠ u1 ∧ u0 ≠ u2 ∧ u1 ≠ u2) ∧ Exa Z h b "com/example/electd/electd/service/DatagramCounts" ∧ Fld Z h b "com/example/electd/electd/service/DatagramCounts" "sent" "[J" (.ref u0) ∧ Fld Z h b "com/example/electd/electd/service/DatagramCounts" "received" "[J" (.ref u1) ∧ Fld Z h b "com/example/electd/electd/service/DatagramCounts" "rejected" "[J" (.ref u2) ∧ Arv Z h u0 j0 .long (4 : Int32) [(.long (0 : Int64)), (.long (0 : Int64)), (.long (0 : Int64)), (.long (0 : Int64))] (.long (0 : Int64)) ∧ Arv Z h u1 j1 .long (4 : Int32) [(.long (0 : Int64)), (.long (0 : Int64)), (.long (0 : Int64)), (.long (0 : Int64))] (.long (0 : Int64)) ∧ Arv Z h u2 j2 .long (4 : Int32) [(.long c0), (.long c1), (.long c2), (.long c3)] (.long (0 : Int64))
set_option maxRecDepth 65536 in
set_option maxHeartbeats 40000000 in
theorem rmCp (l : Launch) (Z : State) (a0 : Array Value) (hw : ∀ d ∈ tables_1, d.before a0 Z = true) (a1 : Addr) (t0 : Addr) (t1 : Addr) (t2 : Addr) (k0 : ClassId) (k1 : ClassId) (k2 : ClassId) (c0 : Int64) (c1 : Int64) (c2 : Int64) (c3 : Int64) (vaM : Addr) (xM0 : Addr) (xM1 : Addr) (xM2 : Addr) (xM3 : Addr) (vcM : Cell) (vaJ : Addr) (xJ0 : Addr) (xJ1 : Addr) (xJ2 : Addr) (xJ3 : Addr) (vcJ : Cell) (h0 : Heap) (n0 : Nat) (Z0 : n0 ≤ h0.size) (O : Old Z n0 h0) (EM : own_M Z vaM xM0 xM1 xM2 xM3 vcM) (EJ : own_J Z vaJ xJ0 xJ1 xJ2 xJ3 vcJ) (F0 : Fld Z h0 a1 "com/example/electd/electd/service/DatagramCounts" "sent" "[J" (.ref t0)) (F1 : Fld Z h0 a1 "com/example/electd/electd/service/DatagramCounts" "received" "[J" (.ref t1)) (F2 : Fld Z h0 a1 "com/example/electd/electd/service/DatagramCounts" "rejected" "[J" (.ref t2)) (V_t0 : Arv Z h0 t0 k0 .long (4 : Int32) [(.long (0 : Int64)), (.long (0 : Int64)), (.long (0 : Int64)), (.long (0 : Int64))] (.long (0 : Int64))) (V_t1 : Arv Z h0 t1 k1 .long (4 : Int32) [(.long (0 : Int64)), (.long (0 : Int64)), (.long (0 : Int64)), (.long (0 : Int64))] (.long (0 : Int64))) (V_t2 : Arv Z h0 t2 k2 .long (4 : Int32) [(.long c0), (.long c1), (.long c2), (.long c3)] (.long (0 : Int64))) :
    Ct l Z [] (⟨"com/example/electd/electd/service/DatagramCounts", "copy", "()Lcom/example/electd/electd/service/DatagramCounts;"⟩ : MethodName) prog_25_method_5_code 2 (some (.object "com/example/electd/electd/service/DatagramCounts")) ({ frames := 3, cells := 7, slots := 27, locals := 39 } : Room) #[(.ref a1)] h0 (rmCpQ Z a1 t0 t1 t2 k0 k1 k2 c0 c1 c2 c3 vaM xM0 xM1 xM2 xM3 vcM vaJ xJ0 xJ1 xJ2 xJ3 vcJ h0 n0) := by
  refine own_enter (plainFor_of_name pn_3) ?_
  intro p e s m below meth c T0 X0 hx hby hml hZ hown hnm hret hlk e0
  have hown : s.vm.findClass "com/example/electd/electd/service/DatagramCounts" = some m.cls := hown
  have N0 := Fr.nil n0
  have K0 := Keep.refl h0 []
  refine own_st (fun wt wk => castTop (g' := mkF m 0 #[.val (.ref a1), .unset] []) (by first | (simp [entryFrame, mkF, argsToLocals, Value.category]; done) | rfl) wk) ?_
  show Fin1 p e below s (rmCpQ Z a1 t0 t1 t2 k0 k1 k2 c0 c1 c2 c3 vaM xM0 xM1 xM2 xM3 vcM vaJ xJ0 xJ1 xJ2 xJ3 vcJ h0 n0) ({ frames := 3, cells := 7, slots := 27, locals := 39 } : Room).cells ({ frames := 3, cells := 7, slots := 27, locals := 39 } : Room).slots (T0.setTop (mkF m 0 #[.val (.ref a1), .unset] []))
  obtain ⟨T1, h1, X1, e1, E1, A1, D1, -, st1⟩ := newO X0 hx hZ hown (hw _ (List.mem_of_getElem? (i := 86) rfl)) (hw _ (List.mem_of_getElem? (i := 25) rfl)) (hw _ (List.mem_of_getElem? (i := 26) rfl)) e0 (g := (mkF m 0 #[.val (.ref a1), .unset] [])) rfl (hb hby d7_0) (by decide) (by decide)
  obtain ⟨b, gz_b⟩ : ∃ z, z = h0.size := ⟨_, rfl⟩
  rw [← gz_b] at A1 D1 st1
  have ne_a1_b : a1 ≠ b := Nat.ne_of_lt (Nat.lt_of_lt_of_le F0.lt (Nat.le_of_eq gz_b.symm))
  have ne_t0_b : t0 ≠ b := Nat.ne_of_lt (Nat.lt_of_lt_of_le V_t0.lt (Nat.le_of_eq gz_b.symm))
  have ne_t1_b : t1 ≠ b := Nat.ne_of_lt (Nat.lt_of_lt_of_le V_t1.lt (Nat.le_of_eq gz_b.symm))
  have ne_t2_b : t2 ≠ b := Nat.ne_of_lt (Nat.lt_of_lt_of_le V_t2.lt (Nat.le_of_eq gz_b.symm))
  have sz_b : h0.size ≤ b := Nat.le_trans K0.1 (Nat.le_of_eq gz_b.symm)
  have g_b : n0 ≤ b := Nat.le_trans Z0 (Nat.le_of_eq gz_b.symm)
  have Z0 := Nat.le_trans Z0 E1.1
  have K0 := K0.ext E1
  have O := O.ext E1
  have F0 := F0.ext E1
  have V_t0 := V_t0.ext E1
  have F1 := F1.ext E1
  have V_t1 := V_t1.ext E1
  have F2 := F2.ext E1
  have V_t2 := V_t2.ext E1
  refine own_st st1 ?_
  have E_b := A1
  have F_sent_b : Fld Z h1 b "com/example/electd/electd/service/DatagramCounts" "sent" "[J" .null := D1 (Or.inr (hw _ (List.mem_of_getElem? (i := 50) rfl))) (ty := (.array .long)) (by decide)
  have F_received_b : Fld Z h1 b "com/example/electd/electd/service/DatagramCounts" "received" "[J" .null := D1 (Or.inr (hw _ (List.mem_of_getElem? (i := 52) rfl))) (ty := (.array .long)) (by decide)
  have F_rejected_b : Fld Z h1 b "com/example/electd/electd/service/DatagramCounts" "rejected" "[J" .null := D1 (Or.inr (hw _ (List.mem_of_getElem? (i := 66) rfl))) (ty := (.array .long)) (by decide)
  show Fin1 p e below s (rmCpQ Z a1 t0 t1 t2 k0 k1 k2 c0 c1 c2 c3 vaM xM0 xM1 xM2 xM3 vcM vaJ xJ0 xJ1 xJ2 xJ3 vcJ h0 n0) ({ frames := 3, cells := 7, slots := 27, locals := 39 } : Room).cells ({ frames := 3, cells := 7, slots := 27, locals := 39 } : Room).slots (T1.setTop (mkF m 3 #[.val (.ref a1), .unset] [(.ref b)]))
  refine own_st (fun wt wk => XS.dup X1.here hx rfl (hb hby d7_3) rfl rfl wk) ?_
  show Fin1 p e below s (rmCpQ Z a1 t0 t1 t2 k0 k1 k2 c0 c1 c2 c3 vaM xM0 xM1 xM2 xM3 vcM vaJ xJ0 xJ1 xJ2 xJ3 vcJ h0 n0) ({ frames := 3, cells := 7, slots := 27, locals := 39 } : Room).cells ({ frames := 3, cells := 7, slots := 27, locals := 39 } : Room).slots (T1.setTop (mkF m 4 #[.val (.ref a1), .unset] [(.ref b), (.ref b)]))
  obtain ⟨v2, T2, h2, L2, X2, e2, hQ2, st2⟩ := own_special X1 hx hZ hown rfl (hw _ (List.mem_of_getElem? (i := 87) rfl)) (hw _ (List.mem_of_getElem? (i := 28) rfl)) (hw _ (List.mem_of_getElem? (i := 29) rfl)) (hw _ (List.mem_of_getElem? (i := 26) rfl)) (by decide) (a := b) (rmC l Z a0 hw b vaM xM0 xM1 xM2 xM3 vcM vaJ xJ0 xJ1 xJ2 xJ3 vcJ h1 n0 Z0 g_b E_b F_sent_b F_received_b F_rejected_b O EM EJ) e1 (g := (mkF m 4 #[.val (.ref a1), .unset] [(.ref b), (.ref b)])) rfl (by rw [hml]; rfl) (argsL := []) (rest := [(.ref b)]) (lenOf pd_7 rfl) rfl (W := 1) (by show 2 * 0 + _ ≤ _; exact Nat.le_of_eq rfl) (hb hby d7_4) (by decide) (by decide) (by decide) (by decide)
  obtain ⟨rfl, N2q, u0, u1, u2, j0, j1, j2, K2, ⟨s0, s1, s2⟩, ⟨ne_u0_u1, ne_u0_u2, ne_u1_u2⟩, G0, G1, G2, V_u0, V_u1, V_u2⟩ := hQ2
  have N2 := Fr.app N0 N2q
  have ne_a1_u0 : a1 ≠ u0 := Nat.ne_of_lt (Nat.lt_of_lt_of_le F0.lt s0)
  have ne_t0_u0 : t0 ≠ u0 := Nat.ne_of_lt (Nat.lt_of_lt_of_le V_t0.lt s0)
  have ne_t1_u0 : t1 ≠ u0 := Nat.ne_of_lt (Nat.lt_of_lt_of_le V_t1.lt s0)
  have ne_t2_u0 : t2 ≠ u0 := Nat.ne_of_lt (Nat.lt_of_lt_of_le V_t2.lt s0)
  have ne_b_u0 : b ≠ u0 := Nat.ne_of_lt (Nat.lt_of_lt_of_le E_b.lt s0)
  have sz_u0 : h0.size ≤ u0 := Nat.le_trans K0.1 s0
  have g_u0 : n0 ≤ u0 := Nat.le_trans Z0 s0
  have ne_a1_u1 : a1 ≠ u1 := Nat.ne_of_lt (Nat.lt_of_lt_of_le F0.lt s1)
  have ne_t0_u1 : t0 ≠ u1 := Nat.ne_of_lt (Nat.lt_of_lt_of_le V_t0.lt s1)
  have ne_t1_u1 : t1 ≠ u1 := Nat.ne_of_lt (Nat.lt_of_lt_of_le V_t1.lt s1)
  have ne_t2_u1 : t2 ≠ u1 := Nat.ne_of_lt (Nat.lt_of_lt_of_le V_t2.lt s1)
  have ne_b_u1 : b ≠ u1 := Nat.ne_of_lt (Nat.lt_of_lt_of_le E_b.lt s1)
  have sz_u1 : h0.size ≤ u1 := Nat.le_trans K0.1 s1
  have g_u1 : n0 ≤ u1 := Nat.le_trans Z0 s1
  have ne_a1_u2 : a1 ≠ u2 := Nat.ne_of_lt (Nat.lt_of_lt_of_le F0.lt s2)
  have ne_t0_u2 : t0 ≠ u2 := Nat.ne_of_lt (Nat.lt_of_lt_of_le V_t0.lt s2)
  have ne_t1_u2 : t1 ≠ u2 := Nat.ne_of_lt (Nat.lt_of_lt_of_le V_t1.lt s2)
  have ne_t2_u2 : t2 ≠ u2 := Nat.ne_of_lt (Nat.lt_of_lt_of_le V_t2.lt s2)
  have ne_b_u2 : b ≠ u2 := Nat.ne_of_lt (Nat.lt_of_lt_of_le E_b.lt s2)
  have sz_u2 : h0.size ≤ u2 := Nat.le_trans K0.1 s2
  have g_u2 : n0 ≤ u2 := Nat.le_trans Z0 s2
  have Z0 := Nat.le_trans Z0 K2.1
  have K0 := K0.trans K2 (allS (P := fun x => x ∈ ([] : List Addr) ∨ h0.size ≤ x) (Or.inr sz_b) all0)
  have O := O.keep K2 (allS (P := fun x => n0 ≤ x) g_b all0)
  have F0 := F0.keep K2 (ninS ne_a1_b nin0)
  have V_t0 := V_t0.keep K2 (ninS ne_t0_b nin0)
  have F1 := F1.keep K2 (ninS ne_a1_b nin0)
  have V_t1 := V_t1.keep K2 (ninS ne_t1_b nin0)
  have F2 := F2.keep K2 (ninS ne_a1_b nin0)
  have V_t2 := V_t2.keep K2 (ninS ne_t2_b nin0)
  have E_b := E_b.keep K2
  refine own_st st2 ?_
  show Fin1 p e below s (rmCpQ Z a1 t0 t1 t2 k0 k1 k2 c0 c1 c2 c3 vaM xM0 xM1 xM2 xM3 vcM vaJ xJ0 xJ1 xJ2 xJ3 vcJ h0 n0) ({ frames := 3, cells := 7, slots := 27, locals := 39 } : Room).cells ({ frames := 3, cells := 7, slots := 27, locals := 39 } : Room).slots (T2.setTop (mkF m 7 #[.val (.ref a1), .unset] [(.ref b)]))
  refine own_st (fun wt wk => XS.astoreN X2.here hx rfl (hb hby d7_7) rfl rfl (l' := #[.val (.ref a1), .val (.ref b)]) rfl wk) ?_
  show Fin1 p e below s (rmCpQ Z a1 t0 t1 t2 k0 k1 k2 c0 c1 c2 c3 vaM xM0 xM1 xM2 xM3 vcM vaJ xJ0 xJ1 xJ2 xJ3 vcJ h0 n0) ({ frames := 3, cells := 7, slots := 27, locals := 39 } : Room).cells ({ frames := 3, cells := 7, slots := 27, locals := 39 } : Room).slots (T2.setTop (mkF m 8 #[.val (.ref a1), .val (.ref b)] []))
  refine own_st (fun wt wk => XS.aloadN X2.here hx rfl (hb hby d7_8) rfl rfl wk) ?_
  show Fin1 p e below s (rmCpQ Z a1 t0 t1 t2 k0 k1 k2 c0 c1 c2 c3 vaM xM0 xM1 xM2 xM3 vcM vaJ xJ0 xJ1 xJ2 xJ3 vcJ h0 n0) ({ frames := 3, cells := 7, slots := 27, locals := 39 } : Room).cells ({ frames := 3, cells := 7, slots := 27, locals := 39 } : Room).slots (T2.setTop (mkF m 9 #[.val (.ref a1), .val (.ref b)] [(.ref a1)]))
  obtain ⟨T3, X3, e3, st3⟩ := getF X2 hx hZ hown (host := "") (Or.inl (hw _ (List.mem_of_getElem? (i := 49) rfl))) Via.refl e2 F0 (g := (mkF m 9 #[.val (.ref a1), .val (.ref b)] [(.ref a1)])) rfl rfl (hb hby d7_9)
  refine own_st st3 ?_
  show Fin1 p e below s (rmCpQ Z a1 t0 t1 t2 k0 k1 k2 c0 c1 c2 c3 vaM xM0 xM1 xM2 xM3 vcM vaJ xJ0 xJ1 xJ2 xJ3 vcJ h0 n0) ({ frames := 3, cells := 7, slots := 27, locals := 39 } : Room).cells ({ frames := 3, cells := 7, slots := 27, locals := 39 } : Room).slots (T3.setTop (mkF m 12 #[.val (.ref a1), .val (.ref b)] [(.ref t0)]))
  refine own_st (fun wt wk => XS.iconst X3.here hx rfl (hb hby d7_12) wk) ?_
  show Fin1 p e below s (rmCpQ Z a1 t0 t1 t2 k0 k1 k2 c0 c1 c2 c3 vaM xM0 xM1 xM2 xM3 vcM vaJ xJ0 xJ1 xJ2 xJ3 vcJ h0 n0) ({ frames := 3, cells := 7, slots := 27, locals := 39 } : Room).cells ({ frames := 3, cells := 7, slots := 27, locals := 39 } : Room).slots (T3.setTop (mkF m 13 #[.val (.ref a1), .val (.ref b)] [(.int (0 : Int32)), (.ref t0)]))
  refine own_st (fun wt wk => XS.aloadN X3.here hx rfl (hb hby d7_13) rfl rfl wk) ?_
  show Fin1 p e below s (rmCpQ Z a1 t0 t1 t2 k0 k1 k2 c0 c1 c2 c3 vaM xM0 xM1 xM2 xM3 vcM vaJ xJ0 xJ1 xJ2 xJ3 vcJ h0 n0) ({ frames := 3, cells := 7, slots := 27, locals := 39 } : Room).cells ({ frames := 3, cells := 7, slots := 27, locals := 39 } : Room).slots (T3.setTop (mkF m 14 #[.val (.ref a1), .val (.ref b)] [(.ref b), (.int (0 : Int32)), (.ref t0)]))
  obtain ⟨T4, X4, e4, st4⟩ := getF X3 hx hZ hown (host := "") (Or.inl (hw _ (List.mem_of_getElem? (i := 49) rfl))) Via.refl e3 G0 (g := (mkF m 14 #[.val (.ref a1), .val (.ref b)] [(.ref b), (.int (0 : Int32)), (.ref t0)])) rfl rfl (hb hby d7_14)
  refine own_st st4 ?_
  show Fin1 p e below s (rmCpQ Z a1 t0 t1 t2 k0 k1 k2 c0 c1 c2 c3 vaM xM0 xM1 xM2 xM3 vcM vaJ xJ0 xJ1 xJ2 xJ3 vcJ h0 n0) ({ frames := 3, cells := 7, slots := 27, locals := 39 } : Room).cells ({ frames := 3, cells := 7, slots := 27, locals := 39 } : Room).slots (T4.setTop (mkF m 17 #[.val (.ref a1), .val (.ref b)] [(.ref u0), (.int (0 : Int32)), (.ref t0)]))
  refine own_st (fun wt wk => XS.iconst X4.here hx rfl (hb hby d7_17) wk) ?_
  show Fin1 p e below s (rmCpQ Z a1 t0 t1 t2 k0 k1 k2 c0 c1 c2 c3 vaM xM0 xM1 xM2 xM3 vcM vaJ xJ0 xJ1 xJ2 xJ3 vcJ h0 n0) ({ frames := 3, cells := 7, slots := 27, locals := 39 } : Room).cells ({ frames := 3, cells := 7, slots := 27, locals := 39 } : Room).slots (T4.setTop (mkF m 18 #[.val (.ref a1), .val (.ref b)] [(.int (0 : Int32)), (.ref u0), (.int (0 : Int32)), (.ref t0)]))
  refine own_st (fun wt wk => XS.aloadN X4.here hx rfl (hb hby d7_18) rfl rfl wk) ?_
  show Fin1 p e below s (rmCpQ Z a1 t0 t1 t2 k0 k1 k2 c0 c1 c2 c3 vaM xM0 xM1 xM2 xM3 vcM vaJ xJ0 xJ1 xJ2 xJ3 vcJ h0 n0) ({ frames := 3, cells := 7, slots := 27, locals := 39 } : Room).cells ({ frames := 3, cells := 7, slots := 27, locals := 39 } : Room).slots (T4.setTop (mkF m 19 #[.val (.ref a1), .val (.ref b)] [(.ref a1), (.int (0 : Int32)), (.ref u0), (.int (0 : Int32)), (.ref t0)]))
  obtain ⟨T5, X5, e5, st5⟩ := getF X4 hx hZ hown (host := "") (Or.inl (hw _ (List.mem_of_getElem? (i := 49) rfl))) Via.refl e4 F0 (g := (mkF m 19 #[.val (.ref a1), .val (.ref b)] [(.ref a1), (.int (0 : Int32)), (.ref u0), (.int (0 : Int32)), (.ref t0)])) rfl rfl (hb hby d7_19)
  refine own_st st5 ?_
  show Fin1 p e below s (rmCpQ Z a1 t0 t1 t2 k0 k1 k2 c0 c1 c2 c3 vaM xM0 xM1 xM2 xM3 vcM vaJ xJ0 xJ1 xJ2 xJ3 vcJ h0 n0) ({ frames := 3, cells := 7, slots := 27, locals := 39 } : Room).cells ({ frames := 3, cells := 7, slots := 27, locals := 39 } : Room).slots (T5.setTop (mkF m 22 #[.val (.ref a1), .val (.ref b)] [(.ref t0), (.int (0 : Int32)), (.ref u0), (.int (0 : Int32)), (.ref t0)]))
  refine own_st (own_len X5 hx hZ e5 V_t0 (g := (mkF m 22 #[.val (.ref a1), .val (.ref b)] [(.ref t0), (.int (0 : Int32)), (.ref u0), (.int (0 : Int32)), (.ref t0)])) rfl rfl (hb hby d7_22)) ?_
  show Fin1 p e below s (rmCpQ Z a1 t0 t1 t2 k0 k1 k2 c0 c1 c2 c3 vaM xM0 xM1 xM2 xM3 vcM vaJ xJ0 xJ1 xJ2 xJ3 vcJ h0 n0) ({ frames := 3, cells := 7, slots := 27, locals := 39 } : Room).cells ({ frames := 3, cells := 7, slots := 27, locals := 39 } : Room).slots (T5.setTop (mkF m 23 #[.val (.ref a1), .val (.ref b)] [(.int (4 : Int32)), (.int (0 : Int32)), (.ref u0), (.int (0 : Int32)), (.ref t0)]))
  obtain ⟨T6, h6, L6, X6, e6, N6, K6, U6, st6⟩ := cpA X5 hx hZ hown (hw _ (List.mem_of_getElem? (i := 88) rfl)) (hw _ (List.mem_of_getElem? (i := 91) rfl)) (hw _ (List.mem_of_getElem? (i := 89) rfl)) (hw _ (List.mem_of_getElem? (i := 90) rfl)) e5 V_t0 V_u0 (us := [(.long (0 : Int64)), (.long (0 : Int64)), (.long (0 : Int64)), (.long (0 : Int64))]) (Or.inl ⟨rfl, rfl⟩) (by decide) (by decide) (by decide) (by decide) (by decide) rfl (Nat.le_of_ble_eq_true rfl) N2 g_u0 (g := (mkF m 23 #[.val (.ref a1), .val (.ref b)] [(.int (4 : Int32)), (.int (0 : Int32)), (.ref u0), (.int (0 : Int32)), (.ref t0)])) rfl (by rw [hml]; rfl) rfl (hb hby d7_23) (by decide) (W := 0) (by show 2 * 0 + _ ≤ _; exact Nat.le_of_eq rfl) (by first | decide | (simp [nativeFrameWords]; done) | decide +kernel)
  have Z0 := Nat.le_trans Z0 K6.1
  have K0 := K0.trans K6 (allS (P := fun x => x ∈ ([] : List Addr) ∨ h0.size ≤ x) (Or.inr sz_u0) all0)
  have O := O.keep K6 (allS (P := fun x => n0 ≤ x) g_u0 all0)
  have F0 := F0.keep K6 (ninS ne_a1_u0 nin0)
  have V_t0 := V_t0.keep K6 (ninS ne_t0_u0 nin0)
  have F1 := F1.keep K6 (ninS ne_a1_u0 nin0)
  have V_t1 := V_t1.keep K6 (ninS ne_t1_u0 nin0)
  have F2 := F2.keep K6 (ninS ne_a1_u0 nin0)
  have V_t2 := V_t2.keep K6 (ninS ne_t2_u0 nin0)
  have E_b := E_b.keep K6
  have G0 := G0.keep K6 (ninS ne_b_u0 nin0)
  have G1 := G1.keep K6 (ninS ne_b_u0 nin0)
  have G2 := G2.keep K6 (ninS ne_b_u0 nin0)
  have V_u1 := V_u1.keep K6 (ninS (Ne.symm ne_u0_u1) nin0)
  have V_u2 := V_u2.keep K6 (ninS (Ne.symm ne_u0_u2) nin0)
  have V_u0 : Arv Z h6 u0 j0 .long (4 : Int32) [(.long (0 : Int64)), (.long (0 : Int64)), (.long (0 : Int64)), (.long (0 : Int64))] (.long (0 : Int64)) := U6
  refine own_st st6 ?_
  show Fin1 p e below s (rmCpQ Z a1 t0 t1 t2 k0 k1 k2 c0 c1 c2 c3 vaM xM0 xM1 xM2 xM3 vcM vaJ xJ0 xJ1 xJ2 xJ3 vcJ h0 n0) ({ frames := 3, cells := 7, slots := 27, locals := 39 } : Room).cells ({ frames := 3, cells := 7, slots := 27, locals := 39 } : Room).slots (T6.setTop (mkF m 26 #[.val (.ref a1), .val (.ref b)] []))
  refine own_st (fun wt wk => XS.aloadN X6.here hx rfl (hb hby d7_26) rfl rfl wk) ?_
  show Fin1 p e below s (rmCpQ Z a1 t0 t1 t2 k0 k1 k2 c0 c1 c2 c3 vaM xM0 xM1 xM2 xM3 vcM vaJ xJ0 xJ1 xJ2 xJ3 vcJ h0 n0) ({ frames := 3, cells := 7, slots := 27, locals := 39 } : Room).cells ({ frames := 3, cells := 7, slots := 27, locals := 39 } : Room).slots (T6.setTop (mkF m 27 #[.val (.ref a1), .val (.ref b)] [(.ref a1)]))
  obtain ⟨T7, X7, e7, st7⟩ := getF X6 hx hZ hown (host := "") (Or.inl (hw _ (List.mem_of_getElem? (i := 51) rfl))) Via.refl e6 F1 (g := (mkF m 27 #[.val (.ref a1), .val (.ref b)] [(.ref a1)])) rfl rfl (hb hby d7_27)
  refine own_st st7 ?_
  show Fin1 p e below s (rmCpQ Z a1 t0 t1 t2 k0 k1 k2 c0 c1 c2 c3 vaM xM0 xM1 xM2 xM3 vcM vaJ xJ0 xJ1 xJ2 xJ3 vcJ h0 n0) ({ frames := 3, cells := 7, slots := 27, locals := 39 } : Room).cells ({ frames := 3, cells := 7, slots := 27, locals := 39 } : Room).slots (T7.setTop (mkF m 30 #[.val (.ref a1), .val (.ref b)] [(.ref t1)]))
  refine own_st (fun wt wk => XS.iconst X7.here hx rfl (hb hby d7_30) wk) ?_
  show Fin1 p e below s (rmCpQ Z a1 t0 t1 t2 k0 k1 k2 c0 c1 c2 c3 vaM xM0 xM1 xM2 xM3 vcM vaJ xJ0 xJ1 xJ2 xJ3 vcJ h0 n0) ({ frames := 3, cells := 7, slots := 27, locals := 39 } : Room).cells ({ frames := 3, cells := 7, slots := 27, locals := 39 } : Room).slots (T7.setTop (mkF m 31 #[.val (.ref a1), .val (.ref b)] [(.int (0 : Int32)), (.ref t1)]))
  refine own_st (fun wt wk => XS.aloadN X7.here hx rfl (hb hby d7_31) rfl rfl wk) ?_
  show Fin1 p e below s (rmCpQ Z a1 t0 t1 t2 k0 k1 k2 c0 c1 c2 c3 vaM xM0 xM1 xM2 xM3 vcM vaJ xJ0 xJ1 xJ2 xJ3 vcJ h0 n0) ({ frames := 3, cells := 7, slots := 27, locals := 39 } : Room).cells ({ frames := 3, cells := 7, slots := 27, locals := 39 } : Room).slots (T7.setTop (mkF m 32 #[.val (.ref a1), .val (.ref b)] [(.ref b), (.int (0 : Int32)), (.ref t1)]))
  obtain ⟨T8, X8, e8, st8⟩ := getF X7 hx hZ hown (host := "") (Or.inl (hw _ (List.mem_of_getElem? (i := 51) rfl))) Via.refl e7 G1 (g := (mkF m 32 #[.val (.ref a1), .val (.ref b)] [(.ref b), (.int (0 : Int32)), (.ref t1)])) rfl rfl (hb hby d7_32)
  refine own_st st8 ?_
  show Fin1 p e below s (rmCpQ Z a1 t0 t1 t2 k0 k1 k2 c0 c1 c2 c3 vaM xM0 xM1 xM2 xM3 vcM vaJ xJ0 xJ1 xJ2 xJ3 vcJ h0 n0) ({ frames := 3, cells := 7, slots := 27, locals := 39 } : Room).cells ({ frames := 3, cells := 7, slots := 27, locals := 39 } : Room).slots (T8.setTop (mkF m 35 #[.val (.ref a1), .val (.ref b)] [(.ref u1), (.int (0 : Int32)), (.ref t1)]))
  refine own_st (fun wt wk => XS.iconst X8.here hx rfl (hb hby d7_35) wk) ?_
  show Fin1 p e below s (rmCpQ Z a1 t0 t1 t2 k0 k1 k2 c0 c1 c2 c3 vaM xM0 xM1 xM2 xM3 vcM vaJ xJ0 xJ1 xJ2 xJ3 vcJ h0 n0) ({ frames := 3, cells := 7, slots := 27, locals := 39 } : Room).cells ({ frames := 3, cells := 7, slots := 27, locals := 39 } : Room).slots (T8.setTop (mkF m 36 #[.val (.ref a1), .val (.ref b)] [(.int (0 : Int32)), (.ref u1), (.int (0 : Int32)), (.ref t1)]))
  refine own_st (fun wt wk => XS.aloadN X8.here hx rfl (hb hby d7_36) rfl rfl wk) ?_
  show Fin1 p e below s (rmCpQ Z a1 t0 t1 t2 k0 k1 k2 c0 c1 c2 c3 vaM xM0 xM1 xM2 xM3 vcM vaJ xJ0 xJ1 xJ2 xJ3 vcJ h0 n0) ({ frames := 3, cells := 7, slots := 27, locals := 39 } : Room).cells ({ frames := 3, cells := 7, slots := 27, locals := 39 } : Room).slots (T8.setTop (mkF m 37 #[.val (.ref a1), .val (.ref b)] [(.ref a1), (.int (0 : Int32)), (.ref u1), (.int (0 : Int32)), (.ref t1)]))
  obtain ⟨T9, X9, e9, st9⟩ := getF X8 hx hZ hown (host := "") (Or.inl (hw _ (List.mem_of_getElem? (i := 51) rfl))) Via.refl e8 F1 (g := (mkF m 37 #[.val (.ref a1), .val (.ref b)] [(.ref a1), (.int (0 : Int32)), (.ref u1), (.int (0 : Int32)), (.ref t1)])) rfl rfl (hb hby d7_37)
  refine own_st st9 ?_
  show Fin1 p e below s (rmCpQ Z a1 t0 t1 t2 k0 k1 k2 c0 c1 c2 c3 vaM xM0 xM1 xM2 xM3 vcM vaJ xJ0 xJ1 xJ2 xJ3 vcJ h0 n0) ({ frames := 3, cells := 7, slots := 27, locals := 39 } : Room).cells ({ frames := 3, cells := 7, slots := 27, locals := 39 } : Room).slots (T9.setTop (mkF m 40 #[.val (.ref a1), .val (.ref b)] [(.ref t1), (.int (0 : Int32)), (.ref u1), (.int (0 : Int32)), (.ref t1)]))
  refine own_st (own_len X9 hx hZ e9 V_t1 (g := (mkF m 40 #[.val (.ref a1), .val (.ref b)] [(.ref t1), (.int (0 : Int32)), (.ref u1), (.int (0 : Int32)), (.ref t1)])) rfl rfl (hb hby d7_40)) ?_
  show Fin1 p e below s (rmCpQ Z a1 t0 t1 t2 k0 k1 k2 c0 c1 c2 c3 vaM xM0 xM1 xM2 xM3 vcM vaJ xJ0 xJ1 xJ2 xJ3 vcJ h0 n0) ({ frames := 3, cells := 7, slots := 27, locals := 39 } : Room).cells ({ frames := 3, cells := 7, slots := 27, locals := 39 } : Room).slots (T9.setTop (mkF m 41 #[.val (.ref a1), .val (.ref b)] [(.int (4 : Int32)), (.int (0 : Int32)), (.ref u1), (.int (0 : Int32)), (.ref t1)]))
  obtain ⟨T10, h10, L10, X10, e10, N10, K10, U10, st10⟩ := cpA X9 hx hZ hown (hw _ (List.mem_of_getElem? (i := 88) rfl)) (hw _ (List.mem_of_getElem? (i := 91) rfl)) (hw _ (List.mem_of_getElem? (i := 89) rfl)) (hw _ (List.mem_of_getElem? (i := 90) rfl)) e9 V_t1 V_u1 (us := [(.long (0 : Int64)), (.long (0 : Int64)), (.long (0 : Int64)), (.long (0 : Int64))]) (Or.inl ⟨rfl, rfl⟩) (by decide) (by decide) (by decide) (by decide) (by decide) rfl (Nat.le_of_ble_eq_true rfl) N6 g_u1 (g := (mkF m 41 #[.val (.ref a1), .val (.ref b)] [(.int (4 : Int32)), (.int (0 : Int32)), (.ref u1), (.int (0 : Int32)), (.ref t1)])) rfl (by rw [hml]; rfl) rfl (hb hby d7_41) (by decide) (W := 0) (by show 2 * 0 + _ ≤ _; exact Nat.le_of_eq rfl) (by first | decide | (simp [nativeFrameWords]; done) | decide +kernel)
  have Z0 := Nat.le_trans Z0 K10.1
  have K0 := K0.trans K10 (allS (P := fun x => x ∈ ([] : List Addr) ∨ h0.size ≤ x) (Or.inr sz_u1) all0)
  have O := O.keep K10 (allS (P := fun x => n0 ≤ x) g_u1 all0)
  have F0 := F0.keep K10 (ninS ne_a1_u1 nin0)
  have V_t0 := V_t0.keep K10 (ninS ne_t0_u1 nin0)
  have F1 := F1.keep K10 (ninS ne_a1_u1 nin0)
  have V_t1 := V_t1.keep K10 (ninS ne_t1_u1 nin0)
  have F2 := F2.keep K10 (ninS ne_a1_u1 nin0)
  have V_t2 := V_t2.keep K10 (ninS ne_t2_u1 nin0)
  have E_b := E_b.keep K10
  have G0 := G0.keep K10 (ninS ne_b_u1 nin0)
  have G1 := G1.keep K10 (ninS ne_b_u1 nin0)
  have G2 := G2.keep K10 (ninS ne_b_u1 nin0)
  have V_u0 := V_u0.keep K10 (ninS ne_u0_u1 nin0)
  have V_u2 := V_u2.keep K10 (ninS (Ne.symm ne_u1_u2) nin0)
  have V_u1 : Arv Z h10 u1 j1 .long (4 : Int32) [(.long (0 : Int64)), (.long (0 : Int64)), (.long (0 : Int64)), (.long (0 : Int64))] (.long (0 : Int64)) := U10
  refine own_st st10 ?_
  show Fin1 p e below s (rmCpQ Z a1 t0 t1 t2 k0 k1 k2 c0 c1 c2 c3 vaM xM0 xM1 xM2 xM3 vcM vaJ xJ0 xJ1 xJ2 xJ3 vcJ h0 n0) ({ frames := 3, cells := 7, slots := 27, locals := 39 } : Room).cells ({ frames := 3, cells := 7, slots := 27, locals := 39 } : Room).slots (T10.setTop (mkF m 44 #[.val (.ref a1), .val (.ref b)] []))
  refine own_st (fun wt wk => XS.aloadN X10.here hx rfl (hb hby d7_44) rfl rfl wk) ?_
  show Fin1 p e below s (rmCpQ Z a1 t0 t1 t2 k0 k1 k2 c0 c1 c2 c3 vaM xM0 xM1 xM2 xM3 vcM vaJ xJ0 xJ1 xJ2 xJ3 vcJ h0 n0) ({ frames := 3, cells := 7, slots := 27, locals := 39 } : Room).cells ({ frames := 3, cells := 7, slots := 27, locals := 39 } : Room).slots (T10.setTop (mkF m 45 #[.val (.ref a1), .val (.ref b)] [(.ref a1)]))
  obtain ⟨T11, X11, e11, st11⟩ := getF X10 hx hZ hown (host := "") (Or.inl (hw _ (List.mem_of_getElem? (i := 65) rfl))) Via.refl e10 F2 (g := (mkF m 45 #[.val (.ref a1), .val (.ref b)] [(.ref a1)])) rfl rfl (hb hby d7_45)
  refine own_st st11 ?_
  show Fin1 p e below s (rmCpQ Z a1 t0 t1 t2 k0 k1 k2 c0 c1 c2 c3 vaM xM0 xM1 xM2 xM3 vcM vaJ xJ0 xJ1 xJ2 xJ3 vcJ h0 n0) ({ frames := 3, cells := 7, slots := 27, locals := 39 } : Room).cells ({ frames := 3, cells := 7, slots := 27, locals := 39 } : Room).slots (T11.setTop (mkF m 48 #[.val (.ref a1), .val (.ref b)] [(.ref t2)]))
  refine own_st (fun wt wk => XS.iconst X11.here hx rfl (hb hby d7_48) wk) ?_
  show Fin1 p e below s (rmCpQ Z a1 t0 t1 t2 k0 k1 k2 c0 c1 c2 c3 vaM xM0 xM1 xM2 xM3 vcM vaJ xJ0 xJ1 xJ2 xJ3 vcJ h0 n0) ({ frames := 3, cells := 7, slots := 27, locals := 39 } : Room).cells ({ frames := 3, cells := 7, slots := 27, locals := 39 } : Room).slots (T11.setTop (mkF m 49 #[.val (.ref a1), .val (.ref b)] [(.int (0 : Int32)), (.ref t2)]))
  refine own_st (fun wt wk => XS.aloadN X11.here hx rfl (hb hby d7_49) rfl rfl wk) ?_
  show Fin1 p e below s (rmCpQ Z a1 t0 t1 t2 k0 k1 k2 c0 c1 c2 c3 vaM xM0 xM1 xM2 xM3 vcM vaJ xJ0 xJ1 xJ2 xJ3 vcJ h0 n0) ({ frames := 3, cells := 7, slots := 27, locals := 39 } : Room).cells ({ frames := 3, cells := 7, slots := 27, locals := 39 } : Room).slots (T11.setTop (mkF m 50 #[.val (.ref a1), .val (.ref b)] [(.ref b), (.int (0 : Int32)), (.ref t2)]))
  obtain ⟨T12, X12, e12, st12⟩ := getF X11 hx hZ hown (host := "") (Or.inl (hw _ (List.mem_of_getElem? (i := 65) rfl))) Via.refl e11 G2 (g := (mkF m 50 #[.val (.ref a1), .val (.ref b)] [(.ref b), (.int (0 : Int32)), (.ref t2)])) rfl rfl (hb hby d7_50)
  refine own_st st12 ?_
  show Fin1 p e below s (rmCpQ Z a1 t0 t1 t2 k0 k1 k2 c0 c1 c2 c3 vaM xM0 xM1 xM2 xM3 vcM vaJ xJ0 xJ1 xJ2 xJ3 vcJ h0 n0) ({ frames := 3, cells := 7, slots := 27, locals := 39 } : Room).cells ({ frames := 3, cells := 7, slots := 27, locals := 39 } : Room).slots (T12.setTop (mkF m 53 #[.val (.ref a1), .val (.ref b)] [(.ref u2), (.int (0 : Int32)), (.ref t2)]))
  refine own_st (fun wt wk => XS.iconst X12.here hx rfl (hb hby d7_53) wk) ?_
  show Fin1 p e below s (rmCpQ Z a1 t0 t1 t2 k0 k1 k2 c0 c1 c2 c3 vaM xM0 xM1 xM2 xM3 vcM vaJ xJ0 xJ1 xJ2 xJ3 vcJ h0 n0) ({ frames := 3, cells := 7, slots := 27, locals := 39 } : Room).cells ({ frames := 3, cells := 7, slots := 27, locals := 39 } : Room).slots (T12.setTop (mkF m 54 #[.val (.ref a1), .val (.ref b)] [(.int (0 : Int32)), (.ref u2), (.int (0 : Int32)), (.ref t2)]))
  refine own_st (fun wt wk => XS.aloadN X12.here hx rfl (hb hby d7_54) rfl rfl wk) ?_
  show Fin1 p e below s (rmCpQ Z a1 t0 t1 t2 k0 k1 k2 c0 c1 c2 c3 vaM xM0 xM1 xM2 xM3 vcM vaJ xJ0 xJ1 xJ2 xJ3 vcJ h0 n0) ({ frames := 3, cells := 7, slots := 27, locals := 39 } : Room).cells ({ frames := 3, cells := 7, slots := 27, locals := 39 } : Room).slots (T12.setTop (mkF m 55 #[.val (.ref a1), .val (.ref b)] [(.ref a1), (.int (0 : Int32)), (.ref u2), (.int (0 : Int32)), (.ref t2)]))
  obtain ⟨T13, X13, e13, st13⟩ := getF X12 hx hZ hown (host := "") (Or.inl (hw _ (List.mem_of_getElem? (i := 65) rfl))) Via.refl e12 F2 (g := (mkF m 55 #[.val (.ref a1), .val (.ref b)] [(.ref a1), (.int (0 : Int32)), (.ref u2), (.int (0 : Int32)), (.ref t2)])) rfl rfl (hb hby d7_55)
  refine own_st st13 ?_
  show Fin1 p e below s (rmCpQ Z a1 t0 t1 t2 k0 k1 k2 c0 c1 c2 c3 vaM xM0 xM1 xM2 xM3 vcM vaJ xJ0 xJ1 xJ2 xJ3 vcJ h0 n0) ({ frames := 3, cells := 7, slots := 27, locals := 39 } : Room).cells ({ frames := 3, cells := 7, slots := 27, locals := 39 } : Room).slots (T13.setTop (mkF m 58 #[.val (.ref a1), .val (.ref b)] [(.ref t2), (.int (0 : Int32)), (.ref u2), (.int (0 : Int32)), (.ref t2)]))
  refine own_st (own_len X13 hx hZ e13 V_t2 (g := (mkF m 58 #[.val (.ref a1), .val (.ref b)] [(.ref t2), (.int (0 : Int32)), (.ref u2), (.int (0 : Int32)), (.ref t2)])) rfl rfl (hb hby d7_58)) ?_
  show Fin1 p e below s (rmCpQ Z a1 t0 t1 t2 k0 k1 k2 c0 c1 c2 c3 vaM xM0 xM1 xM2 xM3 vcM vaJ xJ0 xJ1 xJ2 xJ3 vcJ h0 n0) ({ frames := 3, cells := 7, slots := 27, locals := 39 } : Room).cells ({ frames := 3, cells := 7, slots := 27, locals := 39 } : Room).slots (T13.setTop (mkF m 59 #[.val (.ref a1), .val (.ref b)] [(.int (4 : Int32)), (.int (0 : Int32)), (.ref u2), (.int (0 : Int32)), (.ref t2)]))
  obtain ⟨T14, h14, L14, X14, e14, N14, K14, U14, st14⟩ := cpA X13 hx hZ hown (hw _ (List.mem_of_getElem? (i := 88) rfl)) (hw _ (List.mem_of_getElem? (i := 91) rfl)) (hw _ (List.mem_of_getElem? (i := 89) rfl)) (hw _ (List.mem_of_getElem? (i := 90) rfl)) e13 V_t2 V_u2 (us := [(.long c0), (.long c1), (.long c2), (.long c3)]) (Or.inl ⟨rfl, rfl⟩) (by decide) (by decide) (by decide) (by decide) (by decide) rfl (Nat.le_of_ble_eq_true rfl) N10 g_u2 (g := (mkF m 59 #[.val (.ref a1), .val (.ref b)] [(.int (4 : Int32)), (.int (0 : Int32)), (.ref u2), (.int (0 : Int32)), (.ref t2)])) rfl (by rw [hml]; rfl) rfl (hb hby d7_59) (by decide) (W := 0) (by show 2 * 0 + _ ≤ _; exact Nat.le_of_eq rfl) (by first | decide | (simp [nativeFrameWords]; done) | decide +kernel)
  have Z0 := Nat.le_trans Z0 K14.1
  have K0 := K0.trans K14 (allS (P := fun x => x ∈ ([] : List Addr) ∨ h0.size ≤ x) (Or.inr sz_u2) all0)
  have O := O.keep K14 (allS (P := fun x => n0 ≤ x) g_u2 all0)
  have F0 := F0.keep K14 (ninS ne_a1_u2 nin0)
  have V_t0 := V_t0.keep K14 (ninS ne_t0_u2 nin0)
  have F1 := F1.keep K14 (ninS ne_a1_u2 nin0)
  have V_t1 := V_t1.keep K14 (ninS ne_t1_u2 nin0)
  have F2 := F2.keep K14 (ninS ne_a1_u2 nin0)
  have V_t2 := V_t2.keep K14 (ninS ne_t2_u2 nin0)
  have E_b := E_b.keep K14
  have G0 := G0.keep K14 (ninS ne_b_u2 nin0)
  have G1 := G1.keep K14 (ninS ne_b_u2 nin0)
  have G2 := G2.keep K14 (ninS ne_b_u2 nin0)
  have V_u0 := V_u0.keep K14 (ninS ne_u0_u2 nin0)
  have V_u1 := V_u1.keep K14 (ninS ne_u1_u2 nin0)
  have V_u2 : Arv Z h14 u2 j2 .long (4 : Int32) [(.long c0), (.long c1), (.long c2), (.long c3)] (.long (0 : Int64)) := U14
  refine own_st st14 ?_
  show Fin1 p e below s (rmCpQ Z a1 t0 t1 t2 k0 k1 k2 c0 c1 c2 c3 vaM xM0 xM1 xM2 xM3 vcM vaJ xJ0 xJ1 xJ2 xJ3 vcJ h0 n0) ({ frames := 3, cells := 7, slots := 27, locals := 39 } : Room).cells ({ frames := 3, cells := 7, slots := 27, locals := 39 } : Room).slots (T14.setTop (mkF m 62 #[.val (.ref a1), .val (.ref b)] []))
  refine own_st (fun wt wk => XS.aloadN X14.here hx rfl (hb hby d7_62) rfl rfl wk) ?_
  show Fin1 p e below s (rmCpQ Z a1 t0 t1 t2 k0 k1 k2 c0 c1 c2 c3 vaM xM0 xM1 xM2 xM3 vcM vaJ xJ0 xJ1 xJ2 xJ3 vcJ h0 n0) ({ frames := 3, cells := 7, slots := 27, locals := 39 } : Room).cells ({ frames := 3, cells := 7, slots := 27, locals := 39 } : Room).slots (T14.setTop (mkF m 63 #[.val (.ref a1), .val (.ref b)] [(.ref b)]))
  exact own_retA X14 hx hlk hret rfl rfl (hb hby d7_63) (by rw [e14]; exact ⟨b, u0, u1, u2, j0, j1, j2, rfl, N14, K0, ⟨sz_b, sz_u0, sz_u1, sz_u2⟩, ⟨ne_b_u0, ne_b_u1, ne_b_u2, ne_u0_u1, ne_u0_u2, ne_u1_u2⟩, E_b, G0, G1, G2, V_u0, V_u1, V_u2⟩) (by decide) (by decide)
theorem d8_0 : decode method_2_code 0 = .ok (.iload_n 0, 1) := by decide +kernel
theorem d8_1 : decode method_2_code 1 = .ok (.iload_n 1, 1) := by decide +kernel
theorem d8_2 : decode method_2_code 2 = .ok (.if_icmp .ne 7, 3) := by decide +kernel
theorem d8_5 : decode method_2_code 5 = .ok (.lconst 1, 1) := by decide +kernel
theorem d8_6 : decode method_2_code 6 = .ok (.goto 4, 3) := by decide +kernel
theorem d8_9 : decode method_2_code 9 = .ok (.lconst 0, 1) := by decide +kernel
theorem d8_10 : decode method_2_code 10 = .ok (.lreturn, 1) := by decide +kernel
theorem pn_8 : plainName "com/example/electd/electd/service/DatagramCountsCopyPinLaw" = true := by first | (simp [plainName, overriddenIn]; done) | decide +kernel
def rmHitQ (Z : State) (i : Int32) (q : Int32) (h0 : Heap) (n0 : Nat) (v : Option Value) (h : Heap) (L : List Loc) : Prop := v = some (.long (own_hit q i)) ∧ Fr n0 L ∧ h = h0
set_option maxRecDepth 65536 in
set_option maxHeartbeats 40000000 in
theorem rmHit (l : Launch) (Z : State) (a0 : Array Value) (hw : ∀ d ∈ tables_1, d.before a0 Z = true) (i : Int32) (q : Int32) (h0 : Heap) (n0 : Nat) (Z0 : n0 ≤ h0.size) :
    Ct l Z [] (⟨"com/example/electd/electd/service/DatagramCountsCopyPinLaw", "hit", "(II)J"⟩ : MethodName) method_2_code 2 (some .long) ({ frames := 0, cells := 0, slots := 0, locals := 0 } : Room) #[(.int i), (.int q)] h0 (rmHitQ Z i q h0 n0) := by
  refine own_enter (plainFor_of_name pn_8) ?_
  intro p e s m below meth c T0 X0 hx hby hml hZ hown hnm hret hlk e0
  have hown : s.vm.findClass "com/example/electd/electd/service/DatagramCountsCopyPinLaw" = some m.cls := hown
  have N0 := Fr.nil n0
  have K0 := Keep.refl h0 []
  refine own_st (fun wt wk => castTop (g' := mkF m 0 #[.val (.int i), .val (.int q)] []) (by first | (simp [entryFrame, mkF, argsToLocals, Value.category]; done) | rfl) wk) ?_
  show Fin1 p e below s (rmHitQ Z i q h0 n0) ({ frames := 0, cells := 0, slots := 0, locals := 0 } : Room).cells ({ frames := 0, cells := 0, slots := 0, locals := 0 } : Room).slots (T0.setTop (mkF m 0 #[.val (.int i), .val (.int q)] []))
  refine own_st (fun wt wk => XS.iloadN X0.here hx rfl (hb hby d8_0) rfl wk) ?_
  show Fin1 p e below s (rmHitQ Z i q h0 n0) ({ frames := 0, cells := 0, slots := 0, locals := 0 } : Room).cells ({ frames := 0, cells := 0, slots := 0, locals := 0 } : Room).slots (T0.setTop (mkF m 1 #[.val (.int i), .val (.int q)] [(.int i)]))
  refine own_st (fun wt wk => XS.iloadN X0.here hx rfl (hb hby d8_1) rfl wk) ?_
  show Fin1 p e below s (rmHitQ Z i q h0 n0) ({ frames := 0, cells := 0, slots := 0, locals := 0 } : Room).cells ({ frames := 0, cells := 0, slots := 0, locals := 0 } : Room).slots (T0.setTop (mkF m 2 #[.val (.int i), .val (.int q)] [(.int q), (.int i)]))
  by_cases c2 : i = q
  · refine own_st (fun wt wk => XS.icmpNo X0.here hx rfl (hb hby d8_2) rfl (teq c2).2 wk) ?_
    show Fin1 p e below s (rmHitQ Z i q h0 n0) ({ frames := 0, cells := 0, slots := 0, locals := 0 } : Room).cells ({ frames := 0, cells := 0, slots := 0, locals := 0 } : Room).slots (T0.setTop (mkF m 5 #[.val (.int i), .val (.int q)] []))
    refine own_st (fun wt wk => XS.lconst X0.here hx rfl (hb hby d8_5) wk) ?_
    show Fin1 p e below s (rmHitQ Z i q h0 n0) ({ frames := 0, cells := 0, slots := 0, locals := 0 } : Room).cells ({ frames := 0, cells := 0, slots := 0, locals := 0 } : Room).slots (T0.setTop (mkF m 6 #[.val (.int i), .val (.int q)] [(.long (1 : Int64))]))
    refine own_st (fun wt wk => XS.goto X0.here hx rfl (pc0 := 6) (pc' := 10) rfl (hb hby d8_6) (by decide) (by decide) wk) ?_
    show Fin1 p e below s (rmHitQ Z i q h0 n0) ({ frames := 0, cells := 0, slots := 0, locals := 0 } : Room).cells ({ frames := 0, cells := 0, slots := 0, locals := 0 } : Room).slots (T0.setTop (mkF m 10 #[.val (.int i), .val (.int q)] [(.long (1 : Int64))]))
    exact own_retJ X0 hx hlk hret (hb hby d8_10) (by rw [e0]; exact ⟨(by simp [own_hit, c2]), N0, rfl⟩) (by decide) (by decide)
  · refine own_st (fun wt wk => XS.icmpYes X0.here hx rfl (pc0 := 2) (pc' := 9) rfl (hb hby d8_2) rfl (feq c2).2 (by decide) (by decide) wk) ?_
    show Fin1 p e below s (rmHitQ Z i q h0 n0) ({ frames := 0, cells := 0, slots := 0, locals := 0 } : Room).cells ({ frames := 0, cells := 0, slots := 0, locals := 0 } : Room).slots (T0.setTop (mkF m 9 #[.val (.int i), .val (.int q)] []))
    refine own_st (fun wt wk => XS.lconst X0.here hx rfl (hb hby d8_9) wk) ?_
    show Fin1 p e below s (rmHitQ Z i q h0 n0) ({ frames := 0, cells := 0, slots := 0, locals := 0 } : Room).cells ({ frames := 0, cells := 0, slots := 0, locals := 0 } : Room).slots (T0.setTop (mkF m 10 #[.val (.int i), .val (.int q)] [(.long (0 : Int64))]))
    exact own_retJ X0 hx hlk hret (hb hby d8_10) (by rw [e0]; exact ⟨(by simp [own_hit, c2]), N0, rfl⟩) (by decide) (by decide)
theorem pd_9 : parseMethodDescriptor "(Lcom/example/electd/electd/io/Rejection;)V" = some ⟨[(.object "com/example/electd/electd/io/Rejection")], none⟩ := by decide +kernel
theorem pd_10 : parseMethodDescriptor "()Lcom/example/electd/electd/service/DatagramCounts;" = some ⟨[], some (.object "com/example/electd/electd/service/DatagramCounts")⟩ := by decide +kernel
theorem pd_11 : parseMethodDescriptor "(II)J" = some ⟨[.int, .int], some .long⟩ := by decide +kernel
theorem pd_12 : parseMethodDescriptor "(Lcom/example/electd/electd/io/Rejection;)J" = some ⟨[(.object "com/example/electd/electd/io/Rejection")], some .long⟩ := by decide +kernel
theorem pd_13 : parseMethodDescriptor "(Lcom/example/electd/electd/model/MessageKind;)J" = some ⟨[(.object "com/example/electd/electd/model/MessageKind")], some .long⟩ := by decide +kernel
def rm0Q (Z : State) (i0 : Int32) (i1 : Int32) (i2 : Int32) (i3 : Int32) (i4 : Int32) (i5 : Int32) (vaM : Addr) (xM0 : Addr) (xM1 : Addr) (xM2 : Addr) (xM3 : Addr) (vcM : Cell) (vaJ : Addr) (xJ0 : Addr) (xJ1 : Addr) (xJ2 : Addr) (xJ3 : Addr) (vcJ : Cell) (h0 : Heap) (n0 : Nat) (v : Option Value) (h : Heap) (L : List Loc) : Prop := v = some (.int (1 : Int32)) ∧ Fr n0 L
set_option maxRecDepth 65536 in
set_option maxHeartbeats 40000000 in
theorem rm0 (l : Launch) (Z : State) (a0 : Array Value) (hw : ∀ d ∈ tables_1, d.before a0 Z = true) (i0 : Int32) (i1 : Int32) (i2 : Int32) (i3 : Int32) (i4 : Int32) (i5 : Int32) (vaM : Addr) (xM0 : Addr) (xM1 : Addr) (xM2 : Addr) (xM3 : Addr) (vcM : Cell) (vaJ : Addr) (xJ0 : Addr) (xJ1 : Addr) (xJ2 : Addr) (xJ3 : Addr) (vcJ : Cell) (h0 : Heap) (n0 : Nat) (Z0 : n0 ≤ h0.size) (O : Old Z n0 h0) (EM : own_M Z vaM xM0 xM1 xM2 xM3 vcM) (EJ : own_J Z vaJ xJ0 xJ1 xJ2 xJ3 vcJ) :
    Ct l Z tables_1 x code maxLocals ret room_1 #[(.int i0), (.int i1), (.int i2), (.int i3), (.int i4), (.int i5)] h0 (rm0Q Z i0 i1 i2 i3 i4 i5 vaM xM0 xM1 xM2 xM3 vcM vaJ xJ0 xJ1 xJ2 xJ3 vcJ h0 n0) := by
  refine own_enter (plainFor_of_name pn_8) ?_
  intro p e s m below meth c T0 X0 hx hby hml hZ hown hnm hret hlk e0
  have hown : s.vm.findClass "com/example/electd/electd/service/DatagramCountsCopyPinLaw" = some m.cls := hown
  have N0 := Fr.nil n0
  have K0 := Keep.refl h0 []
  refine own_st (fun wt wk => castTop (g' := mkF m 0 #[.val (.int i0), .val (.int i1), .val (.int i2), .val (.int i3), .val (.int i4), .val (.int i5), .unset, .unset, .unset, .unset, .unset, .unset, .unset, .unset, .unset, .unset, .unset, .unset, .unset, .unset, .unset, .unset, .unset, .unset, .unset] []) (by first | (simp [entryFrame, mkF, argsToLocals, Value.category, maxLocals]; done) | rfl) wk) ?_
  show Fin1 p e below s (rm0Q Z i0 i1 i2 i3 i4 i5 vaM xM0 xM1 xM2 xM3 vcM vaJ xJ0 xJ1 xJ2 xJ3 vcJ h0 n0) room_1.cells room_1.slots (T0.setTop (mkF m 0 #[.val (.int i0), .val (.int i1), .val (.int i2), .val (.int i3), .val (.int i4), .val (.int i5), .unset, .unset, .unset, .unset, .unset, .unset, .unset, .unset, .unset, .unset, .unset, .unset, .unset, .unset, .unset, .unset, .unset, .unset, .unset] []))
  have EM' := EM
  have EJ' := EJ
  obtain ⟨SMv, AMv, XMv, zMv, FMv, ⟨SM0, QM0, OM0⟩, ⟨SM1, QM1, OM1⟩, ⟨SM2, QM2, OM2⟩, ⟨SM3, QM3, OM3⟩⟩ := EM'
  obtain ⟨SJv, AJv, XJv, zJv, FJv, ⟨SJ0, QJ0, OJ0⟩, ⟨SJ1, QJ1, OJ1⟩, ⟨SJ2, QJ2, OJ2⟩, ⟨SJ3, QJ3, OJ3⟩⟩ := EJ'
  refine own_st (fun wt wk => XS.iconst X0.here hx rfl (hb hby at_0) wk) ?_
  show Fin1 p e below s (rm0Q Z i0 i1 i2 i3 i4 i5 vaM xM0 xM1 xM2 xM3 vcM vaJ xJ0 xJ1 xJ2 xJ3 vcJ h0 n0) room_1.cells room_1.slots (T0.setTop (mkF m 1 #[.val (.int i0), .val (.int i1), .val (.int i2), .val (.int i3), .val (.int i4), .val (.int i5), .unset, .unset, .unset, .unset, .unset, .unset, .unset, .unset, .unset, .unset, .unset, .unset, .unset, .unset, .unset, .unset, .unset, .unset, .unset] [(.int (4 : Int32))]))
  obtain ⟨T1, h1, kc1, X1, e1, E1, A1, Ov1, st1⟩ := newR X0 hx hZ hown (hw _ (List.mem_of_getElem? (i := 0) rfl)) (hw _ (List.mem_of_getElem? (i := 1) rfl)) e0 (g := (mkF m 1 #[.val (.int i0), .val (.int i1), .val (.int i2), .val (.int i3), .val (.int i4), .val (.int i5), .unset, .unset, .unset, .unset, .unset, .unset, .unset, .unset, .unset, .unset, .unset, .unset, .unset, .unset, .unset, .unset, .unset, .unset, .unset] [(.int (4 : Int32))])) rfl (hb hby at_1) rfl (by decide) (cap := 4) (by decide) (by decide) (by decide) (by decide)
  obtain ⟨rs, gz_rs⟩ : ∃ z, z = h0.size := ⟨_, rfl⟩
  rw [← gz_rs] at A1 st1
  have g_rs : n0 ≤ rs := Nat.le_trans Z0 (Nat.le_of_eq gz_rs.symm)
  have Z0 := Nat.le_trans Z0 E1.1
  have O := O.ext E1
  refine own_st st1 ?_
  have V_rs : Arv Z h1 rs kc1 (.object "com/example/electd/electd/io/Rejection") (4 : Int32) [.null, .null, .null, .null] .null := (Arv.new A1 (by decide)).pad (pad_rep [] .null 4)
  show Fin1 p e below s (rm0Q Z i0 i1 i2 i3 i4 i5 vaM xM0 xM1 xM2 xM3 vcM vaJ xJ0 xJ1 xJ2 xJ3 vcJ h0 n0) room_1.cells room_1.slots (T1.setTop (mkF m 4 #[.val (.int i0), .val (.int i1), .val (.int i2), .val (.int i3), .val (.int i4), .val (.int i5), .unset, .unset, .unset, .unset, .unset, .unset, .unset, .unset, .unset, .unset, .unset, .unset, .unset, .unset, .unset, .unset, .unset, .unset, .unset] [(.ref rs)]))
  refine own_st (fun wt wk => XS.dup X1.here hx rfl (hb hby at_4) rfl rfl wk) ?_
  show Fin1 p e below s (rm0Q Z i0 i1 i2 i3 i4 i5 vaM xM0 xM1 xM2 xM3 vcM vaJ xJ0 xJ1 xJ2 xJ3 vcJ h0 n0) room_1.cells room_1.slots (T1.setTop (mkF m 5 #[.val (.int i0), .val (.int i1), .val (.int i2), .val (.int i3), .val (.int i4), .val (.int i5), .unset, .unset, .unset, .unset, .unset, .unset, .unset, .unset, .unset, .unset, .unset, .unset, .unset, .unset, .unset, .unset, .unset, .unset, .unset] [(.ref rs), (.ref rs)]))
  refine own_st (fun wt wk => XS.iconst X1.here hx rfl (hb hby at_5) wk) ?_
  show Fin1 p e below s (rm0Q Z i0 i1 i2 i3 i4 i5 vaM xM0 xM1 xM2 xM3 vcM vaJ xJ0 xJ1 xJ2 xJ3 vcJ h0 n0) room_1.cells room_1.slots (T1.setTop (mkF m 6 #[.val (.int i0), .val (.int i1), .val (.int i2), .val (.int i3), .val (.int i4), .val (.int i5), .unset, .unset, .unset, .unset, .unset, .unset, .unset, .unset, .unset, .unset, .unset, .unset, .unset, .unset, .unset, .unset, .unset, .unset, .unset] [(.int (0 : Int32)), (.ref rs), (.ref rs)]))
  obtain ⟨T2, X2, e2, st2⟩ := getS2 X1 hx hZ hown (host := "") (Or.inl (hw _ (List.mem_of_getElem? (i := 2) rfl))) Via.refl e1 (SJ0.ext O.2) (g := (mkF m 6 #[.val (.int i0), .val (.int i1), .val (.int i2), .val (.int i3), .val (.int i4), .val (.int i5), .unset, .unset, .unset, .unset, .unset, .unset, .unset, .unset, .unset, .unset, .unset, .unset, .unset, .unset, .unset, .unset, .unset, .unset, .unset] [(.int (0 : Int32)), (.ref rs), (.ref rs)])) rfl (hb hby at_6)
  refine own_st st2 ?_
  show Fin1 p e below s (rm0Q Z i0 i1 i2 i3 i4 i5 vaM xM0 xM1 xM2 xM3 vcM vaJ xJ0 xJ1 xJ2 xJ3 vcJ h0 n0) room_1.cells room_1.slots (T2.setTop (mkF m 9 #[.val (.int i0), .val (.int i1), .val (.int i2), .val (.int i3), .val (.int i4), .val (.int i5), .unset, .unset, .unset, .unset, .unset, .unset, .unset, .unset, .unset, .unset, .unset, .unset, .unset, .unset, .unset, .unset, .unset, .unset, .unset] [(.ref xJ0), (.int (0 : Int32)), (.ref rs), (.ref rs)]))
  obtain ⟨T3, h3, X3, e3, W3, U3, st3⟩ := own_stR (j := (0 : Int32)) X2 hx hZ e2 V_rs (C := "com/example/electd/electd/io/Rejection") rfl rfl (Or.inr ⟨xJ0, rfl, Ov1, Ins.self (QJ0.ext O.2)⟩) ⟨by decide, by decide⟩ 0 rfl (by simp) (g := (mkF m 9 #[.val (.int i0), .val (.int i1), .val (.int i2), .val (.int i3), .val (.int i4), .val (.int i5), .unset, .unset, .unset, .unset, .unset, .unset, .unset, .unset, .unset, .unset, .unset, .unset, .unset, .unset, .unset, .unset, .unset, .unset, .unset] [(.ref xJ0), (.int (0 : Int32)), (.ref rs), (.ref rs)])) rfl rfl (hb hby at_9)
  have N3 := Fr.snoc X3 N0 g_rs
  have Z0 := Nat.le_trans Z0 (Nat.le_of_eq W3.size.symm)
  have O := O.wr W3 g_rs
  have V_rs : Arv Z h3 rs kc1 (.object "com/example/electd/electd/io/Rejection") (4 : Int32) [(.ref xJ0), .null, .null, .null] .null := U3
  refine own_st st3 ?_
  show Fin1 p e below s (rm0Q Z i0 i1 i2 i3 i4 i5 vaM xM0 xM1 xM2 xM3 vcM vaJ xJ0 xJ1 xJ2 xJ3 vcJ h0 n0) room_1.cells room_1.slots (T3.setTop (mkF m 10 #[.val (.int i0), .val (.int i1), .val (.int i2), .val (.int i3), .val (.int i4), .val (.int i5), .unset, .unset, .unset, .unset, .unset, .unset, .unset, .unset, .unset, .unset, .unset, .unset, .unset, .unset, .unset, .unset, .unset, .unset, .unset] [(.ref rs)]))
  refine own_st (fun wt wk => XS.dup X3.here hx rfl (hb hby at_10) rfl rfl wk) ?_
  show Fin1 p e below s (rm0Q Z i0 i1 i2 i3 i4 i5 vaM xM0 xM1 xM2 xM3 vcM vaJ xJ0 xJ1 xJ2 xJ3 vcJ h0 n0) room_1.cells room_1.slots (T3.setTop (mkF m 11 #[.val (.int i0), .val (.int i1), .val (.int i2), .val (.int i3), .val (.int i4), .val (.int i5), .unset, .unset, .unset, .unset, .unset, .unset, .unset, .unset, .unset, .unset, .unset, .unset, .unset, .unset, .unset, .unset, .unset, .unset, .unset] [(.ref rs), (.ref rs)]))
  refine own_st (fun wt wk => XS.iconst X3.here hx rfl (hb hby at_11) wk) ?_
  show Fin1 p e below s (rm0Q Z i0 i1 i2 i3 i4 i5 vaM xM0 xM1 xM2 xM3 vcM vaJ xJ0 xJ1 xJ2 xJ3 vcJ h0 n0) room_1.cells room_1.slots (T3.setTop (mkF m 12 #[.val (.int i0), .val (.int i1), .val (.int i2), .val (.int i3), .val (.int i4), .val (.int i5), .unset, .unset, .unset, .unset, .unset, .unset, .unset, .unset, .unset, .unset, .unset, .unset, .unset, .unset, .unset, .unset, .unset, .unset, .unset] [(.int (1 : Int32)), (.ref rs), (.ref rs)]))
  obtain ⟨T4, X4, e4, st4⟩ := getS2 X3 hx hZ hown (host := "") (Or.inl (hw _ (List.mem_of_getElem? (i := 6) rfl))) Via.refl e3 (SJ1.ext O.2) (g := (mkF m 12 #[.val (.int i0), .val (.int i1), .val (.int i2), .val (.int i3), .val (.int i4), .val (.int i5), .unset, .unset, .unset, .unset, .unset, .unset, .unset, .unset, .unset, .unset, .unset, .unset, .unset, .unset, .unset, .unset, .unset, .unset, .unset] [(.int (1 : Int32)), (.ref rs), (.ref rs)])) rfl (hb hby at_12)
  refine own_st st4 ?_
  show Fin1 p e below s (rm0Q Z i0 i1 i2 i3 i4 i5 vaM xM0 xM1 xM2 xM3 vcM vaJ xJ0 xJ1 xJ2 xJ3 vcJ h0 n0) room_1.cells room_1.slots (T4.setTop (mkF m 15 #[.val (.int i0), .val (.int i1), .val (.int i2), .val (.int i3), .val (.int i4), .val (.int i5), .unset, .unset, .unset, .unset, .unset, .unset, .unset, .unset, .unset, .unset, .unset, .unset, .unset, .unset, .unset, .unset, .unset, .unset, .unset] [(.ref xJ1), (.int (1 : Int32)), (.ref rs), (.ref rs)]))
  obtain ⟨T5, h5, X5, e5, W5, U5, st5⟩ := own_stR (j := (1 : Int32)) X4 hx hZ e4 V_rs (C := "com/example/electd/electd/io/Rejection") rfl rfl (Or.inr ⟨xJ1, rfl, Ov1, Ins.self (QJ1.ext O.2)⟩) ⟨by decide, by decide⟩ 1 rfl (by simp) (g := (mkF m 15 #[.val (.int i0), .val (.int i1), .val (.int i2), .val (.int i3), .val (.int i4), .val (.int i5), .unset, .unset, .unset, .unset, .unset, .unset, .unset, .unset, .unset, .unset, .unset, .unset, .unset, .unset, .unset, .unset, .unset, .unset, .unset] [(.ref xJ1), (.int (1 : Int32)), (.ref rs), (.ref rs)])) rfl rfl (hb hby at_15)
  have N5 := Fr.snoc X5 N3 g_rs
  have Z0 := Nat.le_trans Z0 (Nat.le_of_eq W5.size.symm)
  have O := O.wr W5 g_rs
  have V_rs : Arv Z h5 rs kc1 (.object "com/example/electd/electd/io/Rejection") (4 : Int32) [(.ref xJ0), (.ref xJ1), .null, .null] .null := U5
  refine own_st st5 ?_
  show Fin1 p e below s (rm0Q Z i0 i1 i2 i3 i4 i5 vaM xM0 xM1 xM2 xM3 vcM vaJ xJ0 xJ1 xJ2 xJ3 vcJ h0 n0) room_1.cells room_1.slots (T5.setTop (mkF m 16 #[.val (.int i0), .val (.int i1), .val (.int i2), .val (.int i3), .val (.int i4), .val (.int i5), .unset, .unset, .unset, .unset, .unset, .unset, .unset, .unset, .unset, .unset, .unset, .unset, .unset, .unset, .unset, .unset, .unset, .unset, .unset] [(.ref rs)]))
  refine own_st (fun wt wk => XS.dup X5.here hx rfl (hb hby at_16) rfl rfl wk) ?_
  show Fin1 p e below s (rm0Q Z i0 i1 i2 i3 i4 i5 vaM xM0 xM1 xM2 xM3 vcM vaJ xJ0 xJ1 xJ2 xJ3 vcJ h0 n0) room_1.cells room_1.slots (T5.setTop (mkF m 17 #[.val (.int i0), .val (.int i1), .val (.int i2), .val (.int i3), .val (.int i4), .val (.int i5), .unset, .unset, .unset, .unset, .unset, .unset, .unset, .unset, .unset, .unset, .unset, .unset, .unset, .unset, .unset, .unset, .unset, .unset, .unset] [(.ref rs), (.ref rs)]))
  refine own_st (fun wt wk => XS.iconst X5.here hx rfl (hb hby at_17) wk) ?_
  show Fin1 p e below s (rm0Q Z i0 i1 i2 i3 i4 i5 vaM xM0 xM1 xM2 xM3 vcM vaJ xJ0 xJ1 xJ2 xJ3 vcJ h0 n0) room_1.cells room_1.slots (T5.setTop (mkF m 18 #[.val (.int i0), .val (.int i1), .val (.int i2), .val (.int i3), .val (.int i4), .val (.int i5), .unset, .unset, .unset, .unset, .unset, .unset, .unset, .unset, .unset, .unset, .unset, .unset, .unset, .unset, .unset, .unset, .unset, .unset, .unset] [(.int (2 : Int32)), (.ref rs), (.ref rs)]))
  obtain ⟨T6, X6, e6, st6⟩ := getS2 X5 hx hZ hown (host := "") (Or.inl (hw _ (List.mem_of_getElem? (i := 8) rfl))) Via.refl e5 (SJ2.ext O.2) (g := (mkF m 18 #[.val (.int i0), .val (.int i1), .val (.int i2), .val (.int i3), .val (.int i4), .val (.int i5), .unset, .unset, .unset, .unset, .unset, .unset, .unset, .unset, .unset, .unset, .unset, .unset, .unset, .unset, .unset, .unset, .unset, .unset, .unset] [(.int (2 : Int32)), (.ref rs), (.ref rs)])) rfl (hb hby at_18)
  refine own_st st6 ?_
  show Fin1 p e below s (rm0Q Z i0 i1 i2 i3 i4 i5 vaM xM0 xM1 xM2 xM3 vcM vaJ xJ0 xJ1 xJ2 xJ3 vcJ h0 n0) room_1.cells room_1.slots (T6.setTop (mkF m 21 #[.val (.int i0), .val (.int i1), .val (.int i2), .val (.int i3), .val (.int i4), .val (.int i5), .unset, .unset, .unset, .unset, .unset, .unset, .unset, .unset, .unset, .unset, .unset, .unset, .unset, .unset, .unset, .unset, .unset, .unset, .unset] [(.ref xJ2), (.int (2 : Int32)), (.ref rs), (.ref rs)]))
  obtain ⟨T7, h7, X7, e7, W7, U7, st7⟩ := own_stR (j := (2 : Int32)) X6 hx hZ e6 V_rs (C := "com/example/electd/electd/io/Rejection") rfl rfl (Or.inr ⟨xJ2, rfl, Ov1, Ins.self (QJ2.ext O.2)⟩) ⟨by decide, by decide⟩ 2 rfl (by simp) (g := (mkF m 21 #[.val (.int i0), .val (.int i1), .val (.int i2), .val (.int i3), .val (.int i4), .val (.int i5), .unset, .unset, .unset, .unset, .unset, .unset, .unset, .unset, .unset, .unset, .unset, .unset, .unset, .unset, .unset, .unset, .unset, .unset, .unset] [(.ref xJ2), (.int (2 : Int32)), (.ref rs), (.ref rs)])) rfl rfl (hb hby at_21)
  have N7 := Fr.snoc X7 N5 g_rs
  have Z0 := Nat.le_trans Z0 (Nat.le_of_eq W7.size.symm)
  have O := O.wr W7 g_rs
  have V_rs : Arv Z h7 rs kc1 (.object "com/example/electd/electd/io/Rejection") (4 : Int32) [(.ref xJ0), (.ref xJ1), (.ref xJ2), .null] .null := U7
  refine own_st st7 ?_
  show Fin1 p e below s (rm0Q Z i0 i1 i2 i3 i4 i5 vaM xM0 xM1 xM2 xM3 vcM vaJ xJ0 xJ1 xJ2 xJ3 vcJ h0 n0) room_1.cells room_1.slots (T7.setTop (mkF m 22 #[.val (.int i0), .val (.int i1), .val (.int i2), .val (.int i3), .val (.int i4), .val (.int i5), .unset, .unset, .unset, .unset, .unset, .unset, .unset, .unset, .unset, .unset, .unset, .unset, .unset, .unset, .unset, .unset, .unset, .unset, .unset] [(.ref rs)]))
  refine own_st (fun wt wk => XS.dup X7.here hx rfl (hb hby at_22) rfl rfl wk) ?_
  show Fin1 p e below s (rm0Q Z i0 i1 i2 i3 i4 i5 vaM xM0 xM1 xM2 xM3 vcM vaJ xJ0 xJ1 xJ2 xJ3 vcJ h0 n0) room_1.cells room_1.slots (T7.setTop (mkF m 23 #[.val (.int i0), .val (.int i1), .val (.int i2), .val (.int i3), .val (.int i4), .val (.int i5), .unset, .unset, .unset, .unset, .unset, .unset, .unset, .unset, .unset, .unset, .unset, .unset, .unset, .unset, .unset, .unset, .unset, .unset, .unset] [(.ref rs), (.ref rs)]))
  refine own_st (fun wt wk => XS.iconst X7.here hx rfl (hb hby at_23) wk) ?_
  show Fin1 p e below s (rm0Q Z i0 i1 i2 i3 i4 i5 vaM xM0 xM1 xM2 xM3 vcM vaJ xJ0 xJ1 xJ2 xJ3 vcJ h0 n0) room_1.cells room_1.slots (T7.setTop (mkF m 24 #[.val (.int i0), .val (.int i1), .val (.int i2), .val (.int i3), .val (.int i4), .val (.int i5), .unset, .unset, .unset, .unset, .unset, .unset, .unset, .unset, .unset, .unset, .unset, .unset, .unset, .unset, .unset, .unset, .unset, .unset, .unset] [(.int (3 : Int32)), (.ref rs), (.ref rs)]))
  obtain ⟨T8, X8, e8, st8⟩ := getS2 X7 hx hZ hown (host := "") (Or.inl (hw _ (List.mem_of_getElem? (i := 10) rfl))) Via.refl e7 (SJ3.ext O.2) (g := (mkF m 24 #[.val (.int i0), .val (.int i1), .val (.int i2), .val (.int i3), .val (.int i4), .val (.int i5), .unset, .unset, .unset, .unset, .unset, .unset, .unset, .unset, .unset, .unset, .unset, .unset, .unset, .unset, .unset, .unset, .unset, .unset, .unset] [(.int (3 : Int32)), (.ref rs), (.ref rs)])) rfl (hb hby at_24)
  refine own_st st8 ?_
  show Fin1 p e below s (rm0Q Z i0 i1 i2 i3 i4 i5 vaM xM0 xM1 xM2 xM3 vcM vaJ xJ0 xJ1 xJ2 xJ3 vcJ h0 n0) room_1.cells room_1.slots (T8.setTop (mkF m 27 #[.val (.int i0), .val (.int i1), .val (.int i2), .val (.int i3), .val (.int i4), .val (.int i5), .unset, .unset, .unset, .unset, .unset, .unset, .unset, .unset, .unset, .unset, .unset, .unset, .unset, .unset, .unset, .unset, .unset, .unset, .unset] [(.ref xJ3), (.int (3 : Int32)), (.ref rs), (.ref rs)]))
  obtain ⟨T9, h9, X9, e9, W9, U9, st9⟩ := own_stR (j := (3 : Int32)) X8 hx hZ e8 V_rs (C := "com/example/electd/electd/io/Rejection") rfl rfl (Or.inr ⟨xJ3, rfl, Ov1, Ins.self (QJ3.ext O.2)⟩) ⟨by decide, by decide⟩ 3 rfl (by simp) (g := (mkF m 27 #[.val (.int i0), .val (.int i1), .val (.int i2), .val (.int i3), .val (.int i4), .val (.int i5), .unset, .unset, .unset, .unset, .unset, .unset, .unset, .unset, .unset, .unset, .unset, .unset, .unset, .unset, .unset, .unset, .unset, .unset, .unset] [(.ref xJ3), (.int (3 : Int32)), (.ref rs), (.ref rs)])) rfl rfl (hb hby at_27)
  have N9 := Fr.snoc X9 N7 g_rs
  have Z0 := Nat.le_trans Z0 (Nat.le_of_eq W9.size.symm)
  have O := O.wr W9 g_rs
  have V_rs : Arv Z h9 rs kc1 (.object "com/example/electd/electd/io/Rejection") (4 : Int32) [(.ref xJ0), (.ref xJ1), (.ref xJ2), (.ref xJ3)] .null := U9
  refine own_st st9 ?_
  show Fin1 p e below s (rm0Q Z i0 i1 i2 i3 i4 i5 vaM xM0 xM1 xM2 xM3 vcM vaJ xJ0 xJ1 xJ2 xJ3 vcJ h0 n0) room_1.cells room_1.slots (T9.setTop (mkF m 28 #[.val (.int i0), .val (.int i1), .val (.int i2), .val (.int i3), .val (.int i4), .val (.int i5), .unset, .unset, .unset, .unset, .unset, .unset, .unset, .unset, .unset, .unset, .unset, .unset, .unset, .unset, .unset, .unset, .unset, .unset, .unset] [(.ref rs)]))
  refine own_st (fun wt wk => XS.astore X9.here hx rfl (hb hby at_28) rfl rfl (l' := #[.val (.int i0), .val (.int i1), .val (.int i2), .val (.int i3), .val (.int i4), .val (.int i5), .val (.ref rs), .unset, .unset, .unset, .unset, .unset, .unset, .unset, .unset, .unset, .unset, .unset, .unset, .unset, .unset, .unset, .unset, .unset, .unset]) rfl wk) ?_
  show Fin1 p e below s (rm0Q Z i0 i1 i2 i3 i4 i5 vaM xM0 xM1 xM2 xM3 vcM vaJ xJ0 xJ1 xJ2 xJ3 vcJ h0 n0) room_1.cells room_1.slots (T9.setTop (mkF m 30 #[.val (.int i0), .val (.int i1), .val (.int i2), .val (.int i3), .val (.int i4), .val (.int i5), .val (.ref rs), .unset, .unset, .unset, .unset, .unset, .unset, .unset, .unset, .unset, .unset, .unset, .unset, .unset, .unset, .unset, .unset, .unset, .unset] []))
  refine own_st (fun wt wk => XS.iconst X9.here hx rfl (hb hby at_30) wk) ?_
  show Fin1 p e below s (rm0Q Z i0 i1 i2 i3 i4 i5 vaM xM0 xM1 xM2 xM3 vcM vaJ xJ0 xJ1 xJ2 xJ3 vcJ h0 n0) room_1.cells room_1.slots (T9.setTop (mkF m 31 #[.val (.int i0), .val (.int i1), .val (.int i2), .val (.int i3), .val (.int i4), .val (.int i5), .val (.ref rs), .unset, .unset, .unset, .unset, .unset, .unset, .unset, .unset, .unset, .unset, .unset, .unset, .unset, .unset, .unset, .unset, .unset, .unset] [(.int (4 : Int32))]))
  obtain ⟨T10, h10, kc10, X10, e10, E10, A10, Ov10, st10⟩ := newR X9 hx hZ hown (hw _ (List.mem_of_getElem? (i := 12) rfl)) (hw _ (List.mem_of_getElem? (i := 13) rfl)) e9 (g := (mkF m 31 #[.val (.int i0), .val (.int i1), .val (.int i2), .val (.int i3), .val (.int i4), .val (.int i5), .val (.ref rs), .unset, .unset, .unset, .unset, .unset, .unset, .unset, .unset, .unset, .unset, .unset, .unset, .unset, .unset, .unset, .unset, .unset, .unset] [(.int (4 : Int32))])) rfl (hb hby at_31) rfl (by decide) (cap := 4) (by decide) (by decide) (by decide) (by decide)
  obtain ⟨ks, gz_ks⟩ : ∃ z, z = h9.size := ⟨_, rfl⟩
  rw [← gz_ks] at A10 st10
  have ne_rs_ks : rs ≠ ks := Nat.ne_of_lt (Nat.lt_of_lt_of_le V_rs.lt (Nat.le_of_eq gz_ks.symm))
  have g_ks : n0 ≤ ks := Nat.le_trans Z0 (Nat.le_of_eq gz_ks.symm)
  have Z0 := Nat.le_trans Z0 E10.1
  have O := O.ext E10
  have V_rs := V_rs.ext E10
  refine own_st st10 ?_
  have V_ks : Arv Z h10 ks kc10 (.object "com/example/electd/electd/model/MessageKind") (4 : Int32) [.null, .null, .null, .null] .null := (Arv.new A10 (by decide)).pad (pad_rep [] .null 4)
  show Fin1 p e below s (rm0Q Z i0 i1 i2 i3 i4 i5 vaM xM0 xM1 xM2 xM3 vcM vaJ xJ0 xJ1 xJ2 xJ3 vcJ h0 n0) room_1.cells room_1.slots (T10.setTop (mkF m 34 #[.val (.int i0), .val (.int i1), .val (.int i2), .val (.int i3), .val (.int i4), .val (.int i5), .val (.ref rs), .unset, .unset, .unset, .unset, .unset, .unset, .unset, .unset, .unset, .unset, .unset, .unset, .unset, .unset, .unset, .unset, .unset, .unset] [(.ref ks)]))
  refine own_st (fun wt wk => XS.dup X10.here hx rfl (hb hby at_34) rfl rfl wk) ?_
  show Fin1 p e below s (rm0Q Z i0 i1 i2 i3 i4 i5 vaM xM0 xM1 xM2 xM3 vcM vaJ xJ0 xJ1 xJ2 xJ3 vcJ h0 n0) room_1.cells room_1.slots (T10.setTop (mkF m 35 #[.val (.int i0), .val (.int i1), .val (.int i2), .val (.int i3), .val (.int i4), .val (.int i5), .val (.ref rs), .unset, .unset, .unset, .unset, .unset, .unset, .unset, .unset, .unset, .unset, .unset, .unset, .unset, .unset, .unset, .unset, .unset, .unset] [(.ref ks), (.ref ks)]))
  refine own_st (fun wt wk => XS.iconst X10.here hx rfl (hb hby at_35) wk) ?_
  show Fin1 p e below s (rm0Q Z i0 i1 i2 i3 i4 i5 vaM xM0 xM1 xM2 xM3 vcM vaJ xJ0 xJ1 xJ2 xJ3 vcJ h0 n0) room_1.cells room_1.slots (T10.setTop (mkF m 36 #[.val (.int i0), .val (.int i1), .val (.int i2), .val (.int i3), .val (.int i4), .val (.int i5), .val (.ref rs), .unset, .unset, .unset, .unset, .unset, .unset, .unset, .unset, .unset, .unset, .unset, .unset, .unset, .unset, .unset, .unset, .unset, .unset] [(.int (0 : Int32)), (.ref ks), (.ref ks)]))
  obtain ⟨T11, X11, e11, st11⟩ := getS2 X10 hx hZ hown (host := "") (Or.inl (hw _ (List.mem_of_getElem? (i := 14) rfl))) Via.refl e10 (SM0.ext O.2) (g := (mkF m 36 #[.val (.int i0), .val (.int i1), .val (.int i2), .val (.int i3), .val (.int i4), .val (.int i5), .val (.ref rs), .unset, .unset, .unset, .unset, .unset, .unset, .unset, .unset, .unset, .unset, .unset, .unset, .unset, .unset, .unset, .unset, .unset, .unset] [(.int (0 : Int32)), (.ref ks), (.ref ks)])) rfl (hb hby at_36)
  refine own_st st11 ?_
  show Fin1 p e below s (rm0Q Z i0 i1 i2 i3 i4 i5 vaM xM0 xM1 xM2 xM3 vcM vaJ xJ0 xJ1 xJ2 xJ3 vcJ h0 n0) room_1.cells room_1.slots (T11.setTop (mkF m 39 #[.val (.int i0), .val (.int i1), .val (.int i2), .val (.int i3), .val (.int i4), .val (.int i5), .val (.ref rs), .unset, .unset, .unset, .unset, .unset, .unset, .unset, .unset, .unset, .unset, .unset, .unset, .unset, .unset, .unset, .unset, .unset, .unset] [(.ref xM0), (.int (0 : Int32)), (.ref ks), (.ref ks)]))
  obtain ⟨T12, h12, X12, e12, W12, U12, st12⟩ := own_stR (j := (0 : Int32)) X11 hx hZ e11 V_ks (C := "com/example/electd/electd/model/MessageKind") rfl rfl (Or.inr ⟨xM0, rfl, Ov10, Ins.self (QM0.ext O.2)⟩) ⟨by decide, by decide⟩ 0 rfl (by simp) (g := (mkF m 39 #[.val (.int i0), .val (.int i1), .val (.int i2), .val (.int i3), .val (.int i4), .val (.int i5), .val (.ref rs), .unset, .unset, .unset, .unset, .unset, .unset, .unset, .unset, .unset, .unset, .unset, .unset, .unset, .unset, .unset, .unset, .unset, .unset] [(.ref xM0), (.int (0 : Int32)), (.ref ks), (.ref ks)])) rfl rfl (hb hby at_39)
  have N12 := Fr.snoc X12 N9 g_ks
  have Z0 := Nat.le_trans Z0 (Nat.le_of_eq W12.size.symm)
  have O := O.wr W12 g_ks
  have V_rs := V_rs.other W12 ne_rs_ks
  have V_ks : Arv Z h12 ks kc10 (.object "com/example/electd/electd/model/MessageKind") (4 : Int32) [(.ref xM0), .null, .null, .null] .null := U12
  refine own_st st12 ?_
  show Fin1 p e below s (rm0Q Z i0 i1 i2 i3 i4 i5 vaM xM0 xM1 xM2 xM3 vcM vaJ xJ0 xJ1 xJ2 xJ3 vcJ h0 n0) room_1.cells room_1.slots (T12.setTop (mkF m 40 #[.val (.int i0), .val (.int i1), .val (.int i2), .val (.int i3), .val (.int i4), .val (.int i5), .val (.ref rs), .unset, .unset, .unset, .unset, .unset, .unset, .unset, .unset, .unset, .unset, .unset, .unset, .unset, .unset, .unset, .unset, .unset, .unset] [(.ref ks)]))
  refine own_st (fun wt wk => XS.dup X12.here hx rfl (hb hby at_40) rfl rfl wk) ?_
  show Fin1 p e below s (rm0Q Z i0 i1 i2 i3 i4 i5 vaM xM0 xM1 xM2 xM3 vcM vaJ xJ0 xJ1 xJ2 xJ3 vcJ h0 n0) room_1.cells room_1.slots (T12.setTop (mkF m 41 #[.val (.int i0), .val (.int i1), .val (.int i2), .val (.int i3), .val (.int i4), .val (.int i5), .val (.ref rs), .unset, .unset, .unset, .unset, .unset, .unset, .unset, .unset, .unset, .unset, .unset, .unset, .unset, .unset, .unset, .unset, .unset, .unset] [(.ref ks), (.ref ks)]))
  refine own_st (fun wt wk => XS.iconst X12.here hx rfl (hb hby at_41) wk) ?_
  show Fin1 p e below s (rm0Q Z i0 i1 i2 i3 i4 i5 vaM xM0 xM1 xM2 xM3 vcM vaJ xJ0 xJ1 xJ2 xJ3 vcJ h0 n0) room_1.cells room_1.slots (T12.setTop (mkF m 42 #[.val (.int i0), .val (.int i1), .val (.int i2), .val (.int i3), .val (.int i4), .val (.int i5), .val (.ref rs), .unset, .unset, .unset, .unset, .unset, .unset, .unset, .unset, .unset, .unset, .unset, .unset, .unset, .unset, .unset, .unset, .unset, .unset] [(.int (1 : Int32)), (.ref ks), (.ref ks)]))
  obtain ⟨T13, X13, e13, st13⟩ := getS2 X12 hx hZ hown (host := "") (Or.inl (hw _ (List.mem_of_getElem? (i := 18) rfl))) Via.refl e12 (SM1.ext O.2) (g := (mkF m 42 #[.val (.int i0), .val (.int i1), .val (.int i2), .val (.int i3), .val (.int i4), .val (.int i5), .val (.ref rs), .unset, .unset, .unset, .unset, .unset, .unset, .unset, .unset, .unset, .unset, .unset, .unset, .unset, .unset, .unset, .unset, .unset, .unset] [(.int (1 : Int32)), (.ref ks), (.ref ks)])) rfl (hb hby at_42)
  refine own_st st13 ?_
  show Fin1 p e below s (rm0Q Z i0 i1 i2 i3 i4 i5 vaM xM0 xM1 xM2 xM3 vcM vaJ xJ0 xJ1 xJ2 xJ3 vcJ h0 n0) room_1.cells room_1.slots (T13.setTop (mkF m 45 #[.val (.int i0), .val (.int i1), .val (.int i2), .val (.int i3), .val (.int i4), .val (.int i5), .val (.ref rs), .unset, .unset, .unset, .unset, .unset, .unset, .unset, .unset, .unset, .unset, .unset, .unset, .unset, .unset, .unset, .unset, .unset, .unset] [(.ref xM1), (.int (1 : Int32)), (.ref ks), (.ref ks)]))
  obtain ⟨T14, h14, X14, e14, W14, U14, st14⟩ := own_stR (j := (1 : Int32)) X13 hx hZ e13 V_ks (C := "com/example/electd/electd/model/MessageKind") rfl rfl (Or.inr ⟨xM1, rfl, Ov10, Ins.self (QM1.ext O.2)⟩) ⟨by decide, by decide⟩ 1 rfl (by simp) (g := (mkF m 45 #[.val (.int i0), .val (.int i1), .val (.int i2), .val (.int i3), .val (.int i4), .val (.int i5), .val (.ref rs), .unset, .unset, .unset, .unset, .unset, .unset, .unset, .unset, .unset, .unset, .unset, .unset, .unset, .unset, .unset, .unset, .unset, .unset] [(.ref xM1), (.int (1 : Int32)), (.ref ks), (.ref ks)])) rfl rfl (hb hby at_45)
  have N14 := Fr.snoc X14 N12 g_ks
  have Z0 := Nat.le_trans Z0 (Nat.le_of_eq W14.size.symm)
  have O := O.wr W14 g_ks
  have V_rs := V_rs.other W14 ne_rs_ks
  have V_ks : Arv Z h14 ks kc10 (.object "com/example/electd/electd/model/MessageKind") (4 : Int32) [(.ref xM0), (.ref xM1), .null, .null] .null := U14
  refine own_st st14 ?_
  show Fin1 p e below s (rm0Q Z i0 i1 i2 i3 i4 i5 vaM xM0 xM1 xM2 xM3 vcM vaJ xJ0 xJ1 xJ2 xJ3 vcJ h0 n0) room_1.cells room_1.slots (T14.setTop (mkF m 46 #[.val (.int i0), .val (.int i1), .val (.int i2), .val (.int i3), .val (.int i4), .val (.int i5), .val (.ref rs), .unset, .unset, .unset, .unset, .unset, .unset, .unset, .unset, .unset, .unset, .unset, .unset, .unset, .unset, .unset, .unset, .unset, .unset] [(.ref ks)]))
  refine own_st (fun wt wk => XS.dup X14.here hx rfl (hb hby at_46) rfl rfl wk) ?_
  show Fin1 p e below s (rm0Q Z i0 i1 i2 i3 i4 i5 vaM xM0 xM1 xM2 xM3 vcM vaJ xJ0 xJ1 xJ2 xJ3 vcJ h0 n0) room_1.cells room_1.slots (T14.setTop (mkF m 47 #[.val (.int i0), .val (.int i1), .val (.int i2), .val (.int i3), .val (.int i4), .val (.int i5), .val (.ref rs), .unset, .unset, .unset, .unset, .unset, .unset, .unset, .unset, .unset, .unset, .unset, .unset, .unset, .unset, .unset, .unset, .unset, .unset] [(.ref ks), (.ref ks)]))
  refine own_st (fun wt wk => XS.iconst X14.here hx rfl (hb hby at_47) wk) ?_
  show Fin1 p e below s (rm0Q Z i0 i1 i2 i3 i4 i5 vaM xM0 xM1 xM2 xM3 vcM vaJ xJ0 xJ1 xJ2 xJ3 vcJ h0 n0) room_1.cells room_1.slots (T14.setTop (mkF m 48 #[.val (.int i0), .val (.int i1), .val (.int i2), .val (.int i3), .val (.int i4), .val (.int i5), .val (.ref rs), .unset, .unset, .unset, .unset, .unset, .unset, .unset, .unset, .unset, .unset, .unset, .unset, .unset, .unset, .unset, .unset, .unset, .unset] [(.int (2 : Int32)), (.ref ks), (.ref ks)]))
  obtain ⟨T15, X15, e15, st15⟩ := getS2 X14 hx hZ hown (host := "") (Or.inl (hw _ (List.mem_of_getElem? (i := 20) rfl))) Via.refl e14 (SM2.ext O.2) (g := (mkF m 48 #[.val (.int i0), .val (.int i1), .val (.int i2), .val (.int i3), .val (.int i4), .val (.int i5), .val (.ref rs), .unset, .unset, .unset, .unset, .unset, .unset, .unset, .unset, .unset, .unset, .unset, .unset, .unset, .unset, .unset, .unset, .unset, .unset] [(.int (2 : Int32)), (.ref ks), (.ref ks)])) rfl (hb hby at_48)
  refine own_st st15 ?_
  show Fin1 p e below s (rm0Q Z i0 i1 i2 i3 i4 i5 vaM xM0 xM1 xM2 xM3 vcM vaJ xJ0 xJ1 xJ2 xJ3 vcJ h0 n0) room_1.cells room_1.slots (T15.setTop (mkF m 51 #[.val (.int i0), .val (.int i1), .val (.int i2), .val (.int i3), .val (.int i4), .val (.int i5), .val (.ref rs), .unset, .unset, .unset, .unset, .unset, .unset, .unset, .unset, .unset, .unset, .unset, .unset, .unset, .unset, .unset, .unset, .unset, .unset] [(.ref xM2), (.int (2 : Int32)), (.ref ks), (.ref ks)]))
  obtain ⟨T16, h16, X16, e16, W16, U16, st16⟩ := own_stR (j := (2 : Int32)) X15 hx hZ e15 V_ks (C := "com/example/electd/electd/model/MessageKind") rfl rfl (Or.inr ⟨xM2, rfl, Ov10, Ins.self (QM2.ext O.2)⟩) ⟨by decide, by decide⟩ 2 rfl (by simp) (g := (mkF m 51 #[.val (.int i0), .val (.int i1), .val (.int i2), .val (.int i3), .val (.int i4), .val (.int i5), .val (.ref rs), .unset, .unset, .unset, .unset, .unset, .unset, .unset, .unset, .unset, .unset, .unset, .unset, .unset, .unset, .unset, .unset, .unset, .unset] [(.ref xM2), (.int (2 : Int32)), (.ref ks), (.ref ks)])) rfl rfl (hb hby at_51)
  have N16 := Fr.snoc X16 N14 g_ks
  have Z0 := Nat.le_trans Z0 (Nat.le_of_eq W16.size.symm)
  have O := O.wr W16 g_ks
  have V_rs := V_rs.other W16 ne_rs_ks
  have V_ks : Arv Z h16 ks kc10 (.object "com/example/electd/electd/model/MessageKind") (4 : Int32) [(.ref xM0), (.ref xM1), (.ref xM2), .null] .null := U16
  refine own_st st16 ?_
  show Fin1 p e below s (rm0Q Z i0 i1 i2 i3 i4 i5 vaM xM0 xM1 xM2 xM3 vcM vaJ xJ0 xJ1 xJ2 xJ3 vcJ h0 n0) room_1.cells room_1.slots (T16.setTop (mkF m 52 #[.val (.int i0), .val (.int i1), .val (.int i2), .val (.int i3), .val (.int i4), .val (.int i5), .val (.ref rs), .unset, .unset, .unset, .unset, .unset, .unset, .unset, .unset, .unset, .unset, .unset, .unset, .unset, .unset, .unset, .unset, .unset, .unset] [(.ref ks)]))
  refine own_st (fun wt wk => XS.dup X16.here hx rfl (hb hby at_52) rfl rfl wk) ?_
  show Fin1 p e below s (rm0Q Z i0 i1 i2 i3 i4 i5 vaM xM0 xM1 xM2 xM3 vcM vaJ xJ0 xJ1 xJ2 xJ3 vcJ h0 n0) room_1.cells room_1.slots (T16.setTop (mkF m 53 #[.val (.int i0), .val (.int i1), .val (.int i2), .val (.int i3), .val (.int i4), .val (.int i5), .val (.ref rs), .unset, .unset, .unset, .unset, .unset, .unset, .unset, .unset, .unset, .unset, .unset, .unset, .unset, .unset, .unset, .unset, .unset, .unset] [(.ref ks), (.ref ks)]))
  refine own_st (fun wt wk => XS.iconst X16.here hx rfl (hb hby at_53) wk) ?_
  show Fin1 p e below s (rm0Q Z i0 i1 i2 i3 i4 i5 vaM xM0 xM1 xM2 xM3 vcM vaJ xJ0 xJ1 xJ2 xJ3 vcJ h0 n0) room_1.cells room_1.slots (T16.setTop (mkF m 54 #[.val (.int i0), .val (.int i1), .val (.int i2), .val (.int i3), .val (.int i4), .val (.int i5), .val (.ref rs), .unset, .unset, .unset, .unset, .unset, .unset, .unset, .unset, .unset, .unset, .unset, .unset, .unset, .unset, .unset, .unset, .unset, .unset] [(.int (3 : Int32)), (.ref ks), (.ref ks)]))
  obtain ⟨T17, X17, e17, st17⟩ := getS2 X16 hx hZ hown (host := "") (Or.inl (hw _ (List.mem_of_getElem? (i := 22) rfl))) Via.refl e16 (SM3.ext O.2) (g := (mkF m 54 #[.val (.int i0), .val (.int i1), .val (.int i2), .val (.int i3), .val (.int i4), .val (.int i5), .val (.ref rs), .unset, .unset, .unset, .unset, .unset, .unset, .unset, .unset, .unset, .unset, .unset, .unset, .unset, .unset, .unset, .unset, .unset, .unset] [(.int (3 : Int32)), (.ref ks), (.ref ks)])) rfl (hb hby at_54)
  refine own_st st17 ?_
  show Fin1 p e below s (rm0Q Z i0 i1 i2 i3 i4 i5 vaM xM0 xM1 xM2 xM3 vcM vaJ xJ0 xJ1 xJ2 xJ3 vcJ h0 n0) room_1.cells room_1.slots (T17.setTop (mkF m 57 #[.val (.int i0), .val (.int i1), .val (.int i2), .val (.int i3), .val (.int i4), .val (.int i5), .val (.ref rs), .unset, .unset, .unset, .unset, .unset, .unset, .unset, .unset, .unset, .unset, .unset, .unset, .unset, .unset, .unset, .unset, .unset, .unset] [(.ref xM3), (.int (3 : Int32)), (.ref ks), (.ref ks)]))
  obtain ⟨T18, h18, X18, e18, W18, U18, st18⟩ := own_stR (j := (3 : Int32)) X17 hx hZ e17 V_ks (C := "com/example/electd/electd/model/MessageKind") rfl rfl (Or.inr ⟨xM3, rfl, Ov10, Ins.self (QM3.ext O.2)⟩) ⟨by decide, by decide⟩ 3 rfl (by simp) (g := (mkF m 57 #[.val (.int i0), .val (.int i1), .val (.int i2), .val (.int i3), .val (.int i4), .val (.int i5), .val (.ref rs), .unset, .unset, .unset, .unset, .unset, .unset, .unset, .unset, .unset, .unset, .unset, .unset, .unset, .unset, .unset, .unset, .unset, .unset] [(.ref xM3), (.int (3 : Int32)), (.ref ks), (.ref ks)])) rfl rfl (hb hby at_57)
  have N18 := Fr.snoc X18 N16 g_ks
  have Z0 := Nat.le_trans Z0 (Nat.le_of_eq W18.size.symm)
  have O := O.wr W18 g_ks
  have V_rs := V_rs.other W18 ne_rs_ks
  have V_ks : Arv Z h18 ks kc10 (.object "com/example/electd/electd/model/MessageKind") (4 : Int32) [(.ref xM0), (.ref xM1), (.ref xM2), (.ref xM3)] .null := U18
  refine own_st st18 ?_
  show Fin1 p e below s (rm0Q Z i0 i1 i2 i3 i4 i5 vaM xM0 xM1 xM2 xM3 vcM vaJ xJ0 xJ1 xJ2 xJ3 vcJ h0 n0) room_1.cells room_1.slots (T18.setTop (mkF m 58 #[.val (.int i0), .val (.int i1), .val (.int i2), .val (.int i3), .val (.int i4), .val (.int i5), .val (.ref rs), .unset, .unset, .unset, .unset, .unset, .unset, .unset, .unset, .unset, .unset, .unset, .unset, .unset, .unset, .unset, .unset, .unset, .unset] [(.ref ks)]))
  refine own_st (fun wt wk => XS.astore X18.here hx rfl (hb hby at_58) rfl rfl (l' := #[.val (.int i0), .val (.int i1), .val (.int i2), .val (.int i3), .val (.int i4), .val (.int i5), .val (.ref rs), .val (.ref ks), .unset, .unset, .unset, .unset, .unset, .unset, .unset, .unset, .unset, .unset, .unset, .unset, .unset, .unset, .unset, .unset, .unset]) rfl wk) ?_
  show Fin1 p e below s (rm0Q Z i0 i1 i2 i3 i4 i5 vaM xM0 xM1 xM2 xM3 vcM vaJ xJ0 xJ1 xJ2 xJ3 vcJ h0 n0) room_1.cells room_1.slots (T18.setTop (mkF m 60 #[.val (.int i0), .val (.int i1), .val (.int i2), .val (.int i3), .val (.int i4), .val (.int i5), .val (.ref rs), .val (.ref ks), .unset, .unset, .unset, .unset, .unset, .unset, .unset, .unset, .unset, .unset, .unset, .unset, .unset, .unset, .unset, .unset, .unset] []))
  suffices K105 : ∀ (oa : Int32) (ob : Int32) (od : Int32) (oe : Int32) (km : Int32) (oq : Int32) (ok : Int32), (¬ oa < (0 : Int32) ∧ oa < (4 : Int32)) → (¬ ob < (0 : Int32) ∧ ob < (4 : Int32)) → (¬ od < (0 : Int32) ∧ od < (4 : Int32)) → (¬ oe < (0 : Int32) ∧ oe < (4 : Int32)) → (km = 0 ∨ km = 1) → (¬ oq < (0 : Int32) ∧ oq < (4 : Int32)) → (¬ ok < (0 : Int32) ∧ ok < (4 : Int32)) → Fin1 p e below s (rm0Q Z i0 i1 i2 i3 i4 i5 vaM xM0 xM1 xM2 xM3 vcM vaJ xJ0 xJ1 xJ2 xJ3 vcJ h0 n0) room_1.cells room_1.slots (T18.setTop (mkF m 105 #[.val (.int i0), .val (.int i1), .val (.int i2), .val (.int i3), .val (.int i4), .val (.int i5), .val (.ref rs), .val (.ref ks), .val (.int oa), .val (.int ob), .val (.int od), .val (.int oe), .val (.int km), .val (.int oq), .val (.int ok), .unset, .unset, .unset, .unset, .unset, .unset, .unset, .unset, .unset, .unset] [])) by
    refine own_st (fun wt wk => XS.iloadN X18.here hx rfl (hb hby at_60) rfl wk) ?_
    show Fin1 p e below s (rm0Q Z i0 i1 i2 i3 i4 i5 vaM xM0 xM1 xM2 xM3 vcM vaJ xJ0 xJ1 xJ2 xJ3 vcJ h0 n0) room_1.cells room_1.slots (T18.setTop (mkF m 61 #[.val (.int i0), .val (.int i1), .val (.int i2), .val (.int i3), .val (.int i4), .val (.int i5), .val (.ref rs), .val (.ref ks), .unset, .unset, .unset, .unset, .unset, .unset, .unset, .unset, .unset, .unset, .unset, .unset, .unset, .unset, .unset, .unset, .unset] [(.int i0)]))
    refine own_st (fun wt wk => XS.iconst X18.here hx rfl (hb hby at_61) wk) ?_
    show Fin1 p e below s (rm0Q Z i0 i1 i2 i3 i4 i5 vaM xM0 xM1 xM2 xM3 vcM vaJ xJ0 xJ1 xJ2 xJ3 vcJ h0 n0) room_1.cells room_1.slots (T18.setTop (mkF m 62 #[.val (.int i0), .val (.int i1), .val (.int i2), .val (.int i3), .val (.int i4), .val (.int i5), .val (.ref rs), .val (.ref ks), .unset, .unset, .unset, .unset, .unset, .unset, .unset, .unset, .unset, .unset, .unset, .unset, .unset, .unset, .unset, .unset, .unset] [(.int (3 : Int32)), (.int i0)]))
    refine own_st (fun wt wk => XS.iand X18.here hx rfl (hb hby at_62) rfl wk) ?_
    show Fin1 p e below s (rm0Q Z i0 i1 i2 i3 i4 i5 vaM xM0 xM1 xM2 xM3 vcM vaJ xJ0 xJ1 xJ2 xJ3 vcJ h0 n0) room_1.cells room_1.slots (T18.setTop (mkF m 63 #[.val (.int i0), .val (.int i1), .val (.int i2), .val (.int i3), .val (.int i4), .val (.int i5), .val (.ref rs), .val (.ref ks), .unset, .unset, .unset, .unset, .unset, .unset, .unset, .unset, .unset, .unset, .unset, .unset, .unset, .unset, .unset, .unset, .unset] [(.int (i0 &&& (3 : Int32)))]))
    refine own_st (fun wt wk => XS.istore X18.here hx rfl (hb hby at_63) rfl (l' := #[.val (.int i0), .val (.int i1), .val (.int i2), .val (.int i3), .val (.int i4), .val (.int i5), .val (.ref rs), .val (.ref ks), .val (.int (i0 &&& (3 : Int32))), .unset, .unset, .unset, .unset, .unset, .unset, .unset, .unset, .unset, .unset, .unset, .unset, .unset, .unset, .unset, .unset]) rfl wk) ?_
    show Fin1 p e below s (rm0Q Z i0 i1 i2 i3 i4 i5 vaM xM0 xM1 xM2 xM3 vcM vaJ xJ0 xJ1 xJ2 xJ3 vcJ h0 n0) room_1.cells room_1.slots (T18.setTop (mkF m 65 #[.val (.int i0), .val (.int i1), .val (.int i2), .val (.int i3), .val (.int i4), .val (.int i5), .val (.ref rs), .val (.ref ks), .val (.int (i0 &&& (3 : Int32))), .unset, .unset, .unset, .unset, .unset, .unset, .unset, .unset, .unset, .unset, .unset, .unset, .unset, .unset, .unset, .unset] []))
    refine own_st (fun wt wk => XS.iloadN X18.here hx rfl (hb hby at_65) rfl wk) ?_
    show Fin1 p e below s (rm0Q Z i0 i1 i2 i3 i4 i5 vaM xM0 xM1 xM2 xM3 vcM vaJ xJ0 xJ1 xJ2 xJ3 vcJ h0 n0) room_1.cells room_1.slots (T18.setTop (mkF m 66 #[.val (.int i0), .val (.int i1), .val (.int i2), .val (.int i3), .val (.int i4), .val (.int i5), .val (.ref rs), .val (.ref ks), .val (.int (i0 &&& (3 : Int32))), .unset, .unset, .unset, .unset, .unset, .unset, .unset, .unset, .unset, .unset, .unset, .unset, .unset, .unset, .unset, .unset] [(.int i1)]))
    refine own_st (fun wt wk => XS.iconst X18.here hx rfl (hb hby at_66) wk) ?_
    show Fin1 p e below s (rm0Q Z i0 i1 i2 i3 i4 i5 vaM xM0 xM1 xM2 xM3 vcM vaJ xJ0 xJ1 xJ2 xJ3 vcJ h0 n0) room_1.cells room_1.slots (T18.setTop (mkF m 67 #[.val (.int i0), .val (.int i1), .val (.int i2), .val (.int i3), .val (.int i4), .val (.int i5), .val (.ref rs), .val (.ref ks), .val (.int (i0 &&& (3 : Int32))), .unset, .unset, .unset, .unset, .unset, .unset, .unset, .unset, .unset, .unset, .unset, .unset, .unset, .unset, .unset, .unset] [(.int (3 : Int32)), (.int i1)]))
    refine own_st (fun wt wk => XS.iand X18.here hx rfl (hb hby at_67) rfl wk) ?_
    show Fin1 p e below s (rm0Q Z i0 i1 i2 i3 i4 i5 vaM xM0 xM1 xM2 xM3 vcM vaJ xJ0 xJ1 xJ2 xJ3 vcJ h0 n0) room_1.cells room_1.slots (T18.setTop (mkF m 68 #[.val (.int i0), .val (.int i1), .val (.int i2), .val (.int i3), .val (.int i4), .val (.int i5), .val (.ref rs), .val (.ref ks), .val (.int (i0 &&& (3 : Int32))), .unset, .unset, .unset, .unset, .unset, .unset, .unset, .unset, .unset, .unset, .unset, .unset, .unset, .unset, .unset, .unset] [(.int (i1 &&& (3 : Int32)))]))
    refine own_st (fun wt wk => XS.istore X18.here hx rfl (hb hby at_68) rfl (l' := #[.val (.int i0), .val (.int i1), .val (.int i2), .val (.int i3), .val (.int i4), .val (.int i5), .val (.ref rs), .val (.ref ks), .val (.int (i0 &&& (3 : Int32))), .val (.int (i1 &&& (3 : Int32))), .unset, .unset, .unset, .unset, .unset, .unset, .unset, .unset, .unset, .unset, .unset, .unset, .unset, .unset, .unset]) rfl wk) ?_
    show Fin1 p e below s (rm0Q Z i0 i1 i2 i3 i4 i5 vaM xM0 xM1 xM2 xM3 vcM vaJ xJ0 xJ1 xJ2 xJ3 vcJ h0 n0) room_1.cells room_1.slots (T18.setTop (mkF m 70 #[.val (.int i0), .val (.int i1), .val (.int i2), .val (.int i3), .val (.int i4), .val (.int i5), .val (.ref rs), .val (.ref ks), .val (.int (i0 &&& (3 : Int32))), .val (.int (i1 &&& (3 : Int32))), .unset, .unset, .unset, .unset, .unset, .unset, .unset, .unset, .unset, .unset, .unset, .unset, .unset, .unset, .unset] []))
    refine own_st (fun wt wk => XS.iloadN X18.here hx rfl (hb hby at_70) rfl wk) ?_
    show Fin1 p e below s (rm0Q Z i0 i1 i2 i3 i4 i5 vaM xM0 xM1 xM2 xM3 vcM vaJ xJ0 xJ1 xJ2 xJ3 vcJ h0 n0) room_1.cells room_1.slots (T18.setTop (mkF m 71 #[.val (.int i0), .val (.int i1), .val (.int i2), .val (.int i3), .val (.int i4), .val (.int i5), .val (.ref rs), .val (.ref ks), .val (.int (i0 &&& (3 : Int32))), .val (.int (i1 &&& (3 : Int32))), .unset, .unset, .unset, .unset, .unset, .unset, .unset, .unset, .unset, .unset, .unset, .unset, .unset, .unset, .unset] [(.int i2)]))
    refine own_st (fun wt wk => XS.iconst X18.here hx rfl (hb hby at_71) wk) ?_
    show Fin1 p e below s (rm0Q Z i0 i1 i2 i3 i4 i5 vaM xM0 xM1 xM2 xM3 vcM vaJ xJ0 xJ1 xJ2 xJ3 vcJ h0 n0) room_1.cells room_1.slots (T18.setTop (mkF m 72 #[.val (.int i0), .val (.int i1), .val (.int i2), .val (.int i3), .val (.int i4), .val (.int i5), .val (.ref rs), .val (.ref ks), .val (.int (i0 &&& (3 : Int32))), .val (.int (i1 &&& (3 : Int32))), .unset, .unset, .unset, .unset, .unset, .unset, .unset, .unset, .unset, .unset, .unset, .unset, .unset, .unset, .unset] [(.int (3 : Int32)), (.int i2)]))
    refine own_st (fun wt wk => XS.iand X18.here hx rfl (hb hby at_72) rfl wk) ?_
    show Fin1 p e below s (rm0Q Z i0 i1 i2 i3 i4 i5 vaM xM0 xM1 xM2 xM3 vcM vaJ xJ0 xJ1 xJ2 xJ3 vcJ h0 n0) room_1.cells room_1.slots (T18.setTop (mkF m 73 #[.val (.int i0), .val (.int i1), .val (.int i2), .val (.int i3), .val (.int i4), .val (.int i5), .val (.ref rs), .val (.ref ks), .val (.int (i0 &&& (3 : Int32))), .val (.int (i1 &&& (3 : Int32))), .unset, .unset, .unset, .unset, .unset, .unset, .unset, .unset, .unset, .unset, .unset, .unset, .unset, .unset, .unset] [(.int (i2 &&& (3 : Int32)))]))
    refine own_st (fun wt wk => XS.istore X18.here hx rfl (hb hby at_73) rfl (l' := #[.val (.int i0), .val (.int i1), .val (.int i2), .val (.int i3), .val (.int i4), .val (.int i5), .val (.ref rs), .val (.ref ks), .val (.int (i0 &&& (3 : Int32))), .val (.int (i1 &&& (3 : Int32))), .val (.int (i2 &&& (3 : Int32))), .unset, .unset, .unset, .unset, .unset, .unset, .unset, .unset, .unset, .unset, .unset, .unset, .unset, .unset]) rfl wk) ?_
    show Fin1 p e below s (rm0Q Z i0 i1 i2 i3 i4 i5 vaM xM0 xM1 xM2 xM3 vcM vaJ xJ0 xJ1 xJ2 xJ3 vcJ h0 n0) room_1.cells room_1.slots (T18.setTop (mkF m 75 #[.val (.int i0), .val (.int i1), .val (.int i2), .val (.int i3), .val (.int i4), .val (.int i5), .val (.ref rs), .val (.ref ks), .val (.int (i0 &&& (3 : Int32))), .val (.int (i1 &&& (3 : Int32))), .val (.int (i2 &&& (3 : Int32))), .unset, .unset, .unset, .unset, .unset, .unset, .unset, .unset, .unset, .unset, .unset, .unset, .unset, .unset] []))
    refine own_st (fun wt wk => XS.iloadN X18.here hx rfl (hb hby at_75) rfl wk) ?_
    show Fin1 p e below s (rm0Q Z i0 i1 i2 i3 i4 i5 vaM xM0 xM1 xM2 xM3 vcM vaJ xJ0 xJ1 xJ2 xJ3 vcJ h0 n0) room_1.cells room_1.slots (T18.setTop (mkF m 76 #[.val (.int i0), .val (.int i1), .val (.int i2), .val (.int i3), .val (.int i4), .val (.int i5), .val (.ref rs), .val (.ref ks), .val (.int (i0 &&& (3 : Int32))), .val (.int (i1 &&& (3 : Int32))), .val (.int (i2 &&& (3 : Int32))), .unset, .unset, .unset, .unset, .unset, .unset, .unset, .unset, .unset, .unset, .unset, .unset, .unset, .unset] [(.int i3)]))
    refine own_st (fun wt wk => XS.iconst X18.here hx rfl (hb hby at_76) wk) ?_
    show Fin1 p e below s (rm0Q Z i0 i1 i2 i3 i4 i5 vaM xM0 xM1 xM2 xM3 vcM vaJ xJ0 xJ1 xJ2 xJ3 vcJ h0 n0) room_1.cells room_1.slots (T18.setTop (mkF m 77 #[.val (.int i0), .val (.int i1), .val (.int i2), .val (.int i3), .val (.int i4), .val (.int i5), .val (.ref rs), .val (.ref ks), .val (.int (i0 &&& (3 : Int32))), .val (.int (i1 &&& (3 : Int32))), .val (.int (i2 &&& (3 : Int32))), .unset, .unset, .unset, .unset, .unset, .unset, .unset, .unset, .unset, .unset, .unset, .unset, .unset, .unset] [(.int (3 : Int32)), (.int i3)]))
    refine own_st (fun wt wk => XS.iand X18.here hx rfl (hb hby at_77) rfl wk) ?_
    show Fin1 p e below s (rm0Q Z i0 i1 i2 i3 i4 i5 vaM xM0 xM1 xM2 xM3 vcM vaJ xJ0 xJ1 xJ2 xJ3 vcJ h0 n0) room_1.cells room_1.slots (T18.setTop (mkF m 78 #[.val (.int i0), .val (.int i1), .val (.int i2), .val (.int i3), .val (.int i4), .val (.int i5), .val (.ref rs), .val (.ref ks), .val (.int (i0 &&& (3 : Int32))), .val (.int (i1 &&& (3 : Int32))), .val (.int (i2 &&& (3 : Int32))), .unset, .unset, .unset, .unset, .unset, .unset, .unset, .unset, .unset, .unset, .unset, .unset, .unset, .unset] [(.int (i3 &&& (3 : Int32)))]))
    refine own_st (fun wt wk => XS.istore X18.here hx rfl (hb hby at_78) rfl (l' := #[.val (.int i0), .val (.int i1), .val (.int i2), .val (.int i3), .val (.int i4), .val (.int i5), .val (.ref rs), .val (.ref ks), .val (.int (i0 &&& (3 : Int32))), .val (.int (i1 &&& (3 : Int32))), .val (.int (i2 &&& (3 : Int32))), .val (.int (i3 &&& (3 : Int32))), .unset, .unset, .unset, .unset, .unset, .unset, .unset, .unset, .unset, .unset, .unset, .unset, .unset]) rfl wk) ?_
    show Fin1 p e below s (rm0Q Z i0 i1 i2 i3 i4 i5 vaM xM0 xM1 xM2 xM3 vcM vaJ xJ0 xJ1 xJ2 xJ3 vcJ h0 n0) room_1.cells room_1.slots (T18.setTop (mkF m 80 #[.val (.int i0), .val (.int i1), .val (.int i2), .val (.int i3), .val (.int i4), .val (.int i5), .val (.ref rs), .val (.ref ks), .val (.int (i0 &&& (3 : Int32))), .val (.int (i1 &&& (3 : Int32))), .val (.int (i2 &&& (3 : Int32))), .val (.int (i3 &&& (3 : Int32))), .unset, .unset, .unset, .unset, .unset, .unset, .unset, .unset, .unset, .unset, .unset, .unset, .unset] []))
    refine own_st (fun wt wk => XS.iloadN X18.here hx rfl (hb hby at_80) rfl wk) ?_
    show Fin1 p e below s (rm0Q Z i0 i1 i2 i3 i4 i5 vaM xM0 xM1 xM2 xM3 vcM vaJ xJ0 xJ1 xJ2 xJ3 vcJ h0 n0) room_1.cells room_1.slots (T18.setTop (mkF m 81 #[.val (.int i0), .val (.int i1), .val (.int i2), .val (.int i3), .val (.int i4), .val (.int i5), .val (.ref rs), .val (.ref ks), .val (.int (i0 &&& (3 : Int32))), .val (.int (i1 &&& (3 : Int32))), .val (.int (i2 &&& (3 : Int32))), .val (.int (i3 &&& (3 : Int32))), .unset, .unset, .unset, .unset, .unset, .unset, .unset, .unset, .unset, .unset, .unset, .unset, .unset] [(.int i3)]))
    refine own_st (fun wt wk => XS.iconst X18.here hx rfl (hb hby at_81) wk) ?_
    show Fin1 p e below s (rm0Q Z i0 i1 i2 i3 i4 i5 vaM xM0 xM1 xM2 xM3 vcM vaJ xJ0 xJ1 xJ2 xJ3 vcJ h0 n0) room_1.cells room_1.slots (T18.setTop (mkF m 82 #[.val (.int i0), .val (.int i1), .val (.int i2), .val (.int i3), .val (.int i4), .val (.int i5), .val (.ref rs), .val (.ref ks), .val (.int (i0 &&& (3 : Int32))), .val (.int (i1 &&& (3 : Int32))), .val (.int (i2 &&& (3 : Int32))), .val (.int (i3 &&& (3 : Int32))), .unset, .unset, .unset, .unset, .unset, .unset, .unset, .unset, .unset, .unset, .unset, .unset, .unset] [(.int (4 : Int32)), (.int i3)]))
    refine own_st (fun wt wk => XS.iand X18.here hx rfl (hb hby at_82) rfl wk) ?_
    show Fin1 p e below s (rm0Q Z i0 i1 i2 i3 i4 i5 vaM xM0 xM1 xM2 xM3 vcM vaJ xJ0 xJ1 xJ2 xJ3 vcJ h0 n0) room_1.cells room_1.slots (T18.setTop (mkF m 83 #[.val (.int i0), .val (.int i1), .val (.int i2), .val (.int i3), .val (.int i4), .val (.int i5), .val (.ref rs), .val (.ref ks), .val (.int (i0 &&& (3 : Int32))), .val (.int (i1 &&& (3 : Int32))), .val (.int (i2 &&& (3 : Int32))), .val (.int (i3 &&& (3 : Int32))), .unset, .unset, .unset, .unset, .unset, .unset, .unset, .unset, .unset, .unset, .unset, .unset, .unset] [(.int (i3 &&& (4 : Int32)))]))
    by_cases c83 : (i3 &&& (4 : Int32)) = (0 : Int32)
    · refine own_st (fun wt wk => XS.ifYes X18.here hx rfl (pc0 := 83) (pc' := 90) rfl (hb hby at_83) rfl ((if0 _ _).trans (teq c83).1) (by decide) (by decide) wk) ?_
      show Fin1 p e below s (rm0Q Z i0 i1 i2 i3 i4 i5 vaM xM0 xM1 xM2 xM3 vcM vaJ xJ0 xJ1 xJ2 xJ3 vcJ h0 n0) room_1.cells room_1.slots (T18.setTop (mkF m 90 #[.val (.int i0), .val (.int i1), .val (.int i2), .val (.int i3), .val (.int i4), .val (.int i5), .val (.ref rs), .val (.ref ks), .val (.int (i0 &&& (3 : Int32))), .val (.int (i1 &&& (3 : Int32))), .val (.int (i2 &&& (3 : Int32))), .val (.int (i3 &&& (3 : Int32))), .unset, .unset, .unset, .unset, .unset, .unset, .unset, .unset, .unset, .unset, .unset, .unset, .unset] []))
      refine own_st (fun wt wk => XS.iconst X18.here hx rfl (hb hby at_90) wk) ?_
      show Fin1 p e below s (rm0Q Z i0 i1 i2 i3 i4 i5 vaM xM0 xM1 xM2 xM3 vcM vaJ xJ0 xJ1 xJ2 xJ3 vcJ h0 n0) room_1.cells room_1.slots (T18.setTop (mkF m 91 #[.val (.int i0), .val (.int i1), .val (.int i2), .val (.int i3), .val (.int i4), .val (.int i5), .val (.ref rs), .val (.ref ks), .val (.int (i0 &&& (3 : Int32))), .val (.int (i1 &&& (3 : Int32))), .val (.int (i2 &&& (3 : Int32))), .val (.int (i3 &&& (3 : Int32))), .unset, .unset, .unset, .unset, .unset, .unset, .unset, .unset, .unset, .unset, .unset, .unset, .unset] [(.int (0 : Int32))]))
      refine own_st (fun wt wk => XS.istore X18.here hx rfl (hb hby at_91) rfl (l' := #[.val (.int i0), .val (.int i1), .val (.int i2), .val (.int i3), .val (.int i4), .val (.int i5), .val (.ref rs), .val (.ref ks), .val (.int (i0 &&& (3 : Int32))), .val (.int (i1 &&& (3 : Int32))), .val (.int (i2 &&& (3 : Int32))), .val (.int (i3 &&& (3 : Int32))), .val (.int (0 : Int32)), .unset, .unset, .unset, .unset, .unset, .unset, .unset, .unset, .unset, .unset, .unset, .unset]) rfl wk) ?_
      show Fin1 p e below s (rm0Q Z i0 i1 i2 i3 i4 i5 vaM xM0 xM1 xM2 xM3 vcM vaJ xJ0 xJ1 xJ2 xJ3 vcJ h0 n0) room_1.cells room_1.slots (T18.setTop (mkF m 93 #[.val (.int i0), .val (.int i1), .val (.int i2), .val (.int i3), .val (.int i4), .val (.int i5), .val (.ref rs), .val (.ref ks), .val (.int (i0 &&& (3 : Int32))), .val (.int (i1 &&& (3 : Int32))), .val (.int (i2 &&& (3 : Int32))), .val (.int (i3 &&& (3 : Int32))), .val (.int (0 : Int32)), .unset, .unset, .unset, .unset, .unset, .unset, .unset, .unset, .unset, .unset, .unset, .unset] []))
      refine own_st (fun wt wk => XS.iload X18.here hx rfl (hb hby at_93) rfl wk) ?_
      show Fin1 p e below s (rm0Q Z i0 i1 i2 i3 i4 i5 vaM xM0 xM1 xM2 xM3 vcM vaJ xJ0 xJ1 xJ2 xJ3 vcJ h0 n0) room_1.cells room_1.slots (T18.setTop (mkF m 95 #[.val (.int i0), .val (.int i1), .val (.int i2), .val (.int i3), .val (.int i4), .val (.int i5), .val (.ref rs), .val (.ref ks), .val (.int (i0 &&& (3 : Int32))), .val (.int (i1 &&& (3 : Int32))), .val (.int (i2 &&& (3 : Int32))), .val (.int (i3 &&& (3 : Int32))), .val (.int (0 : Int32)), .unset, .unset, .unset, .unset, .unset, .unset, .unset, .unset, .unset, .unset, .unset, .unset] [(.int i4)]))
      refine own_st (fun wt wk => XS.iconst X18.here hx rfl (hb hby at_95) wk) ?_
      show Fin1 p e below s (rm0Q Z i0 i1 i2 i3 i4 i5 vaM xM0 xM1 xM2 xM3 vcM vaJ xJ0 xJ1 xJ2 xJ3 vcJ h0 n0) room_1.cells room_1.slots (T18.setTop (mkF m 96 #[.val (.int i0), .val (.int i1), .val (.int i2), .val (.int i3), .val (.int i4), .val (.int i5), .val (.ref rs), .val (.ref ks), .val (.int (i0 &&& (3 : Int32))), .val (.int (i1 &&& (3 : Int32))), .val (.int (i2 &&& (3 : Int32))), .val (.int (i3 &&& (3 : Int32))), .val (.int (0 : Int32)), .unset, .unset, .unset, .unset, .unset, .unset, .unset, .unset, .unset, .unset, .unset, .unset] [(.int (3 : Int32)), (.int i4)]))
      refine own_st (fun wt wk => XS.iand X18.here hx rfl (hb hby at_96) rfl wk) ?_
      show Fin1 p e below s (rm0Q Z i0 i1 i2 i3 i4 i5 vaM xM0 xM1 xM2 xM3 vcM vaJ xJ0 xJ1 xJ2 xJ3 vcJ h0 n0) room_1.cells room_1.slots (T18.setTop (mkF m 97 #[.val (.int i0), .val (.int i1), .val (.int i2), .val (.int i3), .val (.int i4), .val (.int i5), .val (.ref rs), .val (.ref ks), .val (.int (i0 &&& (3 : Int32))), .val (.int (i1 &&& (3 : Int32))), .val (.int (i2 &&& (3 : Int32))), .val (.int (i3 &&& (3 : Int32))), .val (.int (0 : Int32)), .unset, .unset, .unset, .unset, .unset, .unset, .unset, .unset, .unset, .unset, .unset, .unset] [(.int (i4 &&& (3 : Int32)))]))
      refine own_st (fun wt wk => XS.istore X18.here hx rfl (hb hby at_97) rfl (l' := #[.val (.int i0), .val (.int i1), .val (.int i2), .val (.int i3), .val (.int i4), .val (.int i5), .val (.ref rs), .val (.ref ks), .val (.int (i0 &&& (3 : Int32))), .val (.int (i1 &&& (3 : Int32))), .val (.int (i2 &&& (3 : Int32))), .val (.int (i3 &&& (3 : Int32))), .val (.int (0 : Int32)), .val (.int (i4 &&& (3 : Int32))), .unset, .unset, .unset, .unset, .unset, .unset, .unset, .unset, .unset, .unset, .unset]) rfl wk) ?_
      show Fin1 p e below s (rm0Q Z i0 i1 i2 i3 i4 i5 vaM xM0 xM1 xM2 xM3 vcM vaJ xJ0 xJ1 xJ2 xJ3 vcJ h0 n0) room_1.cells room_1.slots (T18.setTop (mkF m 99 #[.val (.int i0), .val (.int i1), .val (.int i2), .val (.int i3), .val (.int i4), .val (.int i5), .val (.ref rs), .val (.ref ks), .val (.int (i0 &&& (3 : Int32))), .val (.int (i1 &&& (3 : Int32))), .val (.int (i2 &&& (3 : Int32))), .val (.int (i3 &&& (3 : Int32))), .val (.int (0 : Int32)), .val (.int (i4 &&& (3 : Int32))), .unset, .unset, .unset, .unset, .unset, .unset, .unset, .unset, .unset, .unset, .unset] []))
      refine own_st (fun wt wk => XS.iload X18.here hx rfl (hb hby at_99) rfl wk) ?_
      show Fin1 p e below s (rm0Q Z i0 i1 i2 i3 i4 i5 vaM xM0 xM1 xM2 xM3 vcM vaJ xJ0 xJ1 xJ2 xJ3 vcJ h0 n0) room_1.cells room_1.slots (T18.setTop (mkF m 101 #[.val (.int i0), .val (.int i1), .val (.int i2), .val (.int i3), .val (.int i4), .val (.int i5), .val (.ref rs), .val (.ref ks), .val (.int (i0 &&& (3 : Int32))), .val (.int (i1 &&& (3 : Int32))), .val (.int (i2 &&& (3 : Int32))), .val (.int (i3 &&& (3 : Int32))), .val (.int (0 : Int32)), .val (.int (i4 &&& (3 : Int32))), .unset, .unset, .unset, .unset, .unset, .unset, .unset, .unset, .unset, .unset, .unset] [(.int i5)]))
      refine own_st (fun wt wk => XS.iconst X18.here hx rfl (hb hby at_101) wk) ?_
      show Fin1 p e below s (rm0Q Z i0 i1 i2 i3 i4 i5 vaM xM0 xM1 xM2 xM3 vcM vaJ xJ0 xJ1 xJ2 xJ3 vcJ h0 n0) room_1.cells room_1.slots (T18.setTop (mkF m 102 #[.val (.int i0), .val (.int i1), .val (.int i2), .val (.int i3), .val (.int i4), .val (.int i5), .val (.ref rs), .val (.ref ks), .val (.int (i0 &&& (3 : Int32))), .val (.int (i1 &&& (3 : Int32))), .val (.int (i2 &&& (3 : Int32))), .val (.int (i3 &&& (3 : Int32))), .val (.int (0 : Int32)), .val (.int (i4 &&& (3 : Int32))), .unset, .unset, .unset, .unset, .unset, .unset, .unset, .unset, .unset, .unset, .unset] [(.int (3 : Int32)), (.int i5)]))
      refine own_st (fun wt wk => XS.iand X18.here hx rfl (hb hby at_102) rfl wk) ?_
      show Fin1 p e below s (rm0Q Z i0 i1 i2 i3 i4 i5 vaM xM0 xM1 xM2 xM3 vcM vaJ xJ0 xJ1 xJ2 xJ3 vcJ h0 n0) room_1.cells room_1.slots (T18.setTop (mkF m 103 #[.val (.int i0), .val (.int i1), .val (.int i2), .val (.int i3), .val (.int i4), .val (.int i5), .val (.ref rs), .val (.ref ks), .val (.int (i0 &&& (3 : Int32))), .val (.int (i1 &&& (3 : Int32))), .val (.int (i2 &&& (3 : Int32))), .val (.int (i3 &&& (3 : Int32))), .val (.int (0 : Int32)), .val (.int (i4 &&& (3 : Int32))), .unset, .unset, .unset, .unset, .unset, .unset, .unset, .unset, .unset, .unset, .unset] [(.int (i5 &&& (3 : Int32)))]))
      refine own_st (fun wt wk => XS.istore X18.here hx rfl (hb hby at_103) rfl (l' := #[.val (.int i0), .val (.int i1), .val (.int i2), .val (.int i3), .val (.int i4), .val (.int i5), .val (.ref rs), .val (.ref ks), .val (.int (i0 &&& (3 : Int32))), .val (.int (i1 &&& (3 : Int32))), .val (.int (i2 &&& (3 : Int32))), .val (.int (i3 &&& (3 : Int32))), .val (.int (0 : Int32)), .val (.int (i4 &&& (3 : Int32))), .val (.int (i5 &&& (3 : Int32))), .unset, .unset, .unset, .unset, .unset, .unset, .unset, .unset, .unset, .unset]) rfl wk) ?_
      show Fin1 p e below s (rm0Q Z i0 i1 i2 i3 i4 i5 vaM xM0 xM1 xM2 xM3 vcM vaJ xJ0 xJ1 xJ2 xJ3 vcJ h0 n0) room_1.cells room_1.slots (T18.setTop (mkF m 105 #[.val (.int i0), .val (.int i1), .val (.int i2), .val (.int i3), .val (.int i4), .val (.int i5), .val (.ref rs), .val (.ref ks), .val (.int (i0 &&& (3 : Int32))), .val (.int (i1 &&& (3 : Int32))), .val (.int (i2 &&& (3 : Int32))), .val (.int (i3 &&& (3 : Int32))), .val (.int (0 : Int32)), .val (.int (i4 &&& (3 : Int32))), .val (.int (i5 &&& (3 : Int32))), .unset, .unset, .unset, .unset, .unset, .unset, .unset, .unset, .unset, .unset] []))
      exact K105 _ _ _ _ _ _ _ (own_rng _) (own_rng _) (own_rng _) (own_rng _) (by decide) (own_rng _) (own_rng _)
    · refine own_st (fun wt wk => XS.ifNo X18.here hx rfl (hb hby at_83) rfl ((if0 _ _).trans (feq c83).1) wk) ?_
      show Fin1 p e below s (rm0Q Z i0 i1 i2 i3 i4 i5 vaM xM0 xM1 xM2 xM3 vcM vaJ xJ0 xJ1 xJ2 xJ3 vcJ h0 n0) room_1.cells room_1.slots (T18.setTop (mkF m 86 #[.val (.int i0), .val (.int i1), .val (.int i2), .val (.int i3), .val (.int i4), .val (.int i5), .val (.ref rs), .val (.ref ks), .val (.int (i0 &&& (3 : Int32))), .val (.int (i1 &&& (3 : Int32))), .val (.int (i2 &&& (3 : Int32))), .val (.int (i3 &&& (3 : Int32))), .unset, .unset, .unset, .unset, .unset, .unset, .unset, .unset, .unset, .unset, .unset, .unset, .unset] []))
      refine own_st (fun wt wk => XS.iconst X18.here hx rfl (hb hby at_86) wk) ?_
      show Fin1 p e below s (rm0Q Z i0 i1 i2 i3 i4 i5 vaM xM0 xM1 xM2 xM3 vcM vaJ xJ0 xJ1 xJ2 xJ3 vcJ h0 n0) room_1.cells room_1.slots (T18.setTop (mkF m 87 #[.val (.int i0), .val (.int i1), .val (.int i2), .val (.int i3), .val (.int i4), .val (.int i5), .val (.ref rs), .val (.ref ks), .val (.int (i0 &&& (3 : Int32))), .val (.int (i1 &&& (3 : Int32))), .val (.int (i2 &&& (3 : Int32))), .val (.int (i3 &&& (3 : Int32))), .unset, .unset, .unset, .unset, .unset, .unset, .unset, .unset, .unset, .unset, .unset, .unset, .unset] [(.int (1 : Int32))]))
      refine own_st (fun wt wk => XS.goto X18.here hx rfl (pc0 := 87) (pc' := 91) rfl (hb hby at_87) (by decide) (by decide) wk) ?_
      show Fin1 p e below s (rm0Q Z i0 i1 i2 i3 i4 i5 vaM xM0 xM1 xM2 xM3 vcM vaJ xJ0 xJ1 xJ2 xJ3 vcJ h0 n0) room_1.cells room_1.slots (T18.setTop (mkF m 91 #[.val (.int i0), .val (.int i1), .val (.int i2), .val (.int i3), .val (.int i4), .val (.int i5), .val (.ref rs), .val (.ref ks), .val (.int (i0 &&& (3 : Int32))), .val (.int (i1 &&& (3 : Int32))), .val (.int (i2 &&& (3 : Int32))), .val (.int (i3 &&& (3 : Int32))), .unset, .unset, .unset, .unset, .unset, .unset, .unset, .unset, .unset, .unset, .unset, .unset, .unset] [(.int (1 : Int32))]))
      refine own_st (fun wt wk => XS.istore X18.here hx rfl (hb hby at_91) rfl (l' := #[.val (.int i0), .val (.int i1), .val (.int i2), .val (.int i3), .val (.int i4), .val (.int i5), .val (.ref rs), .val (.ref ks), .val (.int (i0 &&& (3 : Int32))), .val (.int (i1 &&& (3 : Int32))), .val (.int (i2 &&& (3 : Int32))), .val (.int (i3 &&& (3 : Int32))), .val (.int (1 : Int32)), .unset, .unset, .unset, .unset, .unset, .unset, .unset, .unset, .unset, .unset, .unset, .unset]) rfl wk) ?_
      show Fin1 p e below s (rm0Q Z i0 i1 i2 i3 i4 i5 vaM xM0 xM1 xM2 xM3 vcM vaJ xJ0 xJ1 xJ2 xJ3 vcJ h0 n0) room_1.cells room_1.slots (T18.setTop (mkF m 93 #[.val (.int i0), .val (.int i1), .val (.int i2), .val (.int i3), .val (.int i4), .val (.int i5), .val (.ref rs), .val (.ref ks), .val (.int (i0 &&& (3 : Int32))), .val (.int (i1 &&& (3 : Int32))), .val (.int (i2 &&& (3 : Int32))), .val (.int (i3 &&& (3 : Int32))), .val (.int (1 : Int32)), .unset, .unset, .unset, .unset, .unset, .unset, .unset, .unset, .unset, .unset, .unset, .unset] []))
      refine own_st (fun wt wk => XS.iload X18.here hx rfl (hb hby at_93) rfl wk) ?_
      show Fin1 p e below s (rm0Q Z i0 i1 i2 i3 i4 i5 vaM xM0 xM1 xM2 xM3 vcM vaJ xJ0 xJ1 xJ2 xJ3 vcJ h0 n0) room_1.cells room_1.slots (T18.setTop (mkF m 95 #[.val (.int i0), .val (.int i1), .val (.int i2), .val (.int i3), .val (.int i4), .val (.int i5), .val (.ref rs), .val (.ref ks), .val (.int (i0 &&& (3 : Int32))), .val (.int (i1 &&& (3 : Int32))), .val (.int (i2 &&& (3 : Int32))), .val (.int (i3 &&& (3 : Int32))), .val (.int (1 : Int32)), .unset, .unset, .unset, .unset, .unset, .unset, .unset, .unset, .unset, .unset, .unset, .unset] [(.int i4)]))
      refine own_st (fun wt wk => XS.iconst X18.here hx rfl (hb hby at_95) wk) ?_
      show Fin1 p e below s (rm0Q Z i0 i1 i2 i3 i4 i5 vaM xM0 xM1 xM2 xM3 vcM vaJ xJ0 xJ1 xJ2 xJ3 vcJ h0 n0) room_1.cells room_1.slots (T18.setTop (mkF m 96 #[.val (.int i0), .val (.int i1), .val (.int i2), .val (.int i3), .val (.int i4), .val (.int i5), .val (.ref rs), .val (.ref ks), .val (.int (i0 &&& (3 : Int32))), .val (.int (i1 &&& (3 : Int32))), .val (.int (i2 &&& (3 : Int32))), .val (.int (i3 &&& (3 : Int32))), .val (.int (1 : Int32)), .unset, .unset, .unset, .unset, .unset, .unset, .unset, .unset, .unset, .unset, .unset, .unset] [(.int (3 : Int32)), (.int i4)]))
      refine own_st (fun wt wk => XS.iand X18.here hx rfl (hb hby at_96) rfl wk) ?_
      show Fin1 p e below s (rm0Q Z i0 i1 i2 i3 i4 i5 vaM xM0 xM1 xM2 xM3 vcM vaJ xJ0 xJ1 xJ2 xJ3 vcJ h0 n0) room_1.cells room_1.slots (T18.setTop (mkF m 97 #[.val (.int i0), .val (.int i1), .val (.int i2), .val (.int i3), .val (.int i4), .val (.int i5), .val (.ref rs), .val (.ref ks), .val (.int (i0 &&& (3 : Int32))), .val (.int (i1 &&& (3 : Int32))), .val (.int (i2 &&& (3 : Int32))), .val (.int (i3 &&& (3 : Int32))), .val (.int (1 : Int32)), .unset, .unset, .unset, .unset, .unset, .unset, .unset, .unset, .unset, .unset, .unset, .unset] [(.int (i4 &&& (3 : Int32)))]))
      refine own_st (fun wt wk => XS.istore X18.here hx rfl (hb hby at_97) rfl (l' := #[.val (.int i0), .val (.int i1), .val (.int i2), .val (.int i3), .val (.int i4), .val (.int i5), .val (.ref rs), .val (.ref ks), .val (.int (i0 &&& (3 : Int32))), .val (.int (i1 &&& (3 : Int32))), .val (.int (i2 &&& (3 : Int32))), .val (.int (i3 &&& (3 : Int32))), .val (.int (1 : Int32)), .val (.int (i4 &&& (3 : Int32))), .unset, .unset, .unset, .unset, .unset, .unset, .unset, .unset, .unset, .unset, .unset]) rfl wk) ?_
      show Fin1 p e below s (rm0Q Z i0 i1 i2 i3 i4 i5 vaM xM0 xM1 xM2 xM3 vcM vaJ xJ0 xJ1 xJ2 xJ3 vcJ h0 n0) room_1.cells room_1.slots (T18.setTop (mkF m 99 #[.val (.int i0), .val (.int i1), .val (.int i2), .val (.int i3), .val (.int i4), .val (.int i5), .val (.ref rs), .val (.ref ks), .val (.int (i0 &&& (3 : Int32))), .val (.int (i1 &&& (3 : Int32))), .val (.int (i2 &&& (3 : Int32))), .val (.int (i3 &&& (3 : Int32))), .val (.int (1 : Int32)), .val (.int (i4 &&& (3 : Int32))), .unset, .unset, .unset, .unset, .unset, .unset, .unset, .unset, .unset, .unset, .unset] []))
      refine own_st (fun wt wk => XS.iload X18.here hx rfl (hb hby at_99) rfl wk) ?_
      show Fin1 p e below s (rm0Q Z i0 i1 i2 i3 i4 i5 vaM xM0 xM1 xM2 xM3 vcM vaJ xJ0 xJ1 xJ2 xJ3 vcJ h0 n0) room_1.cells room_1.slots (T18.setTop (mkF m 101 #[.val (.int i0), .val (.int i1), .val (.int i2), .val (.int i3), .val (.int i4), .val (.int i5), .val (.ref rs), .val (.ref ks), .val (.int (i0 &&& (3 : Int32))), .val (.int (i1 &&& (3 : Int32))), .val (.int (i2 &&& (3 : Int32))), .val (.int (i3 &&& (3 : Int32))), .val (.int (1 : Int32)), .val (.int (i4 &&& (3 : Int32))), .unset, .unset, .unset, .unset, .unset, .unset, .unset, .unset, .unset, .unset, .unset] [(.int i5)]))
      refine own_st (fun wt wk => XS.iconst X18.here hx rfl (hb hby at_101) wk) ?_
      show Fin1 p e below s (rm0Q Z i0 i1 i2 i3 i4 i5 vaM xM0 xM1 xM2 xM3 vcM vaJ xJ0 xJ1 xJ2 xJ3 vcJ h0 n0) room_1.cells room_1.slots (T18.setTop (mkF m 102 #[.val (.int i0), .val (.int i1), .val (.int i2), .val (.int i3), .val (.int i4), .val (.int i5), .val (.ref rs), .val (.ref ks), .val (.int (i0 &&& (3 : Int32))), .val (.int (i1 &&& (3 : Int32))), .val (.int (i2 &&& (3 : Int32))), .val (.int (i3 &&& (3 : Int32))), .val (.int (1 : Int32)), .val (.int (i4 &&& (3 : Int32))), .unset, .unset, .unset, .unset, .unset, .unset, .unset, .unset, .unset, .unset, .unset] [(.int (3 : Int32)), (.int i5)]))
      refine own_st (fun wt wk => XS.iand X18.here hx rfl (hb hby at_102) rfl wk) ?_
      show Fin1 p e below s (rm0Q Z i0 i1 i2 i3 i4 i5 vaM xM0 xM1 xM2 xM3 vcM vaJ xJ0 xJ1 xJ2 xJ3 vcJ h0 n0) room_1.cells room_1.slots (T18.setTop (mkF m 103 #[.val (.int i0), .val (.int i1), .val (.int i2), .val (.int i3), .val (.int i4), .val (.int i5), .val (.ref rs), .val (.ref ks), .val (.int (i0 &&& (3 : Int32))), .val (.int (i1 &&& (3 : Int32))), .val (.int (i2 &&& (3 : Int32))), .val (.int (i3 &&& (3 : Int32))), .val (.int (1 : Int32)), .val (.int (i4 &&& (3 : Int32))), .unset, .unset, .unset, .unset, .unset, .unset, .unset, .unset, .unset, .unset, .unset] [(.int (i5 &&& (3 : Int32)))]))
      refine own_st (fun wt wk => XS.istore X18.here hx rfl (hb hby at_103) rfl (l' := #[.val (.int i0), .val (.int i1), .val (.int i2), .val (.int i3), .val (.int i4), .val (.int i5), .val (.ref rs), .val (.ref ks), .val (.int (i0 &&& (3 : Int32))), .val (.int (i1 &&& (3 : Int32))), .val (.int (i2 &&& (3 : Int32))), .val (.int (i3 &&& (3 : Int32))), .val (.int (1 : Int32)), .val (.int (i4 &&& (3 : Int32))), .val (.int (i5 &&& (3 : Int32))), .unset, .unset, .unset, .unset, .unset, .unset, .unset, .unset, .unset, .unset]) rfl wk) ?_
      show Fin1 p e below s (rm0Q Z i0 i1 i2 i3 i4 i5 vaM xM0 xM1 xM2 xM3 vcM vaJ xJ0 xJ1 xJ2 xJ3 vcJ h0 n0) room_1.cells room_1.slots (T18.setTop (mkF m 105 #[.val (.int i0), .val (.int i1), .val (.int i2), .val (.int i3), .val (.int i4), .val (.int i5), .val (.ref rs), .val (.ref ks), .val (.int (i0 &&& (3 : Int32))), .val (.int (i1 &&& (3 : Int32))), .val (.int (i2 &&& (3 : Int32))), .val (.int (i3 &&& (3 : Int32))), .val (.int (1 : Int32)), .val (.int (i4 &&& (3 : Int32))), .val (.int (i5 &&& (3 : Int32))), .unset, .unset, .unset, .unset, .unset, .unset, .unset, .unset, .unset, .unset] []))
      exact K105 _ _ _ _ _ _ _ (own_rng _) (own_rng _) (own_rng _) (own_rng _) (by decide) (own_rng _) (own_rng _)
  intro oa ob od oe km oq ok hoa hob hod hoe hkm hoq hok
  obtain ⟨T19, h19, X19, e19, E19, A19, D19, -, st19⟩ := newO X18 hx hZ hown (hw _ (List.mem_of_getElem? (i := 24) rfl)) (hw _ (List.mem_of_getElem? (i := 25) rfl)) (hw _ (List.mem_of_getElem? (i := 26) rfl)) e18 (g := (mkF m 105 #[.val (.int i0), .val (.int i1), .val (.int i2), .val (.int i3), .val (.int i4), .val (.int i5), .val (.ref rs), .val (.ref ks), .val (.int oa), .val (.int ob), .val (.int od), .val (.int oe), .val (.int km), .val (.int oq), .val (.int ok), .unset, .unset, .unset, .unset, .unset, .unset, .unset, .unset, .unset, .unset] [])) rfl (hb hby at_105) (by decide) (by decide)
  obtain ⟨b, gz_b⟩ : ∃ z, z = h18.size := ⟨_, rfl⟩
  rw [← gz_b] at A19 D19 st19
  have ne_rs_b : rs ≠ b := Nat.ne_of_lt (Nat.lt_of_lt_of_le V_rs.lt (Nat.le_of_eq gz_b.symm))
  have ne_ks_b : ks ≠ b := Nat.ne_of_lt (Nat.lt_of_lt_of_le V_ks.lt (Nat.le_of_eq gz_b.symm))
  have g_b : n0 ≤ b := Nat.le_trans Z0 (Nat.le_of_eq gz_b.symm)
  have Z0 := Nat.le_trans Z0 E19.1
  have O := O.ext E19
  have V_rs := V_rs.ext E19
  have V_ks := V_ks.ext E19
  refine own_st st19 ?_
  have E_b := A19
  have F_sent_b : Fld Z h19 b "com/example/electd/electd/service/DatagramCounts" "sent" "[J" .null := D19 (Or.inr (hw _ (List.mem_of_getElem? (i := 50) rfl))) (ty := (.array .long)) (by decide)
  have F_received_b : Fld Z h19 b "com/example/electd/electd/service/DatagramCounts" "received" "[J" .null := D19 (Or.inr (hw _ (List.mem_of_getElem? (i := 52) rfl))) (ty := (.array .long)) (by decide)
  have F_rejected_b : Fld Z h19 b "com/example/electd/electd/service/DatagramCounts" "rejected" "[J" .null := D19 (Or.inr (hw _ (List.mem_of_getElem? (i := 66) rfl))) (ty := (.array .long)) (by decide)
  show Fin1 p e below s (rm0Q Z i0 i1 i2 i3 i4 i5 vaM xM0 xM1 xM2 xM3 vcM vaJ xJ0 xJ1 xJ2 xJ3 vcJ h0 n0) room_1.cells room_1.slots (T19.setTop (mkF m 108 #[.val (.int i0), .val (.int i1), .val (.int i2), .val (.int i3), .val (.int i4), .val (.int i5), .val (.ref rs), .val (.ref ks), .val (.int oa), .val (.int ob), .val (.int od), .val (.int oe), .val (.int km), .val (.int oq), .val (.int ok), .unset, .unset, .unset, .unset, .unset, .unset, .unset, .unset, .unset, .unset] [(.ref b)]))
  refine own_st (fun wt wk => XS.dup X19.here hx rfl (hb hby at_108) rfl rfl wk) ?_
  show Fin1 p e below s (rm0Q Z i0 i1 i2 i3 i4 i5 vaM xM0 xM1 xM2 xM3 vcM vaJ xJ0 xJ1 xJ2 xJ3 vcJ h0 n0) room_1.cells room_1.slots (T19.setTop (mkF m 109 #[.val (.int i0), .val (.int i1), .val (.int i2), .val (.int i3), .val (.int i4), .val (.int i5), .val (.ref rs), .val (.ref ks), .val (.int oa), .val (.int ob), .val (.int od), .val (.int oe), .val (.int km), .val (.int oq), .val (.int ok), .unset, .unset, .unset, .unset, .unset, .unset, .unset, .unset, .unset, .unset] [(.ref b), (.ref b)]))
  obtain ⟨v20, T20, h20, L20, X20, e20, hQ20, st20⟩ := own_special X19 hx hZ hown rfl (hw _ (List.mem_of_getElem? (i := 27) rfl)) (hw _ (List.mem_of_getElem? (i := 28) rfl)) (hw _ (List.mem_of_getElem? (i := 29) rfl)) (hw _ (List.mem_of_getElem? (i := 26) rfl)) (by decide) (a := b) (rmC l Z a0 hw b vaM xM0 xM1 xM2 xM3 vcM vaJ xJ0 xJ1 xJ2 xJ3 vcJ h19 n0 Z0 g_b E_b F_sent_b F_received_b F_rejected_b O EM EJ) e19 (g := (mkF m 109 #[.val (.int i0), .val (.int i1), .val (.int i2), .val (.int i3), .val (.int i4), .val (.int i5), .val (.ref rs), .val (.ref ks), .val (.int oa), .val (.int ob), .val (.int od), .val (.int oe), .val (.int km), .val (.int oq), .val (.int ok), .unset, .unset, .unset, .unset, .unset, .unset, .unset, .unset, .unset, .unset] [(.ref b), (.ref b)])) rfl (by rw [hml]; rfl) (argsL := []) (rest := [(.ref b)]) (lenOf pd_7 rfl) rfl (W := 1) (by show 2 * 0 + _ ≤ _; exact Nat.le_of_eq rfl) (hb hby at_109) (by decide) (by decide) (by decide) (by decide)
  obtain ⟨rfl, N20q, t0, t1, t2, k0, k1, k2, K20, ⟨s0, s1, s2⟩, ⟨ne_t0_t1, ne_t0_t2, ne_t1_t2⟩, F0, F1, F2, V_t0, V_t1, V_t2⟩ := hQ20
  have N20 := Fr.app N18 N20q
  have ne_rs_t0 : rs ≠ t0 := Nat.ne_of_lt (Nat.lt_of_lt_of_le V_rs.lt s0)
  have ne_ks_t0 : ks ≠ t0 := Nat.ne_of_lt (Nat.lt_of_lt_of_le V_ks.lt s0)
  have ne_b_t0 : b ≠ t0 := Nat.ne_of_lt (Nat.lt_of_lt_of_le E_b.lt s0)
  have g_t0 : n0 ≤ t0 := Nat.le_trans Z0 s0
  have ne_rs_t1 : rs ≠ t1 := Nat.ne_of_lt (Nat.lt_of_lt_of_le V_rs.lt s1)
  have ne_ks_t1 : ks ≠ t1 := Nat.ne_of_lt (Nat.lt_of_lt_of_le V_ks.lt s1)
  have ne_b_t1 : b ≠ t1 := Nat.ne_of_lt (Nat.lt_of_lt_of_le E_b.lt s1)
  have g_t1 : n0 ≤ t1 := Nat.le_trans Z0 s1
  have ne_rs_t2 : rs ≠ t2 := Nat.ne_of_lt (Nat.lt_of_lt_of_le V_rs.lt s2)
  have ne_ks_t2 : ks ≠ t2 := Nat.ne_of_lt (Nat.lt_of_lt_of_le V_ks.lt s2)
  have ne_b_t2 : b ≠ t2 := Nat.ne_of_lt (Nat.lt_of_lt_of_le E_b.lt s2)
  have g_t2 : n0 ≤ t2 := Nat.le_trans Z0 s2
  have Z0 := Nat.le_trans Z0 K20.1
  have O := O.keep K20 (allS (P := fun x => n0 ≤ x) g_b all0)
  have V_rs := V_rs.keep K20 (ninS ne_rs_b nin0)
  have V_ks := V_ks.keep K20 (ninS ne_ks_b nin0)
  have E_b := E_b.keep K20
  refine own_st st20 ?_
  show Fin1 p e below s (rm0Q Z i0 i1 i2 i3 i4 i5 vaM xM0 xM1 xM2 xM3 vcM vaJ xJ0 xJ1 xJ2 xJ3 vcJ h0 n0) room_1.cells room_1.slots (T20.setTop (mkF m 112 #[.val (.int i0), .val (.int i1), .val (.int i2), .val (.int i3), .val (.int i4), .val (.int i5), .val (.ref rs), .val (.ref ks), .val (.int oa), .val (.int ob), .val (.int od), .val (.int oe), .val (.int km), .val (.int oq), .val (.int ok), .unset, .unset, .unset, .unset, .unset, .unset, .unset, .unset, .unset, .unset] [(.ref b)]))
  refine own_st (fun wt wk => XS.astore X20.here hx rfl (hb hby at_112) rfl rfl (l' := #[.val (.int i0), .val (.int i1), .val (.int i2), .val (.int i3), .val (.int i4), .val (.int i5), .val (.ref rs), .val (.ref ks), .val (.int oa), .val (.int ob), .val (.int od), .val (.int oe), .val (.int km), .val (.int oq), .val (.int ok), .val (.ref b), .unset, .unset, .unset, .unset, .unset, .unset, .unset, .unset, .unset]) rfl wk) ?_
  show Fin1 p e below s (rm0Q Z i0 i1 i2 i3 i4 i5 vaM xM0 xM1 xM2 xM3 vcM vaJ xJ0 xJ1 xJ2 xJ3 vcJ h0 n0) room_1.cells room_1.slots (T20.setTop (mkF m 114 #[.val (.int i0), .val (.int i1), .val (.int i2), .val (.int i3), .val (.int i4), .val (.int i5), .val (.ref rs), .val (.ref ks), .val (.int oa), .val (.int ob), .val (.int od), .val (.int oe), .val (.int km), .val (.int oq), .val (.int ok), .val (.ref b), .unset, .unset, .unset, .unset, .unset, .unset, .unset, .unset, .unset] []))
  refine own_st (fun wt wk => XS.aload X20.here hx rfl (hb hby at_114) rfl rfl wk) ?_
  show Fin1 p e below s (rm0Q Z i0 i1 i2 i3 i4 i5 vaM xM0 xM1 xM2 xM3 vcM vaJ xJ0 xJ1 xJ2 xJ3 vcJ h0 n0) room_1.cells room_1.slots (T20.setTop (mkF m 116 #[.val (.int i0), .val (.int i1), .val (.int i2), .val (.int i3), .val (.int i4), .val (.int i5), .val (.ref rs), .val (.ref ks), .val (.int oa), .val (.int ob), .val (.int od), .val (.int oe), .val (.int km), .val (.int oq), .val (.int ok), .val (.ref b), .unset, .unset, .unset, .unset, .unset, .unset, .unset, .unset, .unset] [(.ref b)]))
  refine own_st (fun wt wk => XS.aload X20.here hx rfl (hb hby at_116) rfl rfl wk) ?_
  show Fin1 p e below s (rm0Q Z i0 i1 i2 i3 i4 i5 vaM xM0 xM1 xM2 xM3 vcM vaJ xJ0 xJ1 xJ2 xJ3 vcJ h0 n0) room_1.cells room_1.slots (T20.setTop (mkF m 118 #[.val (.int i0), .val (.int i1), .val (.int i2), .val (.int i3), .val (.int i4), .val (.int i5), .val (.ref rs), .val (.ref ks), .val (.int oa), .val (.int ob), .val (.int od), .val (.int oe), .val (.int km), .val (.int oq), .val (.int ok), .val (.ref b), .unset, .unset, .unset, .unset, .unset, .unset, .unset, .unset, .unset] [(.ref rs), (.ref b)]))
  refine own_st (fun wt wk => XS.iload X20.here hx rfl (hb hby at_118) rfl wk) ?_
  show Fin1 p e below s (rm0Q Z i0 i1 i2 i3 i4 i5 vaM xM0 xM1 xM2 xM3 vcM vaJ xJ0 xJ1 xJ2 xJ3 vcJ h0 n0) room_1.cells room_1.slots (T20.setTop (mkF m 120 #[.val (.int i0), .val (.int i1), .val (.int i2), .val (.int i3), .val (.int i4), .val (.int i5), .val (.ref rs), .val (.ref ks), .val (.int oa), .val (.int ob), .val (.int od), .val (.int oe), .val (.int km), .val (.int oq), .val (.int ok), .val (.ref b), .unset, .unset, .unset, .unset, .unset, .unset, .unset, .unset, .unset] [(.int oa), (.ref rs), (.ref b)]))
  obtain ⟨ra, hv_ra, Q_ra, O_ra⟩ := own_selJ EJ oa hoa
  refine own_st (own_ld (j := oa) (v := (.ref ra)) X20 hx hZ e20 V_rs hoa hv_ra (g := (mkF m 120 #[.val (.int i0), .val (.int i1), .val (.int i2), .val (.int i3), .val (.int i4), .val (.int i5), .val (.ref rs), .val (.ref ks), .val (.int oa), .val (.int ob), .val (.int od), .val (.int oe), .val (.int km), .val (.int oq), .val (.int ok), .val (.ref b), .unset, .unset, .unset, .unset, .unset, .unset, .unset, .unset, .unset] [(.int oa), (.ref rs), (.ref b)])) rfl rfl (Or.inr (Or.inr ⟨rfl, rfl⟩)) (hb hby at_120)) ?_
  show Fin1 p e below s (rm0Q Z i0 i1 i2 i3 i4 i5 vaM xM0 xM1 xM2 xM3 vcM vaJ xJ0 xJ1 xJ2 xJ3 vcJ h0 n0) room_1.cells room_1.slots (T20.setTop (mkF m 121 #[.val (.int i0), .val (.int i1), .val (.int i2), .val (.int i3), .val (.int i4), .val (.int i5), .val (.ref rs), .val (.ref ks), .val (.int oa), .val (.int ob), .val (.int od), .val (.int oe), .val (.int km), .val (.int oq), .val (.int ok), .val (.ref b), .unset, .unset, .unset, .unset, .unset, .unset, .unset, .unset, .unset] [(.ref ra), (.ref b)]))
  obtain ⟨v21, T21, h21, L21, X21, e21, hQ21, st21⟩ := own_virtual X20 hx hZ hown (hw _ (List.mem_of_getElem? (i := 67) rfl)) (hw _ (List.mem_of_getElem? (i := 68) rfl)) (hw _ (List.mem_of_getElem? (i := 70) rfl)) (hw _ (List.mem_of_getElem? (i := 69) rfl)) (hw _ (List.mem_of_getElem? (i := 71) rfl)) (hw _ (List.mem_of_getElem? (i := 26) rfl)) (by decide) (a := b) E_b (rmRej l Z a0 hw b ra oa t2 k2 (0 : Int64) (0 : Int64) (0 : Int64) (0 : Int64) h20 n0 Z0 g_t2 hoa F2 (Q_ra.ext O.2) (O_ra.ext O.2) V_t2) e20 (g := (mkF m 121 #[.val (.int i0), .val (.int i1), .val (.int i2), .val (.int i3), .val (.int i4), .val (.int i5), .val (.ref rs), .val (.ref ks), .val (.int oa), .val (.int ob), .val (.int od), .val (.int oe), .val (.int km), .val (.int oq), .val (.int ok), .val (.ref b), .unset, .unset, .unset, .unset, .unset, .unset, .unset, .unset, .unset] [(.ref ra), (.ref b)])) rfl (by rw [hml]; rfl) (argsL := [(.ref ra)]) (rest := []) (lenOf pd_9 rfl) rfl (W := 0) (by show 2 * 0 + _ ≤ _; exact Nat.le_of_eq rfl) (hb hby at_121) (by decide) (by decide) (by decide) (by decide)
  obtain ⟨rfl, N21q, K21, V_t2⟩ := hQ21
  have N21 := Fr.app N20 N21q
  have Z0 := Nat.le_trans Z0 K21.1
  have O := O.keep K21 (allS (P := fun x => n0 ≤ x) g_t2 all0)
  have V_rs := V_rs.keep K21 (ninS ne_rs_t2 nin0)
  have V_ks := V_ks.keep K21 (ninS ne_ks_t2 nin0)
  have E_b := E_b.keep K21
  have F0 := F0.keep K21 (ninS ne_b_t2 nin0)
  have F1 := F1.keep K21 (ninS ne_b_t2 nin0)
  have F2 := F2.keep K21 (ninS ne_b_t2 nin0)
  have V_t0 := V_t0.keep K21 (ninS ne_t0_t2 nin0)
  have V_t1 := V_t1.keep K21 (ninS ne_t1_t2 nin0)
  refine own_st st21 ?_
  show Fin1 p e below s (rm0Q Z i0 i1 i2 i3 i4 i5 vaM xM0 xM1 xM2 xM3 vcM vaJ xJ0 xJ1 xJ2 xJ3 vcJ h0 n0) room_1.cells room_1.slots (T21.setTop (mkF m 124 #[.val (.int i0), .val (.int i1), .val (.int i2), .val (.int i3), .val (.int i4), .val (.int i5), .val (.ref rs), .val (.ref ks), .val (.int oa), .val (.int ob), .val (.int od), .val (.int oe), .val (.int km), .val (.int oq), .val (.int ok), .val (.ref b), .unset, .unset, .unset, .unset, .unset, .unset, .unset, .unset, .unset] []))
  refine own_st (fun wt wk => XS.aload X21.here hx rfl (hb hby at_124) rfl rfl wk) ?_
  show Fin1 p e below s (rm0Q Z i0 i1 i2 i3 i4 i5 vaM xM0 xM1 xM2 xM3 vcM vaJ xJ0 xJ1 xJ2 xJ3 vcJ h0 n0) room_1.cells room_1.slots (T21.setTop (mkF m 126 #[.val (.int i0), .val (.int i1), .val (.int i2), .val (.int i3), .val (.int i4), .val (.int i5), .val (.ref rs), .val (.ref ks), .val (.int oa), .val (.int ob), .val (.int od), .val (.int oe), .val (.int km), .val (.int oq), .val (.int ok), .val (.ref b), .unset, .unset, .unset, .unset, .unset, .unset, .unset, .unset, .unset] [(.ref b)]))
  refine own_st (fun wt wk => XS.aload X21.here hx rfl (hb hby at_126) rfl rfl wk) ?_
  show Fin1 p e below s (rm0Q Z i0 i1 i2 i3 i4 i5 vaM xM0 xM1 xM2 xM3 vcM vaJ xJ0 xJ1 xJ2 xJ3 vcJ h0 n0) room_1.cells room_1.slots (T21.setTop (mkF m 128 #[.val (.int i0), .val (.int i1), .val (.int i2), .val (.int i3), .val (.int i4), .val (.int i5), .val (.ref rs), .val (.ref ks), .val (.int oa), .val (.int ob), .val (.int od), .val (.int oe), .val (.int km), .val (.int oq), .val (.int ok), .val (.ref b), .unset, .unset, .unset, .unset, .unset, .unset, .unset, .unset, .unset] [(.ref rs), (.ref b)]))
  refine own_st (fun wt wk => XS.iload X21.here hx rfl (hb hby at_128) rfl wk) ?_
  show Fin1 p e below s (rm0Q Z i0 i1 i2 i3 i4 i5 vaM xM0 xM1 xM2 xM3 vcM vaJ xJ0 xJ1 xJ2 xJ3 vcJ h0 n0) room_1.cells room_1.slots (T21.setTop (mkF m 130 #[.val (.int i0), .val (.int i1), .val (.int i2), .val (.int i3), .val (.int i4), .val (.int i5), .val (.ref rs), .val (.ref ks), .val (.int oa), .val (.int ob), .val (.int od), .val (.int oe), .val (.int km), .val (.int oq), .val (.int ok), .val (.ref b), .unset, .unset, .unset, .unset, .unset, .unset, .unset, .unset, .unset] [(.int ob), (.ref rs), (.ref b)]))
  obtain ⟨rb, hv_rb, Q_rb, O_rb⟩ := own_selJ EJ ob hob
  refine own_st (own_ld (j := ob) (v := (.ref rb)) X21 hx hZ e21 V_rs hob hv_rb (g := (mkF m 130 #[.val (.int i0), .val (.int i1), .val (.int i2), .val (.int i3), .val (.int i4), .val (.int i5), .val (.ref rs), .val (.ref ks), .val (.int oa), .val (.int ob), .val (.int od), .val (.int oe), .val (.int km), .val (.int oq), .val (.int ok), .val (.ref b), .unset, .unset, .unset, .unset, .unset, .unset, .unset, .unset, .unset] [(.int ob), (.ref rs), (.ref b)])) rfl rfl (Or.inr (Or.inr ⟨rfl, rfl⟩)) (hb hby at_130)) ?_
  show Fin1 p e below s (rm0Q Z i0 i1 i2 i3 i4 i5 vaM xM0 xM1 xM2 xM3 vcM vaJ xJ0 xJ1 xJ2 xJ3 vcJ h0 n0) room_1.cells room_1.slots (T21.setTop (mkF m 131 #[.val (.int i0), .val (.int i1), .val (.int i2), .val (.int i3), .val (.int i4), .val (.int i5), .val (.ref rs), .val (.ref ks), .val (.int oa), .val (.int ob), .val (.int od), .val (.int oe), .val (.int km), .val (.int oq), .val (.int ok), .val (.ref b), .unset, .unset, .unset, .unset, .unset, .unset, .unset, .unset, .unset] [(.ref rb), (.ref b)]))
  obtain ⟨v22, T22, h22, L22, X22, e22, hQ22, st22⟩ := own_virtual X21 hx hZ hown (hw _ (List.mem_of_getElem? (i := 67) rfl)) (hw _ (List.mem_of_getElem? (i := 68) rfl)) (hw _ (List.mem_of_getElem? (i := 70) rfl)) (hw _ (List.mem_of_getElem? (i := 69) rfl)) (hw _ (List.mem_of_getElem? (i := 71) rfl)) (hw _ (List.mem_of_getElem? (i := 26) rfl)) (by decide) (a := b) E_b (rmRej l Z a0 hw b rb ob t2 k2 ((0 : Int64) + own_hit (0 : Int32) oa) ((0 : Int64) + own_hit (1 : Int32) oa) ((0 : Int64) + own_hit (2 : Int32) oa) ((0 : Int64) + own_hit (3 : Int32) oa) h21 n0 Z0 g_t2 hob F2 (Q_rb.ext O.2) (O_rb.ext O.2) V_t2) e21 (g := (mkF m 131 #[.val (.int i0), .val (.int i1), .val (.int i2), .val (.int i3), .val (.int i4), .val (.int i5), .val (.ref rs), .val (.ref ks), .val (.int oa), .val (.int ob), .val (.int od), .val (.int oe), .val (.int km), .val (.int oq), .val (.int ok), .val (.ref b), .unset, .unset, .unset, .unset, .unset, .unset, .unset, .unset, .unset] [(.ref rb), (.ref b)])) rfl (by rw [hml]; rfl) (argsL := [(.ref rb)]) (rest := []) (lenOf pd_9 rfl) rfl (W := 0) (by show 2 * 0 + _ ≤ _; exact Nat.le_of_eq rfl) (hb hby at_131) (by decide) (by decide) (by decide) (by decide)
  obtain ⟨rfl, N22q, K22, V_t2⟩ := hQ22
  have N22 := Fr.app N21 N22q
  have Z0 := Nat.le_trans Z0 K22.1
  have O := O.keep K22 (allS (P := fun x => n0 ≤ x) g_t2 all0)
  have V_rs := V_rs.keep K22 (ninS ne_rs_t2 nin0)
  have V_ks := V_ks.keep K22 (ninS ne_ks_t2 nin0)
  have E_b := E_b.keep K22
  have F0 := F0.keep K22 (ninS ne_b_t2 nin0)
  have F1 := F1.keep K22 (ninS ne_b_t2 nin0)
  have F2 := F2.keep K22 (ninS ne_b_t2 nin0)
  have V_t0 := V_t0.keep K22 (ninS ne_t0_t2 nin0)
  have V_t1 := V_t1.keep K22 (ninS ne_t1_t2 nin0)
  refine own_st st22 ?_
  show Fin1 p e below s (rm0Q Z i0 i1 i2 i3 i4 i5 vaM xM0 xM1 xM2 xM3 vcM vaJ xJ0 xJ1 xJ2 xJ3 vcJ h0 n0) room_1.cells room_1.slots (T22.setTop (mkF m 134 #[.val (.int i0), .val (.int i1), .val (.int i2), .val (.int i3), .val (.int i4), .val (.int i5), .val (.ref rs), .val (.ref ks), .val (.int oa), .val (.int ob), .val (.int od), .val (.int oe), .val (.int km), .val (.int oq), .val (.int ok), .val (.ref b), .unset, .unset, .unset, .unset, .unset, .unset, .unset, .unset, .unset] []))
  refine own_st (fun wt wk => XS.aload X22.here hx rfl (hb hby at_134) rfl rfl wk) ?_
  show Fin1 p e below s (rm0Q Z i0 i1 i2 i3 i4 i5 vaM xM0 xM1 xM2 xM3 vcM vaJ xJ0 xJ1 xJ2 xJ3 vcJ h0 n0) room_1.cells room_1.slots (T22.setTop (mkF m 136 #[.val (.int i0), .val (.int i1), .val (.int i2), .val (.int i3), .val (.int i4), .val (.int i5), .val (.ref rs), .val (.ref ks), .val (.int oa), .val (.int ob), .val (.int od), .val (.int oe), .val (.int km), .val (.int oq), .val (.int ok), .val (.ref b), .unset, .unset, .unset, .unset, .unset, .unset, .unset, .unset, .unset] [(.ref b)]))
  refine own_st (fun wt wk => XS.aload X22.here hx rfl (hb hby at_136) rfl rfl wk) ?_
  show Fin1 p e below s (rm0Q Z i0 i1 i2 i3 i4 i5 vaM xM0 xM1 xM2 xM3 vcM vaJ xJ0 xJ1 xJ2 xJ3 vcJ h0 n0) room_1.cells room_1.slots (T22.setTop (mkF m 138 #[.val (.int i0), .val (.int i1), .val (.int i2), .val (.int i3), .val (.int i4), .val (.int i5), .val (.ref rs), .val (.ref ks), .val (.int oa), .val (.int ob), .val (.int od), .val (.int oe), .val (.int km), .val (.int oq), .val (.int ok), .val (.ref b), .unset, .unset, .unset, .unset, .unset, .unset, .unset, .unset, .unset] [(.ref rs), (.ref b)]))
  refine own_st (fun wt wk => XS.iload X22.here hx rfl (hb hby at_138) rfl wk) ?_
  show Fin1 p e below s (rm0Q Z i0 i1 i2 i3 i4 i5 vaM xM0 xM1 xM2 xM3 vcM vaJ xJ0 xJ1 xJ2 xJ3 vcJ h0 n0) room_1.cells room_1.slots (T22.setTop (mkF m 140 #[.val (.int i0), .val (.int i1), .val (.int i2), .val (.int i3), .val (.int i4), .val (.int i5), .val (.ref rs), .val (.ref ks), .val (.int oa), .val (.int ob), .val (.int od), .val (.int oe), .val (.int km), .val (.int oq), .val (.int ok), .val (.ref b), .unset, .unset, .unset, .unset, .unset, .unset, .unset, .unset, .unset] [(.int od), (.ref rs), (.ref b)]))
  obtain ⟨rd, hv_rd, Q_rd, O_rd⟩ := own_selJ EJ od hod
  refine own_st (own_ld (j := od) (v := (.ref rd)) X22 hx hZ e22 V_rs hod hv_rd (g := (mkF m 140 #[.val (.int i0), .val (.int i1), .val (.int i2), .val (.int i3), .val (.int i4), .val (.int i5), .val (.ref rs), .val (.ref ks), .val (.int oa), .val (.int ob), .val (.int od), .val (.int oe), .val (.int km), .val (.int oq), .val (.int ok), .val (.ref b), .unset, .unset, .unset, .unset, .unset, .unset, .unset, .unset, .unset] [(.int od), (.ref rs), (.ref b)])) rfl rfl (Or.inr (Or.inr ⟨rfl, rfl⟩)) (hb hby at_140)) ?_
  show Fin1 p e below s (rm0Q Z i0 i1 i2 i3 i4 i5 vaM xM0 xM1 xM2 xM3 vcM vaJ xJ0 xJ1 xJ2 xJ3 vcJ h0 n0) room_1.cells room_1.slots (T22.setTop (mkF m 141 #[.val (.int i0), .val (.int i1), .val (.int i2), .val (.int i3), .val (.int i4), .val (.int i5), .val (.ref rs), .val (.ref ks), .val (.int oa), .val (.int ob), .val (.int od), .val (.int oe), .val (.int km), .val (.int oq), .val (.int ok), .val (.ref b), .unset, .unset, .unset, .unset, .unset, .unset, .unset, .unset, .unset] [(.ref rd), (.ref b)]))
  obtain ⟨v23, T23, h23, L23, X23, e23, hQ23, st23⟩ := own_virtual X22 hx hZ hown (hw _ (List.mem_of_getElem? (i := 67) rfl)) (hw _ (List.mem_of_getElem? (i := 68) rfl)) (hw _ (List.mem_of_getElem? (i := 70) rfl)) (hw _ (List.mem_of_getElem? (i := 69) rfl)) (hw _ (List.mem_of_getElem? (i := 71) rfl)) (hw _ (List.mem_of_getElem? (i := 26) rfl)) (by decide) (a := b) E_b (rmRej l Z a0 hw b rd od t2 k2 (((0 : Int64) + own_hit (0 : Int32) oa) + own_hit (0 : Int32) ob) (((0 : Int64) + own_hit (1 : Int32) oa) + own_hit (1 : Int32) ob) (((0 : Int64) + own_hit (2 : Int32) oa) + own_hit (2 : Int32) ob) (((0 : Int64) + own_hit (3 : Int32) oa) + own_hit (3 : Int32) ob) h22 n0 Z0 g_t2 hod F2 (Q_rd.ext O.2) (O_rd.ext O.2) V_t2) e22 (g := (mkF m 141 #[.val (.int i0), .val (.int i1), .val (.int i2), .val (.int i3), .val (.int i4), .val (.int i5), .val (.ref rs), .val (.ref ks), .val (.int oa), .val (.int ob), .val (.int od), .val (.int oe), .val (.int km), .val (.int oq), .val (.int ok), .val (.ref b), .unset, .unset, .unset, .unset, .unset, .unset, .unset, .unset, .unset] [(.ref rd), (.ref b)])) rfl (by rw [hml]; rfl) (argsL := [(.ref rd)]) (rest := []) (lenOf pd_9 rfl) rfl (W := 0) (by show 2 * 0 + _ ≤ _; exact Nat.le_of_eq rfl) (hb hby at_141) (by decide) (by decide) (by decide) (by decide)
  obtain ⟨rfl, N23q, K23, V_t2⟩ := hQ23
  have N23 := Fr.app N22 N23q
  have Z0 := Nat.le_trans Z0 K23.1
  have O := O.keep K23 (allS (P := fun x => n0 ≤ x) g_t2 all0)
  have V_rs := V_rs.keep K23 (ninS ne_rs_t2 nin0)
  have V_ks := V_ks.keep K23 (ninS ne_ks_t2 nin0)
  have E_b := E_b.keep K23
  have F0 := F0.keep K23 (ninS ne_b_t2 nin0)
  have F1 := F1.keep K23 (ninS ne_b_t2 nin0)
  have F2 := F2.keep K23 (ninS ne_b_t2 nin0)
  have V_t0 := V_t0.keep K23 (ninS ne_t0_t2 nin0)
  have V_t1 := V_t1.keep K23 (ninS ne_t1_t2 nin0)
  refine own_st st23 ?_
  show Fin1 p e below s (rm0Q Z i0 i1 i2 i3 i4 i5 vaM xM0 xM1 xM2 xM3 vcM vaJ xJ0 xJ1 xJ2 xJ3 vcJ h0 n0) room_1.cells room_1.slots (T23.setTop (mkF m 144 #[.val (.int i0), .val (.int i1), .val (.int i2), .val (.int i3), .val (.int i4), .val (.int i5), .val (.ref rs), .val (.ref ks), .val (.int oa), .val (.int ob), .val (.int od), .val (.int oe), .val (.int km), .val (.int oq), .val (.int ok), .val (.ref b), .unset, .unset, .unset, .unset, .unset, .unset, .unset, .unset, .unset] []))
  refine own_st (fun wt wk => XS.aload X23.here hx rfl (hb hby at_144) rfl rfl wk) ?_
  show Fin1 p e below s (rm0Q Z i0 i1 i2 i3 i4 i5 vaM xM0 xM1 xM2 xM3 vcM vaJ xJ0 xJ1 xJ2 xJ3 vcJ h0 n0) room_1.cells room_1.slots (T23.setTop (mkF m 146 #[.val (.int i0), .val (.int i1), .val (.int i2), .val (.int i3), .val (.int i4), .val (.int i5), .val (.ref rs), .val (.ref ks), .val (.int oa), .val (.int ob), .val (.int od), .val (.int oe), .val (.int km), .val (.int oq), .val (.int ok), .val (.ref b), .unset, .unset, .unset, .unset, .unset, .unset, .unset, .unset, .unset] [(.ref b)]))
  obtain ⟨v24, T24, h24, L24, X24, e24, hQ24, st24⟩ := own_virtual X23 hx hZ hown (hw _ (List.mem_of_getElem? (i := 81) rfl)) (hw _ (List.mem_of_getElem? (i := 82) rfl)) (hw _ (List.mem_of_getElem? (i := 84) rfl)) (hw _ (List.mem_of_getElem? (i := 83) rfl)) (hw _ (List.mem_of_getElem? (i := 85) rfl)) (hw _ (List.mem_of_getElem? (i := 26) rfl)) (by decide) (a := b) E_b (rmCp l Z a0 hw b t0 t1 t2 k0 k1 k2 ((((0 : Int64) + own_hit (0 : Int32) oa) + own_hit (0 : Int32) ob) + own_hit (0 : Int32) od) ((((0 : Int64) + own_hit (1 : Int32) oa) + own_hit (1 : Int32) ob) + own_hit (1 : Int32) od) ((((0 : Int64) + own_hit (2 : Int32) oa) + own_hit (2 : Int32) ob) + own_hit (2 : Int32) od) ((((0 : Int64) + own_hit (3 : Int32) oa) + own_hit (3 : Int32) ob) + own_hit (3 : Int32) od) vaM xM0 xM1 xM2 xM3 vcM vaJ xJ0 xJ1 xJ2 xJ3 vcJ h23 n0 Z0 O EM EJ F0 F1 F2 V_t0 V_t1 V_t2) e23 (g := (mkF m 146 #[.val (.int i0), .val (.int i1), .val (.int i2), .val (.int i3), .val (.int i4), .val (.int i5), .val (.ref rs), .val (.ref ks), .val (.int oa), .val (.int ob), .val (.int od), .val (.int oe), .val (.int km), .val (.int oq), .val (.int ok), .val (.ref b), .unset, .unset, .unset, .unset, .unset, .unset, .unset, .unset, .unset] [(.ref b)])) rfl (by rw [hml]; rfl) (argsL := []) (rest := []) (lenOf pd_10 rfl) rfl (W := 0) (by show 2 * 0 + _ ≤ _; exact Nat.le_of_eq rfl) (hb hby at_146) (by decide) (by decide) (by decide) (by decide)
  obtain ⟨cp, u0, u1, u2, j0, j1, j2, rfl, N24q, K24, ⟨sb, s0, s1, s2⟩, ⟨ne_cp_u0, ne_cp_u1, ne_cp_u2, ne_u0_u1, ne_u0_u2, ne_u1_u2⟩, E_cp, G0, G1, G2, V_u0, V_u1, V_u2⟩ := hQ24
  have N24 := Fr.app N23 N24q
  have ne_rs_cp : rs ≠ cp := Nat.ne_of_lt (Nat.lt_of_lt_of_le V_rs.lt sb)
  have ne_ks_cp : ks ≠ cp := Nat.ne_of_lt (Nat.lt_of_lt_of_le V_ks.lt sb)
  have ne_b_cp : b ≠ cp := Nat.ne_of_lt (Nat.lt_of_lt_of_le E_b.lt sb)
  have ne_t0_cp : t0 ≠ cp := Nat.ne_of_lt (Nat.lt_of_lt_of_le V_t0.lt sb)
  have ne_t1_cp : t1 ≠ cp := Nat.ne_of_lt (Nat.lt_of_lt_of_le V_t1.lt sb)
  have ne_t2_cp : t2 ≠ cp := Nat.ne_of_lt (Nat.lt_of_lt_of_le V_t2.lt sb)
  have g_cp : n0 ≤ cp := Nat.le_trans Z0 sb
  have ne_rs_u0 : rs ≠ u0 := Nat.ne_of_lt (Nat.lt_of_lt_of_le V_rs.lt s0)
  have ne_ks_u0 : ks ≠ u0 := Nat.ne_of_lt (Nat.lt_of_lt_of_le V_ks.lt s0)
  have ne_b_u0 : b ≠ u0 := Nat.ne_of_lt (Nat.lt_of_lt_of_le E_b.lt s0)
  have ne_t0_u0 : t0 ≠ u0 := Nat.ne_of_lt (Nat.lt_of_lt_of_le V_t0.lt s0)
  have ne_t1_u0 : t1 ≠ u0 := Nat.ne_of_lt (Nat.lt_of_lt_of_le V_t1.lt s0)
  have ne_t2_u0 : t2 ≠ u0 := Nat.ne_of_lt (Nat.lt_of_lt_of_le V_t2.lt s0)
  have g_u0 : n0 ≤ u0 := Nat.le_trans Z0 s0
  have ne_rs_u1 : rs ≠ u1 := Nat.ne_of_lt (Nat.lt_of_lt_of_le V_rs.lt s1)
  have ne_ks_u1 : ks ≠ u1 := Nat.ne_of_lt (Nat.lt_of_lt_of_le V_ks.lt s1)
  have ne_b_u1 : b ≠ u1 := Nat.ne_of_lt (Nat.lt_of_lt_of_le E_b.lt s1)
  have ne_t0_u1 : t0 ≠ u1 := Nat.ne_of_lt (Nat.lt_of_lt_of_le V_t0.lt s1)
  have ne_t1_u1 : t1 ≠ u1 := Nat.ne_of_lt (Nat.lt_of_lt_of_le V_t1.lt s1)
  have ne_t2_u1 : t2 ≠ u1 := Nat.ne_of_lt (Nat.lt_of_lt_of_le V_t2.lt s1)
  have g_u1 : n0 ≤ u1 := Nat.le_trans Z0 s1
  have ne_rs_u2 : rs ≠ u2 := Nat.ne_of_lt (Nat.lt_of_lt_of_le V_rs.lt s2)
  have ne_ks_u2 : ks ≠ u2 := Nat.ne_of_lt (Nat.lt_of_lt_of_le V_ks.lt s2)
  have ne_b_u2 : b ≠ u2 := Nat.ne_of_lt (Nat.lt_of_lt_of_le E_b.lt s2)
  have ne_t0_u2 : t0 ≠ u2 := Nat.ne_of_lt (Nat.lt_of_lt_of_le V_t0.lt s2)
  have ne_t1_u2 : t1 ≠ u2 := Nat.ne_of_lt (Nat.lt_of_lt_of_le V_t1.lt s2)
  have ne_t2_u2 : t2 ≠ u2 := Nat.ne_of_lt (Nat.lt_of_lt_of_le V_t2.lt s2)
  have g_u2 : n0 ≤ u2 := Nat.le_trans Z0 s2
  have Z0 := Nat.le_trans Z0 K24.1
  have O := O.keep K24 all0
  have V_rs := V_rs.keep K24 nin0
  have V_ks := V_ks.keep K24 nin0
  have E_b := E_b.keep K24
  have F0 := F0.keep K24 nin0
  have F1 := F1.keep K24 nin0
  have F2 := F2.keep K24 nin0
  have V_t0 := V_t0.keep K24 nin0
  have V_t1 := V_t1.keep K24 nin0
  have V_t2 := V_t2.keep K24 nin0
  refine own_st st24 ?_
  show Fin1 p e below s (rm0Q Z i0 i1 i2 i3 i4 i5 vaM xM0 xM1 xM2 xM3 vcM vaJ xJ0 xJ1 xJ2 xJ3 vcJ h0 n0) room_1.cells room_1.slots (T24.setTop (mkF m 149 #[.val (.int i0), .val (.int i1), .val (.int i2), .val (.int i3), .val (.int i4), .val (.int i5), .val (.ref rs), .val (.ref ks), .val (.int oa), .val (.int ob), .val (.int od), .val (.int oe), .val (.int km), .val (.int oq), .val (.int ok), .val (.ref b), .unset, .unset, .unset, .unset, .unset, .unset, .unset, .unset, .unset] [(.ref cp)]))
  refine own_st (fun wt wk => XS.astore X24.here hx rfl (hb hby at_149) rfl rfl (l' := #[.val (.int i0), .val (.int i1), .val (.int i2), .val (.int i3), .val (.int i4), .val (.int i5), .val (.ref rs), .val (.ref ks), .val (.int oa), .val (.int ob), .val (.int od), .val (.int oe), .val (.int km), .val (.int oq), .val (.int ok), .val (.ref b), .val (.ref cp), .unset, .unset, .unset, .unset, .unset, .unset, .unset, .unset]) rfl wk) ?_
  show Fin1 p e below s (rm0Q Z i0 i1 i2 i3 i4 i5 vaM xM0 xM1 xM2 xM3 vcM vaJ xJ0 xJ1 xJ2 xJ3 vcJ h0 n0) room_1.cells room_1.slots (T24.setTop (mkF m 151 #[.val (.int i0), .val (.int i1), .val (.int i2), .val (.int i3), .val (.int i4), .val (.int i5), .val (.ref rs), .val (.ref ks), .val (.int oa), .val (.int ob), .val (.int od), .val (.int oe), .val (.int km), .val (.int oq), .val (.int ok), .val (.ref b), .val (.ref cp), .unset, .unset, .unset, .unset, .unset, .unset, .unset, .unset] []))
  refine own_st (fun wt wk => XS.aload X24.here hx rfl (hb hby at_151) rfl rfl wk) ?_
  show Fin1 p e below s (rm0Q Z i0 i1 i2 i3 i4 i5 vaM xM0 xM1 xM2 xM3 vcM vaJ xJ0 xJ1 xJ2 xJ3 vcJ h0 n0) room_1.cells room_1.slots (T24.setTop (mkF m 153 #[.val (.int i0), .val (.int i1), .val (.int i2), .val (.int i3), .val (.int i4), .val (.int i5), .val (.ref rs), .val (.ref ks), .val (.int oa), .val (.int ob), .val (.int od), .val (.int oe), .val (.int km), .val (.int oq), .val (.int ok), .val (.ref b), .val (.ref cp), .unset, .unset, .unset, .unset, .unset, .unset, .unset, .unset] [(.ref cp)]))
  refine own_st (fun wt wk => XS.ifnullNo X24.here hx rfl (hb hby at_153) rfl wk) ?_
  show Fin1 p e below s (rm0Q Z i0 i1 i2 i3 i4 i5 vaM xM0 xM1 xM2 xM3 vcM vaJ xJ0 xJ1 xJ2 xJ3 vcJ h0 n0) room_1.cells room_1.slots (T24.setTop (mkF m 156 #[.val (.int i0), .val (.int i1), .val (.int i2), .val (.int i3), .val (.int i4), .val (.int i5), .val (.ref rs), .val (.ref ks), .val (.int oa), .val (.int ob), .val (.int od), .val (.int oe), .val (.int km), .val (.int oq), .val (.int ok), .val (.ref b), .val (.ref cp), .unset, .unset, .unset, .unset, .unset, .unset, .unset, .unset] []))
  refine own_st (fun wt wk => XS.aload X24.here hx rfl (hb hby at_156) rfl rfl wk) ?_
  show Fin1 p e below s (rm0Q Z i0 i1 i2 i3 i4 i5 vaM xM0 xM1 xM2 xM3 vcM vaJ xJ0 xJ1 xJ2 xJ3 vcJ h0 n0) room_1.cells room_1.slots (T24.setTop (mkF m 158 #[.val (.int i0), .val (.int i1), .val (.int i2), .val (.int i3), .val (.int i4), .val (.int i5), .val (.ref rs), .val (.ref ks), .val (.int oa), .val (.int ob), .val (.int od), .val (.int oe), .val (.int km), .val (.int oq), .val (.int ok), .val (.ref b), .val (.ref cp), .unset, .unset, .unset, .unset, .unset, .unset, .unset, .unset] [(.ref cp)]))
  refine own_st (fun wt wk => XS.aload X24.here hx rfl (hb hby at_158) rfl rfl wk) ?_
  show Fin1 p e below s (rm0Q Z i0 i1 i2 i3 i4 i5 vaM xM0 xM1 xM2 xM3 vcM vaJ xJ0 xJ1 xJ2 xJ3 vcJ h0 n0) room_1.cells room_1.slots (T24.setTop (mkF m 160 #[.val (.int i0), .val (.int i1), .val (.int i2), .val (.int i3), .val (.int i4), .val (.int i5), .val (.ref rs), .val (.ref ks), .val (.int oa), .val (.int ob), .val (.int od), .val (.int oe), .val (.int km), .val (.int oq), .val (.int ok), .val (.ref b), .val (.ref cp), .unset, .unset, .unset, .unset, .unset, .unset, .unset, .unset] [(.ref b), (.ref cp)]))
  refine own_st (fun wt wk => Jvm.RoadKit.acmp (g := (mkF m 160 #[.val (.int i0), .val (.int i1), .val (.int i2), .val (.int i3), .val (.int i4), .val (.int i5), .val (.ref rs), .val (.ref ks), .val (.int oa), .val (.int ob), .val (.int od), .val (.int oe), .val (.int km), .val (.int oq), .val (.int ok), .val (.ref b), .val (.ref cp), .unset, .unset, .unset, .unset, .unset, .unset, .unset, .unset] [(.ref b), (.ref cp)])) X24 hx rfl rfl rfl (pc0 := 160) (pc' := 165) (same := false) rfl (hb hby at_160) rfl (decide_eq_false fun q => ne_b_cp (Value.ref.inj q).symm) (by decide) (by decide) wk) ?_
  show Fin1 p e below s (rm0Q Z i0 i1 i2 i3 i4 i5 vaM xM0 xM1 xM2 xM3 vcM vaJ xJ0 xJ1 xJ2 xJ3 vcJ h0 n0) room_1.cells room_1.slots (T24.setTop (mkF m 165 #[.val (.int i0), .val (.int i1), .val (.int i2), .val (.int i3), .val (.int i4), .val (.int i5), .val (.ref rs), .val (.ref ks), .val (.int oa), .val (.int ob), .val (.int od), .val (.int oe), .val (.int km), .val (.int oq), .val (.int ok), .val (.ref b), .val (.ref cp), .unset, .unset, .unset, .unset, .unset, .unset, .unset, .unset] []))
  refine own_st (fun wt wk => XS.iload X24.here hx rfl (hb hby at_165) rfl wk) ?_
  show Fin1 p e below s (rm0Q Z i0 i1 i2 i3 i4 i5 vaM xM0 xM1 xM2 xM3 vcM vaJ xJ0 xJ1 xJ2 xJ3 vcJ h0 n0) room_1.cells room_1.slots (T24.setTop (mkF m 167 #[.val (.int i0), .val (.int i1), .val (.int i2), .val (.int i3), .val (.int i4), .val (.int i5), .val (.ref rs), .val (.ref ks), .val (.int oa), .val (.int ob), .val (.int od), .val (.int oe), .val (.int km), .val (.int oq), .val (.int ok), .val (.ref b), .val (.ref cp), .unset, .unset, .unset, .unset, .unset, .unset, .unset, .unset] [(.int km)]))
  rcases hkm with rfl | rfl
  · show Fin1 p e below s (rm0Q Z i0 i1 i2 i3 i4 i5 vaM xM0 xM1 xM2 xM3 vcM vaJ xJ0 xJ1 xJ2 xJ3 vcJ h0 n0) room_1.cells room_1.slots (T24.setTop (mkF m 167 #[.val (.int i0), .val (.int i1), .val (.int i2), .val (.int i3), .val (.int i4), .val (.int i5), .val (.ref rs), .val (.ref ks), .val (.int oa), .val (.int ob), .val (.int od), .val (.int oe), .val (.int (0 : Int32)), .val (.int oq), .val (.int ok), .val (.ref b), .val (.ref cp), .unset, .unset, .unset, .unset, .unset, .unset, .unset, .unset] [(.int (0 : Int32))]))
    refine own_st (fun wt wk => XS.ifYes X24.here hx rfl (pc0 := 167) (pc' := 183) rfl (hb hby at_167) rfl ((if0 _ _).trans (teq (by decide)).1) (by decide) (by decide) wk) ?_
    show Fin1 p e below s (rm0Q Z i0 i1 i2 i3 i4 i5 vaM xM0 xM1 xM2 xM3 vcM vaJ xJ0 xJ1 xJ2 xJ3 vcJ h0 n0) room_1.cells room_1.slots (T24.setTop (mkF m 183 #[.val (.int i0), .val (.int i1), .val (.int i2), .val (.int i3), .val (.int i4), .val (.int i5), .val (.ref rs), .val (.ref ks), .val (.int oa), .val (.int ob), .val (.int od), .val (.int oe), .val (.int (0 : Int32)), .val (.int oq), .val (.int ok), .val (.ref b), .val (.ref cp), .unset, .unset, .unset, .unset, .unset, .unset, .unset, .unset] []))
    refine own_st (fun wt wk => XS.aload X24.here hx rfl (hb hby at_183) rfl rfl wk) ?_
    show Fin1 p e below s (rm0Q Z i0 i1 i2 i3 i4 i5 vaM xM0 xM1 xM2 xM3 vcM vaJ xJ0 xJ1 xJ2 xJ3 vcJ h0 n0) room_1.cells room_1.slots (T24.setTop (mkF m 185 #[.val (.int i0), .val (.int i1), .val (.int i2), .val (.int i3), .val (.int i4), .val (.int i5), .val (.ref rs), .val (.ref ks), .val (.int oa), .val (.int ob), .val (.int od), .val (.int oe), .val (.int (0 : Int32)), .val (.int oq), .val (.int ok), .val (.ref b), .val (.ref cp), .unset, .unset, .unset, .unset, .unset, .unset, .unset, .unset] [(.ref b)]))
    refine own_st (fun wt wk => XS.aload X24.here hx rfl (hb hby at_185) rfl rfl wk) ?_
    show Fin1 p e below s (rm0Q Z i0 i1 i2 i3 i4 i5 vaM xM0 xM1 xM2 xM3 vcM vaJ xJ0 xJ1 xJ2 xJ3 vcJ h0 n0) room_1.cells room_1.slots (T24.setTop (mkF m 187 #[.val (.int i0), .val (.int i1), .val (.int i2), .val (.int i3), .val (.int i4), .val (.int i5), .val (.ref rs), .val (.ref ks), .val (.int oa), .val (.int ob), .val (.int od), .val (.int oe), .val (.int (0 : Int32)), .val (.int oq), .val (.int ok), .val (.ref b), .val (.ref cp), .unset, .unset, .unset, .unset, .unset, .unset, .unset, .unset] [(.ref rs), (.ref b)]))
    refine own_st (fun wt wk => XS.iload X24.here hx rfl (hb hby at_187) rfl wk) ?_
    show Fin1 p e below s (rm0Q Z i0 i1 i2 i3 i4 i5 vaM xM0 xM1 xM2 xM3 vcM vaJ xJ0 xJ1 xJ2 xJ3 vcJ h0 n0) room_1.cells room_1.slots (T24.setTop (mkF m 189 #[.val (.int i0), .val (.int i1), .val (.int i2), .val (.int i3), .val (.int i4), .val (.int i5), .val (.ref rs), .val (.ref ks), .val (.int oa), .val (.int ob), .val (.int od), .val (.int oe), .val (.int (0 : Int32)), .val (.int oq), .val (.int ok), .val (.ref b), .val (.ref cp), .unset, .unset, .unset, .unset, .unset, .unset, .unset, .unset] [(.int oe), (.ref rs), (.ref b)]))
    obtain ⟨re, hv_re, Q_re, O_re⟩ := own_selJ EJ oe hoe
    refine own_st (own_ld (j := oe) (v := (.ref re)) X24 hx hZ e24 V_rs hoe hv_re (g := (mkF m 189 #[.val (.int i0), .val (.int i1), .val (.int i2), .val (.int i3), .val (.int i4), .val (.int i5), .val (.ref rs), .val (.ref ks), .val (.int oa), .val (.int ob), .val (.int od), .val (.int oe), .val (.int (0 : Int32)), .val (.int oq), .val (.int ok), .val (.ref b), .val (.ref cp), .unset, .unset, .unset, .unset, .unset, .unset, .unset, .unset] [(.int oe), (.ref rs), (.ref b)])) rfl rfl (Or.inr (Or.inr ⟨rfl, rfl⟩)) (hb hby at_189)) ?_
    show Fin1 p e below s (rm0Q Z i0 i1 i2 i3 i4 i5 vaM xM0 xM1 xM2 xM3 vcM vaJ xJ0 xJ1 xJ2 xJ3 vcJ h0 n0) room_1.cells room_1.slots (T24.setTop (mkF m 190 #[.val (.int i0), .val (.int i1), .val (.int i2), .val (.int i3), .val (.int i4), .val (.int i5), .val (.ref rs), .val (.ref ks), .val (.int oa), .val (.int ob), .val (.int od), .val (.int oe), .val (.int (0 : Int32)), .val (.int oq), .val (.int ok), .val (.ref b), .val (.ref cp), .unset, .unset, .unset, .unset, .unset, .unset, .unset, .unset] [(.ref re), (.ref b)]))
    obtain ⟨v25, T25, h25, L25, X25, e25, hQ25, st25⟩ := own_virtual X24 hx hZ hown (hw _ (List.mem_of_getElem? (i := 67) rfl)) (hw _ (List.mem_of_getElem? (i := 68) rfl)) (hw _ (List.mem_of_getElem? (i := 70) rfl)) (hw _ (List.mem_of_getElem? (i := 69) rfl)) (hw _ (List.mem_of_getElem? (i := 71) rfl)) (hw _ (List.mem_of_getElem? (i := 26) rfl)) (by decide) (a := b) E_b (rmRej l Z a0 hw b re oe t2 k2 ((((0 : Int64) + own_hit (0 : Int32) oa) + own_hit (0 : Int32) ob) + own_hit (0 : Int32) od) ((((0 : Int64) + own_hit (1 : Int32) oa) + own_hit (1 : Int32) ob) + own_hit (1 : Int32) od) ((((0 : Int64) + own_hit (2 : Int32) oa) + own_hit (2 : Int32) ob) + own_hit (2 : Int32) od) ((((0 : Int64) + own_hit (3 : Int32) oa) + own_hit (3 : Int32) ob) + own_hit (3 : Int32) od) h24 n0 Z0 g_t2 hoe F2 (Q_re.ext O.2) (O_re.ext O.2) V_t2) e24 (g := (mkF m 190 #[.val (.int i0), .val (.int i1), .val (.int i2), .val (.int i3), .val (.int i4), .val (.int i5), .val (.ref rs), .val (.ref ks), .val (.int oa), .val (.int ob), .val (.int od), .val (.int oe), .val (.int (0 : Int32)), .val (.int oq), .val (.int ok), .val (.ref b), .val (.ref cp), .unset, .unset, .unset, .unset, .unset, .unset, .unset, .unset] [(.ref re), (.ref b)])) rfl (by rw [hml]; rfl) (argsL := [(.ref re)]) (rest := []) (lenOf pd_9 rfl) rfl (W := 0) (by show 2 * 0 + _ ≤ _; exact Nat.le_of_eq rfl) (hb hby at_190) (by decide) (by decide) (by decide) (by decide)
    obtain ⟨rfl, N25q, K25, V_t2⟩ := hQ25
    have N25 := Fr.app N24 N25q
    have Z0 := Nat.le_trans Z0 K25.1
    have O := O.keep K25 (allS (P := fun x => n0 ≤ x) g_t2 all0)
    have V_rs := V_rs.keep K25 (ninS ne_rs_t2 nin0)
    have V_ks := V_ks.keep K25 (ninS ne_ks_t2 nin0)
    have E_b := E_b.keep K25
    have F0 := F0.keep K25 (ninS ne_b_t2 nin0)
    have F1 := F1.keep K25 (ninS ne_b_t2 nin0)
    have F2 := F2.keep K25 (ninS ne_b_t2 nin0)
    have V_t0 := V_t0.keep K25 (ninS ne_t0_t2 nin0)
    have V_t1 := V_t1.keep K25 (ninS ne_t1_t2 nin0)
    have E_cp := E_cp.keep K25
    have G0 := G0.keep K25 (ninS (Ne.symm ne_t2_cp) nin0)
    have G1 := G1.keep K25 (ninS (Ne.symm ne_t2_cp) nin0)
    have G2 := G2.keep K25 (ninS (Ne.symm ne_t2_cp) nin0)
    have V_u0 := V_u0.keep K25 (ninS (Ne.symm ne_t2_u0) nin0)
    have V_u1 := V_u1.keep K25 (ninS (Ne.symm ne_t2_u1) nin0)
    have V_u2 := V_u2.keep K25 (ninS (Ne.symm ne_t2_u2) nin0)
    refine own_st st25 ?_
    show Fin1 p e below s (rm0Q Z i0 i1 i2 i3 i4 i5 vaM xM0 xM1 xM2 xM3 vcM vaJ xJ0 xJ1 xJ2 xJ3 vcJ h0 n0) room_1.cells room_1.slots (T25.setTop (mkF m 193 #[.val (.int i0), .val (.int i1), .val (.int i2), .val (.int i3), .val (.int i4), .val (.int i5), .val (.ref rs), .val (.ref ks), .val (.int oa), .val (.int ob), .val (.int od), .val (.int oe), .val (.int (0 : Int32)), .val (.int oq), .val (.int ok), .val (.ref b), .val (.ref cp), .unset, .unset, .unset, .unset, .unset, .unset, .unset, .unset] []))
    refine own_st (fun wt wk => XS.iload X25.here hx rfl (hb hby at_193) rfl wk) ?_
    show Fin1 p e below s (rm0Q Z i0 i1 i2 i3 i4 i5 vaM xM0 xM1 xM2 xM3 vcM vaJ xJ0 xJ1 xJ2 xJ3 vcJ h0 n0) room_1.cells room_1.slots (T25.setTop (mkF m 195 #[.val (.int i0), .val (.int i1), .val (.int i2), .val (.int i3), .val (.int i4), .val (.int i5), .val (.ref rs), .val (.ref ks), .val (.int oa), .val (.int ob), .val (.int od), .val (.int oe), .val (.int (0 : Int32)), .val (.int oq), .val (.int ok), .val (.ref b), .val (.ref cp), .unset, .unset, .unset, .unset, .unset, .unset, .unset, .unset] [(.int oa)]))
    refine own_st (fun wt wk => XS.iload X25.here hx rfl (hb hby at_195) rfl wk) ?_
    show Fin1 p e below s (rm0Q Z i0 i1 i2 i3 i4 i5 vaM xM0 xM1 xM2 xM3 vcM vaJ xJ0 xJ1 xJ2 xJ3 vcJ h0 n0) room_1.cells room_1.slots (T25.setTop (mkF m 197 #[.val (.int i0), .val (.int i1), .val (.int i2), .val (.int i3), .val (.int i4), .val (.int i5), .val (.ref rs), .val (.ref ks), .val (.int oa), .val (.int ob), .val (.int od), .val (.int oe), .val (.int (0 : Int32)), .val (.int oq), .val (.int ok), .val (.ref b), .val (.ref cp), .unset, .unset, .unset, .unset, .unset, .unset, .unset, .unset] [(.int oq), (.int oa)]))
    obtain ⟨v26, T26, h26, L26, X26, e26, hQ26, st26⟩ := own_static X25 hx hZ hown (hw _ (List.mem_of_getElem? (i := 92) rfl)) (hw _ (List.mem_of_getElem? (i := 93) rfl)) (hw _ (List.mem_of_getElem? (i := 94) rfl)) (hw _ (List.mem_of_getElem? (i := 95) rfl)) (by decide) (rmHit l Z a0 hw oa oq h25 n0 Z0) e25 (g := (mkF m 197 #[.val (.int i0), .val (.int i1), .val (.int i2), .val (.int i3), .val (.int i4), .val (.int i5), .val (.ref rs), .val (.ref ks), .val (.int oa), .val (.int ob), .val (.int od), .val (.int oe), .val (.int (0 : Int32)), .val (.int oq), .val (.int ok), .val (.ref b), .val (.ref cp), .unset, .unset, .unset, .unset, .unset, .unset, .unset, .unset] [(.int oq), (.int oa)])) rfl (by rw [hml]; rfl) (argsL := [(.int oa), (.int oq)]) (rest := []) (lenOf pd_11 rfl) rfl (W := 0) (by show 2 * 0 + _ ≤ _; exact Nat.le_of_eq rfl) (hb hby at_197) (by decide) (by decide) (by decide) (by decide)
    obtain ⟨rfl, N26q, hh26⟩ := hQ26
    have N26 := Fr.app N25 N26q
    rw [hh26] at e26
    refine own_st st26 ?_
    show Fin1 p e below s (rm0Q Z i0 i1 i2 i3 i4 i5 vaM xM0 xM1 xM2 xM3 vcM vaJ xJ0 xJ1 xJ2 xJ3 vcJ h0 n0) room_1.cells room_1.slots (T26.setTop (mkF m 200 #[.val (.int i0), .val (.int i1), .val (.int i2), .val (.int i3), .val (.int i4), .val (.int i5), .val (.ref rs), .val (.ref ks), .val (.int oa), .val (.int ob), .val (.int od), .val (.int oe), .val (.int (0 : Int32)), .val (.int oq), .val (.int ok), .val (.ref b), .val (.ref cp), .unset, .unset, .unset, .unset, .unset, .unset, .unset, .unset] [(.long (own_hit oq oa))]))
    refine own_st (fun wt wk => XS.iload X26.here hx rfl (hb hby at_200) rfl wk) ?_
    show Fin1 p e below s (rm0Q Z i0 i1 i2 i3 i4 i5 vaM xM0 xM1 xM2 xM3 vcM vaJ xJ0 xJ1 xJ2 xJ3 vcJ h0 n0) room_1.cells room_1.slots (T26.setTop (mkF m 202 #[.val (.int i0), .val (.int i1), .val (.int i2), .val (.int i3), .val (.int i4), .val (.int i5), .val (.ref rs), .val (.ref ks), .val (.int oa), .val (.int ob), .val (.int od), .val (.int oe), .val (.int (0 : Int32)), .val (.int oq), .val (.int ok), .val (.ref b), .val (.ref cp), .unset, .unset, .unset, .unset, .unset, .unset, .unset, .unset] [(.int ob), (.long (own_hit oq oa))]))
    refine own_st (fun wt wk => XS.iload X26.here hx rfl (hb hby at_202) rfl wk) ?_
    show Fin1 p e below s (rm0Q Z i0 i1 i2 i3 i4 i5 vaM xM0 xM1 xM2 xM3 vcM vaJ xJ0 xJ1 xJ2 xJ3 vcJ h0 n0) room_1.cells room_1.slots (T26.setTop (mkF m 204 #[.val (.int i0), .val (.int i1), .val (.int i2), .val (.int i3), .val (.int i4), .val (.int i5), .val (.ref rs), .val (.ref ks), .val (.int oa), .val (.int ob), .val (.int od), .val (.int oe), .val (.int (0 : Int32)), .val (.int oq), .val (.int ok), .val (.ref b), .val (.ref cp), .unset, .unset, .unset, .unset, .unset, .unset, .unset, .unset] [(.int oq), (.int ob), (.long (own_hit oq oa))]))
    obtain ⟨v27, T27, h27, L27, X27, e27, hQ27, st27⟩ := own_static X26 hx hZ hown (hw _ (List.mem_of_getElem? (i := 92) rfl)) (hw _ (List.mem_of_getElem? (i := 93) rfl)) (hw _ (List.mem_of_getElem? (i := 94) rfl)) (hw _ (List.mem_of_getElem? (i := 95) rfl)) (by decide) (rmHit l Z a0 hw ob oq h25 n0 Z0) e26 (g := (mkF m 204 #[.val (.int i0), .val (.int i1), .val (.int i2), .val (.int i3), .val (.int i4), .val (.int i5), .val (.ref rs), .val (.ref ks), .val (.int oa), .val (.int ob), .val (.int od), .val (.int oe), .val (.int (0 : Int32)), .val (.int oq), .val (.int ok), .val (.ref b), .val (.ref cp), .unset, .unset, .unset, .unset, .unset, .unset, .unset, .unset] [(.int oq), (.int ob), (.long (own_hit oq oa))])) rfl (by rw [hml]; rfl) (argsL := [(.int ob), (.int oq)]) (rest := [(.long (own_hit oq oa))]) (lenOf pd_11 rfl) rfl (W := 2) (by show 2 * 0 + _ ≤ _; exact Nat.le_of_eq rfl) (hb hby at_204) (by decide) (by decide) (by decide) (by decide)
    obtain ⟨rfl, N27q, hh27⟩ := hQ27
    have N27 := Fr.app N26 N27q
    rw [hh27] at e27
    refine own_st st27 ?_
    show Fin1 p e below s (rm0Q Z i0 i1 i2 i3 i4 i5 vaM xM0 xM1 xM2 xM3 vcM vaJ xJ0 xJ1 xJ2 xJ3 vcJ h0 n0) room_1.cells room_1.slots (T27.setTop (mkF m 207 #[.val (.int i0), .val (.int i1), .val (.int i2), .val (.int i3), .val (.int i4), .val (.int i5), .val (.ref rs), .val (.ref ks), .val (.int oa), .val (.int ob), .val (.int od), .val (.int oe), .val (.int (0 : Int32)), .val (.int oq), .val (.int ok), .val (.ref b), .val (.ref cp), .unset, .unset, .unset, .unset, .unset, .unset, .unset, .unset] [(.long (own_hit oq ob)), (.long (own_hit oq oa))]))
    refine own_st (fun wt wk => XS.ladd X27.here hx rfl (hb hby at_207) rfl wk) ?_
    show Fin1 p e below s (rm0Q Z i0 i1 i2 i3 i4 i5 vaM xM0 xM1 xM2 xM3 vcM vaJ xJ0 xJ1 xJ2 xJ3 vcJ h0 n0) room_1.cells room_1.slots (T27.setTop (mkF m 208 #[.val (.int i0), .val (.int i1), .val (.int i2), .val (.int i3), .val (.int i4), .val (.int i5), .val (.ref rs), .val (.ref ks), .val (.int oa), .val (.int ob), .val (.int od), .val (.int oe), .val (.int (0 : Int32)), .val (.int oq), .val (.int ok), .val (.ref b), .val (.ref cp), .unset, .unset, .unset, .unset, .unset, .unset, .unset, .unset] [(.long ((own_hit oq oa) + (own_hit oq ob)))]))
    refine own_st (fun wt wk => XS.iload X27.here hx rfl (hb hby at_208) rfl wk) ?_
    show Fin1 p e below s (rm0Q Z i0 i1 i2 i3 i4 i5 vaM xM0 xM1 xM2 xM3 vcM vaJ xJ0 xJ1 xJ2 xJ3 vcJ h0 n0) room_1.cells room_1.slots (T27.setTop (mkF m 210 #[.val (.int i0), .val (.int i1), .val (.int i2), .val (.int i3), .val (.int i4), .val (.int i5), .val (.ref rs), .val (.ref ks), .val (.int oa), .val (.int ob), .val (.int od), .val (.int oe), .val (.int (0 : Int32)), .val (.int oq), .val (.int ok), .val (.ref b), .val (.ref cp), .unset, .unset, .unset, .unset, .unset, .unset, .unset, .unset] [(.int od), (.long ((own_hit oq oa) + (own_hit oq ob)))]))
    refine own_st (fun wt wk => XS.iload X27.here hx rfl (hb hby at_210) rfl wk) ?_
    show Fin1 p e below s (rm0Q Z i0 i1 i2 i3 i4 i5 vaM xM0 xM1 xM2 xM3 vcM vaJ xJ0 xJ1 xJ2 xJ3 vcJ h0 n0) room_1.cells room_1.slots (T27.setTop (mkF m 212 #[.val (.int i0), .val (.int i1), .val (.int i2), .val (.int i3), .val (.int i4), .val (.int i5), .val (.ref rs), .val (.ref ks), .val (.int oa), .val (.int ob), .val (.int od), .val (.int oe), .val (.int (0 : Int32)), .val (.int oq), .val (.int ok), .val (.ref b), .val (.ref cp), .unset, .unset, .unset, .unset, .unset, .unset, .unset, .unset] [(.int oq), (.int od), (.long ((own_hit oq oa) + (own_hit oq ob)))]))
    obtain ⟨v28, T28, h28, L28, X28, e28, hQ28, st28⟩ := own_static X27 hx hZ hown (hw _ (List.mem_of_getElem? (i := 92) rfl)) (hw _ (List.mem_of_getElem? (i := 93) rfl)) (hw _ (List.mem_of_getElem? (i := 94) rfl)) (hw _ (List.mem_of_getElem? (i := 95) rfl)) (by decide) (rmHit l Z a0 hw od oq h25 n0 Z0) e27 (g := (mkF m 212 #[.val (.int i0), .val (.int i1), .val (.int i2), .val (.int i3), .val (.int i4), .val (.int i5), .val (.ref rs), .val (.ref ks), .val (.int oa), .val (.int ob), .val (.int od), .val (.int oe), .val (.int (0 : Int32)), .val (.int oq), .val (.int ok), .val (.ref b), .val (.ref cp), .unset, .unset, .unset, .unset, .unset, .unset, .unset, .unset] [(.int oq), (.int od), (.long ((own_hit oq oa) + (own_hit oq ob)))])) rfl (by rw [hml]; rfl) (argsL := [(.int od), (.int oq)]) (rest := [(.long ((own_hit oq oa) + (own_hit oq ob)))]) (lenOf pd_11 rfl) rfl (W := 2) (by show 2 * 0 + _ ≤ _; exact Nat.le_of_eq rfl) (hb hby at_212) (by decide) (by decide) (by decide) (by decide)
    obtain ⟨rfl, N28q, hh28⟩ := hQ28
    have N28 := Fr.app N27 N28q
    rw [hh28] at e28
    refine own_st st28 ?_
    show Fin1 p e below s (rm0Q Z i0 i1 i2 i3 i4 i5 vaM xM0 xM1 xM2 xM3 vcM vaJ xJ0 xJ1 xJ2 xJ3 vcJ h0 n0) room_1.cells room_1.slots (T28.setTop (mkF m 215 #[.val (.int i0), .val (.int i1), .val (.int i2), .val (.int i3), .val (.int i4), .val (.int i5), .val (.ref rs), .val (.ref ks), .val (.int oa), .val (.int ob), .val (.int od), .val (.int oe), .val (.int (0 : Int32)), .val (.int oq), .val (.int ok), .val (.ref b), .val (.ref cp), .unset, .unset, .unset, .unset, .unset, .unset, .unset, .unset] [(.long (own_hit oq od)), (.long ((own_hit oq oa) + (own_hit oq ob)))]))
    refine own_st (fun wt wk => XS.ladd X28.here hx rfl (hb hby at_215) rfl wk) ?_
    show Fin1 p e below s (rm0Q Z i0 i1 i2 i3 i4 i5 vaM xM0 xM1 xM2 xM3 vcM vaJ xJ0 xJ1 xJ2 xJ3 vcJ h0 n0) room_1.cells room_1.slots (T28.setTop (mkF m 216 #[.val (.int i0), .val (.int i1), .val (.int i2), .val (.int i3), .val (.int i4), .val (.int i5), .val (.ref rs), .val (.ref ks), .val (.int oa), .val (.int ob), .val (.int od), .val (.int oe), .val (.int (0 : Int32)), .val (.int oq), .val (.int ok), .val (.ref b), .val (.ref cp), .unset, .unset, .unset, .unset, .unset, .unset, .unset, .unset] [(.long (((own_hit oq oa) + (own_hit oq ob)) + (own_hit oq od)))]))
    refine own_st (fun wt wk => XS.lstore X28.here hx rfl (hb hby at_216) rfl (l' := #[.val (.int i0), .val (.int i1), .val (.int i2), .val (.int i3), .val (.int i4), .val (.int i5), .val (.ref rs), .val (.ref ks), .val (.int oa), .val (.int ob), .val (.int od), .val (.int oe), .val (.int (0 : Int32)), .val (.int oq), .val (.int ok), .val (.ref b), .val (.ref cp), .val (.long (((own_hit oq oa) + (own_hit oq ob)) + (own_hit oq od))), .second, .unset, .unset, .unset, .unset, .unset, .unset]) rfl wk) ?_
    show Fin1 p e below s (rm0Q Z i0 i1 i2 i3 i4 i5 vaM xM0 xM1 xM2 xM3 vcM vaJ xJ0 xJ1 xJ2 xJ3 vcJ h0 n0) room_1.cells room_1.slots (T28.setTop (mkF m 218 #[.val (.int i0), .val (.int i1), .val (.int i2), .val (.int i3), .val (.int i4), .val (.int i5), .val (.ref rs), .val (.ref ks), .val (.int oa), .val (.int ob), .val (.int od), .val (.int oe), .val (.int (0 : Int32)), .val (.int oq), .val (.int ok), .val (.ref b), .val (.ref cp), .val (.long (((own_hit oq oa) + (own_hit oq ob)) + (own_hit oq od))), .second, .unset, .unset, .unset, .unset, .unset, .unset] []))
    refine own_st (fun wt wk => XS.iload X28.here hx rfl (hb hby at_218) rfl wk) ?_
    show Fin1 p e below s (rm0Q Z i0 i1 i2 i3 i4 i5 vaM xM0 xM1 xM2 xM3 vcM vaJ xJ0 xJ1 xJ2 xJ3 vcJ h0 n0) room_1.cells room_1.slots (T28.setTop (mkF m 220 #[.val (.int i0), .val (.int i1), .val (.int i2), .val (.int i3), .val (.int i4), .val (.int i5), .val (.ref rs), .val (.ref ks), .val (.int oa), .val (.int ob), .val (.int od), .val (.int oe), .val (.int (0 : Int32)), .val (.int oq), .val (.int ok), .val (.ref b), .val (.ref cp), .val (.long (((own_hit oq oa) + (own_hit oq ob)) + (own_hit oq od))), .second, .unset, .unset, .unset, .unset, .unset, .unset] [(.int oe)]))
    refine own_st (fun wt wk => XS.iload X28.here hx rfl (hb hby at_220) rfl wk) ?_
    show Fin1 p e below s (rm0Q Z i0 i1 i2 i3 i4 i5 vaM xM0 xM1 xM2 xM3 vcM vaJ xJ0 xJ1 xJ2 xJ3 vcJ h0 n0) room_1.cells room_1.slots (T28.setTop (mkF m 222 #[.val (.int i0), .val (.int i1), .val (.int i2), .val (.int i3), .val (.int i4), .val (.int i5), .val (.ref rs), .val (.ref ks), .val (.int oa), .val (.int ob), .val (.int od), .val (.int oe), .val (.int (0 : Int32)), .val (.int oq), .val (.int ok), .val (.ref b), .val (.ref cp), .val (.long (((own_hit oq oa) + (own_hit oq ob)) + (own_hit oq od))), .second, .unset, .unset, .unset, .unset, .unset, .unset] [(.int oq), (.int oe)]))
    obtain ⟨v29, T29, h29, L29, X29, e29, hQ29, st29⟩ := own_static X28 hx hZ hown (hw _ (List.mem_of_getElem? (i := 92) rfl)) (hw _ (List.mem_of_getElem? (i := 93) rfl)) (hw _ (List.mem_of_getElem? (i := 94) rfl)) (hw _ (List.mem_of_getElem? (i := 95) rfl)) (by decide) (rmHit l Z a0 hw oe oq h25 n0 Z0) e28 (g := (mkF m 222 #[.val (.int i0), .val (.int i1), .val (.int i2), .val (.int i3), .val (.int i4), .val (.int i5), .val (.ref rs), .val (.ref ks), .val (.int oa), .val (.int ob), .val (.int od), .val (.int oe), .val (.int (0 : Int32)), .val (.int oq), .val (.int ok), .val (.ref b), .val (.ref cp), .val (.long (((own_hit oq oa) + (own_hit oq ob)) + (own_hit oq od))), .second, .unset, .unset, .unset, .unset, .unset, .unset] [(.int oq), (.int oe)])) rfl (by rw [hml]; rfl) (argsL := [(.int oe), (.int oq)]) (rest := []) (lenOf pd_11 rfl) rfl (W := 0) (by show 2 * 0 + _ ≤ _; exact Nat.le_of_eq rfl) (hb hby at_222) (by decide) (by decide) (by decide) (by decide)
    obtain ⟨rfl, N29q, hh29⟩ := hQ29
    have N29 := Fr.app N28 N29q
    rw [hh29] at e29
    refine own_st st29 ?_
    show Fin1 p e below s (rm0Q Z i0 i1 i2 i3 i4 i5 vaM xM0 xM1 xM2 xM3 vcM vaJ xJ0 xJ1 xJ2 xJ3 vcJ h0 n0) room_1.cells room_1.slots (T29.setTop (mkF m 225 #[.val (.int i0), .val (.int i1), .val (.int i2), .val (.int i3), .val (.int i4), .val (.int i5), .val (.ref rs), .val (.ref ks), .val (.int oa), .val (.int ob), .val (.int od), .val (.int oe), .val (.int (0 : Int32)), .val (.int oq), .val (.int ok), .val (.ref b), .val (.ref cp), .val (.long (((own_hit oq oa) + (own_hit oq ob)) + (own_hit oq od))), .second, .unset, .unset, .unset, .unset, .unset, .unset] [(.long (own_hit oq oe))]))
    refine own_st (fun wt wk => XS.lstore X29.here hx rfl (hb hby at_225) rfl (l' := #[.val (.int i0), .val (.int i1), .val (.int i2), .val (.int i3), .val (.int i4), .val (.int i5), .val (.ref rs), .val (.ref ks), .val (.int oa), .val (.int ob), .val (.int od), .val (.int oe), .val (.int (0 : Int32)), .val (.int oq), .val (.int ok), .val (.ref b), .val (.ref cp), .val (.long (((own_hit oq oa) + (own_hit oq ob)) + (own_hit oq od))), .second, .val (.long (own_hit oq oe)), .second, .unset, .unset, .unset, .unset]) rfl wk) ?_
    show Fin1 p e below s (rm0Q Z i0 i1 i2 i3 i4 i5 vaM xM0 xM1 xM2 xM3 vcM vaJ xJ0 xJ1 xJ2 xJ3 vcJ h0 n0) room_1.cells room_1.slots (T29.setTop (mkF m 227 #[.val (.int i0), .val (.int i1), .val (.int i2), .val (.int i3), .val (.int i4), .val (.int i5), .val (.ref rs), .val (.ref ks), .val (.int oa), .val (.int ob), .val (.int od), .val (.int oe), .val (.int (0 : Int32)), .val (.int oq), .val (.int ok), .val (.ref b), .val (.ref cp), .val (.long (((own_hit oq oa) + (own_hit oq ob)) + (own_hit oq od))), .second, .val (.long (own_hit oq oe)), .second, .unset, .unset, .unset, .unset] []))
    refine own_st (fun wt wk => XS.iload X29.here hx rfl (hb hby at_227) rfl wk) ?_
    show Fin1 p e below s (rm0Q Z i0 i1 i2 i3 i4 i5 vaM xM0 xM1 xM2 xM3 vcM vaJ xJ0 xJ1 xJ2 xJ3 vcJ h0 n0) room_1.cells room_1.slots (T29.setTop (mkF m 229 #[.val (.int i0), .val (.int i1), .val (.int i2), .val (.int i3), .val (.int i4), .val (.int i5), .val (.ref rs), .val (.ref ks), .val (.int oa), .val (.int ob), .val (.int od), .val (.int oe), .val (.int (0 : Int32)), .val (.int oq), .val (.int ok), .val (.ref b), .val (.ref cp), .val (.long (((own_hit oq oa) + (own_hit oq ob)) + (own_hit oq od))), .second, .val (.long (own_hit oq oe)), .second, .unset, .unset, .unset, .unset] [(.int (0 : Int32))]))
    refine own_st (fun wt wk => XS.ifYes X29.here hx rfl (pc0 := 229) (pc' := 240) rfl (hb hby at_229) rfl ((if0 _ _).trans (teq (by decide)).1) (by decide) (by decide) wk) ?_
    show Fin1 p e below s (rm0Q Z i0 i1 i2 i3 i4 i5 vaM xM0 xM1 xM2 xM3 vcM vaJ xJ0 xJ1 xJ2 xJ3 vcJ h0 n0) room_1.cells room_1.slots (T29.setTop (mkF m 240 #[.val (.int i0), .val (.int i1), .val (.int i2), .val (.int i3), .val (.int i4), .val (.int i5), .val (.ref rs), .val (.ref ks), .val (.int oa), .val (.int ob), .val (.int od), .val (.int oe), .val (.int (0 : Int32)), .val (.int oq), .val (.int ok), .val (.ref b), .val (.ref cp), .val (.long (((own_hit oq oa) + (own_hit oq ob)) + (own_hit oq od))), .second, .val (.long (own_hit oq oe)), .second, .unset, .unset, .unset, .unset] []))
    refine own_st (fun wt wk => XS.lload X29.here hx rfl (hb hby at_240) rfl wk) ?_
    show Fin1 p e below s (rm0Q Z i0 i1 i2 i3 i4 i5 vaM xM0 xM1 xM2 xM3 vcM vaJ xJ0 xJ1 xJ2 xJ3 vcJ h0 n0) room_1.cells room_1.slots (T29.setTop (mkF m 242 #[.val (.int i0), .val (.int i1), .val (.int i2), .val (.int i3), .val (.int i4), .val (.int i5), .val (.ref rs), .val (.ref ks), .val (.int oa), .val (.int ob), .val (.int od), .val (.int oe), .val (.int (0 : Int32)), .val (.int oq), .val (.int ok), .val (.ref b), .val (.ref cp), .val (.long (((own_hit oq oa) + (own_hit oq ob)) + (own_hit oq od))), .second, .val (.long (own_hit oq oe)), .second, .unset, .unset, .unset, .unset] [(.long (((own_hit oq oa) + (own_hit oq ob)) + (own_hit oq od)))]))
    refine own_st (fun wt wk => XS.lstore X29.here hx rfl (hb hby at_242) rfl (l' := #[.val (.int i0), .val (.int i1), .val (.int i2), .val (.int i3), .val (.int i4), .val (.int i5), .val (.ref rs), .val (.ref ks), .val (.int oa), .val (.int ob), .val (.int od), .val (.int oe), .val (.int (0 : Int32)), .val (.int oq), .val (.int ok), .val (.ref b), .val (.ref cp), .val (.long (((own_hit oq oa) + (own_hit oq ob)) + (own_hit oq od))), .second, .val (.long (own_hit oq oe)), .second, .val (.long (((own_hit oq oa) + (own_hit oq ob)) + (own_hit oq od))), .second, .unset, .unset]) rfl wk) ?_
    show Fin1 p e below s (rm0Q Z i0 i1 i2 i3 i4 i5 vaM xM0 xM1 xM2 xM3 vcM vaJ xJ0 xJ1 xJ2 xJ3 vcJ h0 n0) room_1.cells room_1.slots (T29.setTop (mkF m 244 #[.val (.int i0), .val (.int i1), .val (.int i2), .val (.int i3), .val (.int i4), .val (.int i5), .val (.ref rs), .val (.ref ks), .val (.int oa), .val (.int ob), .val (.int od), .val (.int oe), .val (.int (0 : Int32)), .val (.int oq), .val (.int ok), .val (.ref b), .val (.ref cp), .val (.long (((own_hit oq oa) + (own_hit oq ob)) + (own_hit oq od))), .second, .val (.long (own_hit oq oe)), .second, .val (.long (((own_hit oq oa) + (own_hit oq ob)) + (own_hit oq od))), .second, .unset, .unset] []))
    refine own_st (fun wt wk => XS.iload X29.here hx rfl (hb hby at_244) rfl wk) ?_
    show Fin1 p e below s (rm0Q Z i0 i1 i2 i3 i4 i5 vaM xM0 xM1 xM2 xM3 vcM vaJ xJ0 xJ1 xJ2 xJ3 vcJ h0 n0) room_1.cells room_1.slots (T29.setTop (mkF m 246 #[.val (.int i0), .val (.int i1), .val (.int i2), .val (.int i3), .val (.int i4), .val (.int i5), .val (.ref rs), .val (.ref ks), .val (.int oa), .val (.int ob), .val (.int od), .val (.int oe), .val (.int (0 : Int32)), .val (.int oq), .val (.int ok), .val (.ref b), .val (.ref cp), .val (.long (((own_hit oq oa) + (own_hit oq ob)) + (own_hit oq od))), .second, .val (.long (own_hit oq oe)), .second, .val (.long (((own_hit oq oa) + (own_hit oq ob)) + (own_hit oq od))), .second, .unset, .unset] [(.int (0 : Int32))]))
    refine own_st (fun wt wk => XS.ifYes X29.here hx rfl (pc0 := 246) (pc' := 254) rfl (hb hby at_246) rfl ((if0 _ _).trans (teq (by decide)).1) (by decide) (by decide) wk) ?_
    show Fin1 p e below s (rm0Q Z i0 i1 i2 i3 i4 i5 vaM xM0 xM1 xM2 xM3 vcM vaJ xJ0 xJ1 xJ2 xJ3 vcJ h0 n0) room_1.cells room_1.slots (T29.setTop (mkF m 254 #[.val (.int i0), .val (.int i1), .val (.int i2), .val (.int i3), .val (.int i4), .val (.int i5), .val (.ref rs), .val (.ref ks), .val (.int oa), .val (.int ob), .val (.int od), .val (.int oe), .val (.int (0 : Int32)), .val (.int oq), .val (.int ok), .val (.ref b), .val (.ref cp), .val (.long (((own_hit oq oa) + (own_hit oq ob)) + (own_hit oq od))), .second, .val (.long (own_hit oq oe)), .second, .val (.long (((own_hit oq oa) + (own_hit oq ob)) + (own_hit oq od))), .second, .unset, .unset] []))
    refine own_st (fun wt wk => XS.lload X29.here hx rfl (hb hby at_254) rfl wk) ?_
    show Fin1 p e below s (rm0Q Z i0 i1 i2 i3 i4 i5 vaM xM0 xM1 xM2 xM3 vcM vaJ xJ0 xJ1 xJ2 xJ3 vcJ h0 n0) room_1.cells room_1.slots (T29.setTop (mkF m 256 #[.val (.int i0), .val (.int i1), .val (.int i2), .val (.int i3), .val (.int i4), .val (.int i5), .val (.ref rs), .val (.ref ks), .val (.int oa), .val (.int ob), .val (.int od), .val (.int oe), .val (.int (0 : Int32)), .val (.int oq), .val (.int ok), .val (.ref b), .val (.ref cp), .val (.long (((own_hit oq oa) + (own_hit oq ob)) + (own_hit oq od))), .second, .val (.long (own_hit oq oe)), .second, .val (.long (((own_hit oq oa) + (own_hit oq ob)) + (own_hit oq od))), .second, .unset, .unset] [(.long (((own_hit oq oa) + (own_hit oq ob)) + (own_hit oq od)))]))
    refine own_st (fun wt wk => XS.lload X29.here hx rfl (hb hby at_256) rfl wk) ?_
    show Fin1 p e below s (rm0Q Z i0 i1 i2 i3 i4 i5 vaM xM0 xM1 xM2 xM3 vcM vaJ xJ0 xJ1 xJ2 xJ3 vcJ h0 n0) room_1.cells room_1.slots (T29.setTop (mkF m 258 #[.val (.int i0), .val (.int i1), .val (.int i2), .val (.int i3), .val (.int i4), .val (.int i5), .val (.ref rs), .val (.ref ks), .val (.int oa), .val (.int ob), .val (.int od), .val (.int oe), .val (.int (0 : Int32)), .val (.int oq), .val (.int ok), .val (.ref b), .val (.ref cp), .val (.long (((own_hit oq oa) + (own_hit oq ob)) + (own_hit oq od))), .second, .val (.long (own_hit oq oe)), .second, .val (.long (((own_hit oq oa) + (own_hit oq ob)) + (own_hit oq od))), .second, .unset, .unset] [(.long (own_hit oq oe)), (.long (((own_hit oq oa) + (own_hit oq ob)) + (own_hit oq od)))]))
    refine own_st (fun wt wk => XS.ladd X29.here hx rfl (hb hby at_258) rfl wk) ?_
    show Fin1 p e below s (rm0Q Z i0 i1 i2 i3 i4 i5 vaM xM0 xM1 xM2 xM3 vcM vaJ xJ0 xJ1 xJ2 xJ3 vcJ h0 n0) room_1.cells room_1.slots (T29.setTop (mkF m 259 #[.val (.int i0), .val (.int i1), .val (.int i2), .val (.int i3), .val (.int i4), .val (.int i5), .val (.ref rs), .val (.ref ks), .val (.int oa), .val (.int ob), .val (.int od), .val (.int oe), .val (.int (0 : Int32)), .val (.int oq), .val (.int ok), .val (.ref b), .val (.ref cp), .val (.long (((own_hit oq oa) + (own_hit oq ob)) + (own_hit oq od))), .second, .val (.long (own_hit oq oe)), .second, .val (.long (((own_hit oq oa) + (own_hit oq ob)) + (own_hit oq od))), .second, .unset, .unset] [(.long ((((own_hit oq oa) + (own_hit oq ob)) + (own_hit oq od)) + (own_hit oq oe)))]))
    refine own_st (fun wt wk => XS.lstore X29.here hx rfl (hb hby at_259) rfl (l' := #[.val (.int i0), .val (.int i1), .val (.int i2), .val (.int i3), .val (.int i4), .val (.int i5), .val (.ref rs), .val (.ref ks), .val (.int oa), .val (.int ob), .val (.int od), .val (.int oe), .val (.int (0 : Int32)), .val (.int oq), .val (.int ok), .val (.ref b), .val (.ref cp), .val (.long (((own_hit oq oa) + (own_hit oq ob)) + (own_hit oq od))), .second, .val (.long (own_hit oq oe)), .second, .val (.long (((own_hit oq oa) + (own_hit oq ob)) + (own_hit oq od))), .second, .val (.long ((((own_hit oq oa) + (own_hit oq ob)) + (own_hit oq od)) + (own_hit oq oe))), .second]) rfl wk) ?_
    show Fin1 p e below s (rm0Q Z i0 i1 i2 i3 i4 i5 vaM xM0 xM1 xM2 xM3 vcM vaJ xJ0 xJ1 xJ2 xJ3 vcJ h0 n0) room_1.cells room_1.slots (T29.setTop (mkF m 261 #[.val (.int i0), .val (.int i1), .val (.int i2), .val (.int i3), .val (.int i4), .val (.int i5), .val (.ref rs), .val (.ref ks), .val (.int oa), .val (.int ob), .val (.int od), .val (.int oe), .val (.int (0 : Int32)), .val (.int oq), .val (.int ok), .val (.ref b), .val (.ref cp), .val (.long (((own_hit oq oa) + (own_hit oq ob)) + (own_hit oq od))), .second, .val (.long (own_hit oq oe)), .second, .val (.long (((own_hit oq oa) + (own_hit oq ob)) + (own_hit oq od))), .second, .val (.long ((((own_hit oq oa) + (own_hit oq ob)) + (own_hit oq od)) + (own_hit oq oe))), .second] []))
    refine own_st (fun wt wk => XS.aload X29.here hx rfl (hb hby at_261) rfl rfl wk) ?_
    show Fin1 p e below s (rm0Q Z i0 i1 i2 i3 i4 i5 vaM xM0 xM1 xM2 xM3 vcM vaJ xJ0 xJ1 xJ2 xJ3 vcJ h0 n0) room_1.cells room_1.slots (T29.setTop (mkF m 263 #[.val (.int i0), .val (.int i1), .val (.int i2), .val (.int i3), .val (.int i4), .val (.int i5), .val (.ref rs), .val (.ref ks), .val (.int oa), .val (.int ob), .val (.int od), .val (.int oe), .val (.int (0 : Int32)), .val (.int oq), .val (.int ok), .val (.ref b), .val (.ref cp), .val (.long (((own_hit oq oa) + (own_hit oq ob)) + (own_hit oq od))), .second, .val (.long (own_hit oq oe)), .second, .val (.long (((own_hit oq oa) + (own_hit oq ob)) + (own_hit oq od))), .second, .val (.long ((((own_hit oq oa) + (own_hit oq ob)) + (own_hit oq od)) + (own_hit oq oe))), .second] [(.ref cp)]))
    refine own_st (fun wt wk => XS.aload X29.here hx rfl (hb hby at_263) rfl rfl wk) ?_
    show Fin1 p e below s (rm0Q Z i0 i1 i2 i3 i4 i5 vaM xM0 xM1 xM2 xM3 vcM vaJ xJ0 xJ1 xJ2 xJ3 vcJ h0 n0) room_1.cells room_1.slots (T29.setTop (mkF m 265 #[.val (.int i0), .val (.int i1), .val (.int i2), .val (.int i3), .val (.int i4), .val (.int i5), .val (.ref rs), .val (.ref ks), .val (.int oa), .val (.int ob), .val (.int od), .val (.int oe), .val (.int (0 : Int32)), .val (.int oq), .val (.int ok), .val (.ref b), .val (.ref cp), .val (.long (((own_hit oq oa) + (own_hit oq ob)) + (own_hit oq od))), .second, .val (.long (own_hit oq oe)), .second, .val (.long (((own_hit oq oa) + (own_hit oq ob)) + (own_hit oq od))), .second, .val (.long ((((own_hit oq oa) + (own_hit oq ob)) + (own_hit oq od)) + (own_hit oq oe))), .second] [(.ref rs), (.ref cp)]))
    refine own_st (fun wt wk => XS.iload X29.here hx rfl (hb hby at_265) rfl wk) ?_
    show Fin1 p e below s (rm0Q Z i0 i1 i2 i3 i4 i5 vaM xM0 xM1 xM2 xM3 vcM vaJ xJ0 xJ1 xJ2 xJ3 vcJ h0 n0) room_1.cells room_1.slots (T29.setTop (mkF m 267 #[.val (.int i0), .val (.int i1), .val (.int i2), .val (.int i3), .val (.int i4), .val (.int i5), .val (.ref rs), .val (.ref ks), .val (.int oa), .val (.int ob), .val (.int od), .val (.int oe), .val (.int (0 : Int32)), .val (.int oq), .val (.int ok), .val (.ref b), .val (.ref cp), .val (.long (((own_hit oq oa) + (own_hit oq ob)) + (own_hit oq od))), .second, .val (.long (own_hit oq oe)), .second, .val (.long (((own_hit oq oa) + (own_hit oq ob)) + (own_hit oq od))), .second, .val (.long ((((own_hit oq oa) + (own_hit oq ob)) + (own_hit oq od)) + (own_hit oq oe))), .second] [(.int oq), (.ref rs), (.ref cp)]))
    obtain ⟨rqu2, hv_rqu2, Q_rqu2, O_rqu2⟩ := own_selJ EJ oq hoq
    refine own_st (own_ld (j := oq) (v := (.ref rqu2)) X29 hx hZ e29 V_rs hoq hv_rqu2 (g := (mkF m 267 #[.val (.int i0), .val (.int i1), .val (.int i2), .val (.int i3), .val (.int i4), .val (.int i5), .val (.ref rs), .val (.ref ks), .val (.int oa), .val (.int ob), .val (.int od), .val (.int oe), .val (.int (0 : Int32)), .val (.int oq), .val (.int ok), .val (.ref b), .val (.ref cp), .val (.long (((own_hit oq oa) + (own_hit oq ob)) + (own_hit oq od))), .second, .val (.long (own_hit oq oe)), .second, .val (.long (((own_hit oq oa) + (own_hit oq ob)) + (own_hit oq od))), .second, .val (.long ((((own_hit oq oa) + (own_hit oq ob)) + (own_hit oq od)) + (own_hit oq oe))), .second] [(.int oq), (.ref rs), (.ref cp)])) rfl rfl (Or.inr (Or.inr ⟨rfl, rfl⟩)) (hb hby at_267)) ?_
    show Fin1 p e below s (rm0Q Z i0 i1 i2 i3 i4 i5 vaM xM0 xM1 xM2 xM3 vcM vaJ xJ0 xJ1 xJ2 xJ3 vcJ h0 n0) room_1.cells room_1.slots (T29.setTop (mkF m 268 #[.val (.int i0), .val (.int i1), .val (.int i2), .val (.int i3), .val (.int i4), .val (.int i5), .val (.ref rs), .val (.ref ks), .val (.int oa), .val (.int ob), .val (.int od), .val (.int oe), .val (.int (0 : Int32)), .val (.int oq), .val (.int ok), .val (.ref b), .val (.ref cp), .val (.long (((own_hit oq oa) + (own_hit oq ob)) + (own_hit oq od))), .second, .val (.long (own_hit oq oe)), .second, .val (.long (((own_hit oq oa) + (own_hit oq ob)) + (own_hit oq od))), .second, .val (.long ((((own_hit oq oa) + (own_hit oq ob)) + (own_hit oq od)) + (own_hit oq oe))), .second] [(.ref rqu2), (.ref cp)]))
    obtain ⟨v30, T30, h30, L30, X30, e30, hQ30, st30⟩ := own_virtual X29 hx hZ hown (hw _ (List.mem_of_getElem? (i := 96) rfl)) (hw _ (List.mem_of_getElem? (i := 97) rfl)) (hw _ (List.mem_of_getElem? (i := 99) rfl)) (hw _ (List.mem_of_getElem? (i := 98) rfl)) (hw _ (List.mem_of_getElem? (i := 100) rfl)) (hw _ (List.mem_of_getElem? (i := 26) rfl)) (by decide) (a := cp) E_cp (rm_getRejected l Z a0 hw cp rqu2 oq u2 j2 [(.long ((((0 : Int64) + own_hit (0 : Int32) oa) + own_hit (0 : Int32) ob) + own_hit (0 : Int32) od)), (.long ((((0 : Int64) + own_hit (1 : Int32) oa) + own_hit (1 : Int32) ob) + own_hit (1 : Int32) od)), (.long ((((0 : Int64) + own_hit (2 : Int32) oa) + own_hit (2 : Int32) ob) + own_hit (2 : Int32) od)), (.long ((((0 : Int64) + own_hit (3 : Int32) oa) + own_hit (3 : Int32) ob) + own_hit (3 : Int32) od))] ((((0 : Int64) + own_hit oq oa) + own_hit oq ob) + own_hit oq od) h25 n0 Z0 hoq G2 (Q_rqu2.ext O.2) (O_rqu2.ext O.2) V_u2 (own_getf (fun i => ((((0 : Int64) + own_hit i oa) + own_hit i ob) + own_hit i od)) oq hoq)) e29 (g := (mkF m 268 #[.val (.int i0), .val (.int i1), .val (.int i2), .val (.int i3), .val (.int i4), .val (.int i5), .val (.ref rs), .val (.ref ks), .val (.int oa), .val (.int ob), .val (.int od), .val (.int oe), .val (.int (0 : Int32)), .val (.int oq), .val (.int ok), .val (.ref b), .val (.ref cp), .val (.long (((own_hit oq oa) + (own_hit oq ob)) + (own_hit oq od))), .second, .val (.long (own_hit oq oe)), .second, .val (.long (((own_hit oq oa) + (own_hit oq ob)) + (own_hit oq od))), .second, .val (.long ((((own_hit oq oa) + (own_hit oq ob)) + (own_hit oq od)) + (own_hit oq oe))), .second] [(.ref rqu2), (.ref cp)])) rfl (by rw [hml]; rfl) (argsL := [(.ref rqu2)]) (rest := []) (lenOf pd_12 rfl) rfl (W := 0) (by show 2 * 0 + _ ≤ _; exact Nat.le_of_eq rfl) (hb hby at_268) (by decide) (by decide) (by decide) (by decide)
    obtain ⟨rfl, N30q, hh30⟩ := hQ30
    have N30 := Fr.app N29 N30q
    rw [hh30] at e30
    refine own_st st30 ?_
    show Fin1 p e below s (rm0Q Z i0 i1 i2 i3 i4 i5 vaM xM0 xM1 xM2 xM3 vcM vaJ xJ0 xJ1 xJ2 xJ3 vcJ h0 n0) room_1.cells room_1.slots (T30.setTop (mkF m 271 #[.val (.int i0), .val (.int i1), .val (.int i2), .val (.int i3), .val (.int i4), .val (.int i5), .val (.ref rs), .val (.ref ks), .val (.int oa), .val (.int ob), .val (.int od), .val (.int oe), .val (.int (0 : Int32)), .val (.int oq), .val (.int ok), .val (.ref b), .val (.ref cp), .val (.long (((own_hit oq oa) + (own_hit oq ob)) + (own_hit oq od))), .second, .val (.long (own_hit oq oe)), .second, .val (.long (((own_hit oq oa) + (own_hit oq ob)) + (own_hit oq od))), .second, .val (.long ((((own_hit oq oa) + (own_hit oq ob)) + (own_hit oq od)) + (own_hit oq oe))), .second] [(.long ((((0 : Int64) + own_hit oq oa) + own_hit oq ob) + own_hit oq od))]))
    refine own_st (fun wt wk => XS.lload X30.here hx rfl (hb hby at_271) rfl wk) ?_
    show Fin1 p e below s (rm0Q Z i0 i1 i2 i3 i4 i5 vaM xM0 xM1 xM2 xM3 vcM vaJ xJ0 xJ1 xJ2 xJ3 vcJ h0 n0) room_1.cells room_1.slots (T30.setTop (mkF m 273 #[.val (.int i0), .val (.int i1), .val (.int i2), .val (.int i3), .val (.int i4), .val (.int i5), .val (.ref rs), .val (.ref ks), .val (.int oa), .val (.int ob), .val (.int od), .val (.int oe), .val (.int (0 : Int32)), .val (.int oq), .val (.int ok), .val (.ref b), .val (.ref cp), .val (.long (((own_hit oq oa) + (own_hit oq ob)) + (own_hit oq od))), .second, .val (.long (own_hit oq oe)), .second, .val (.long (((own_hit oq oa) + (own_hit oq ob)) + (own_hit oq od))), .second, .val (.long ((((own_hit oq oa) + (own_hit oq ob)) + (own_hit oq od)) + (own_hit oq oe))), .second] [(.long (((own_hit oq oa) + (own_hit oq ob)) + (own_hit oq od))), (.long ((((0 : Int64) + own_hit oq oa) + own_hit oq ob) + own_hit oq od))]))
    refine own_st (fun wt wk => XS.lcmp X30.here hx rfl (hb hby at_273) rfl wk) ?_
    show Fin1 p e below s (rm0Q Z i0 i1 i2 i3 i4 i5 vaM xM0 xM1 xM2 xM3 vcM vaJ xJ0 xJ1 xJ2 xJ3 vcJ h0 n0) room_1.cells room_1.slots (T30.setTop (mkF m 274 #[.val (.int i0), .val (.int i1), .val (.int i2), .val (.int i3), .val (.int i4), .val (.int i5), .val (.ref rs), .val (.ref ks), .val (.int oa), .val (.int ob), .val (.int od), .val (.int oe), .val (.int (0 : Int32)), .val (.int oq), .val (.int ok), .val (.ref b), .val (.ref cp), .val (.long (((own_hit oq oa) + (own_hit oq ob)) + (own_hit oq od))), .second, .val (.long (own_hit oq oe)), .second, .val (.long (((own_hit oq oa) + (own_hit oq ob)) + (own_hit oq od))), .second, .val (.long ((((own_hit oq oa) + (own_hit oq ob)) + (own_hit oq od)) + (own_hit oq oe))), .second] [(.int (lcmpW ((((0 : Int64) + own_hit oq oa) + own_hit oq ob) + own_hit oq od) (((own_hit oq oa) + (own_hit oq ob)) + (own_hit oq od))))]))
    refine own_st (fun wt wk => XS.ifNo X30.here hx rfl (hb hby at_274) rfl ((if0 _ _).trans (teq ((lw_eq _ _).mpr (by simp) : (lcmpW ((((0 : Int64) + own_hit oq oa) + own_hit oq ob) + own_hit oq od) (((own_hit oq oa) + (own_hit oq ob)) + (own_hit oq od))) = (0 : Int32))).2) wk) ?_
    show Fin1 p e below s (rm0Q Z i0 i1 i2 i3 i4 i5 vaM xM0 xM1 xM2 xM3 vcM vaJ xJ0 xJ1 xJ2 xJ3 vcJ h0 n0) room_1.cells room_1.slots (T30.setTop (mkF m 277 #[.val (.int i0), .val (.int i1), .val (.int i2), .val (.int i3), .val (.int i4), .val (.int i5), .val (.ref rs), .val (.ref ks), .val (.int oa), .val (.int ob), .val (.int od), .val (.int oe), .val (.int (0 : Int32)), .val (.int oq), .val (.int ok), .val (.ref b), .val (.ref cp), .val (.long (((own_hit oq oa) + (own_hit oq ob)) + (own_hit oq od))), .second, .val (.long (own_hit oq oe)), .second, .val (.long (((own_hit oq oa) + (own_hit oq ob)) + (own_hit oq od))), .second, .val (.long ((((own_hit oq oa) + (own_hit oq ob)) + (own_hit oq od)) + (own_hit oq oe))), .second] []))
    refine own_st (fun wt wk => XS.aload X30.here hx rfl (hb hby at_277) rfl rfl wk) ?_
    show Fin1 p e below s (rm0Q Z i0 i1 i2 i3 i4 i5 vaM xM0 xM1 xM2 xM3 vcM vaJ xJ0 xJ1 xJ2 xJ3 vcJ h0 n0) room_1.cells room_1.slots (T30.setTop (mkF m 279 #[.val (.int i0), .val (.int i1), .val (.int i2), .val (.int i3), .val (.int i4), .val (.int i5), .val (.ref rs), .val (.ref ks), .val (.int oa), .val (.int ob), .val (.int od), .val (.int oe), .val (.int (0 : Int32)), .val (.int oq), .val (.int ok), .val (.ref b), .val (.ref cp), .val (.long (((own_hit oq oa) + (own_hit oq ob)) + (own_hit oq od))), .second, .val (.long (own_hit oq oe)), .second, .val (.long (((own_hit oq oa) + (own_hit oq ob)) + (own_hit oq od))), .second, .val (.long ((((own_hit oq oa) + (own_hit oq ob)) + (own_hit oq od)) + (own_hit oq oe))), .second] [(.ref b)]))
    refine own_st (fun wt wk => XS.aload X30.here hx rfl (hb hby at_279) rfl rfl wk) ?_
    show Fin1 p e below s (rm0Q Z i0 i1 i2 i3 i4 i5 vaM xM0 xM1 xM2 xM3 vcM vaJ xJ0 xJ1 xJ2 xJ3 vcJ h0 n0) room_1.cells room_1.slots (T30.setTop (mkF m 281 #[.val (.int i0), .val (.int i1), .val (.int i2), .val (.int i3), .val (.int i4), .val (.int i5), .val (.ref rs), .val (.ref ks), .val (.int oa), .val (.int ob), .val (.int od), .val (.int oe), .val (.int (0 : Int32)), .val (.int oq), .val (.int ok), .val (.ref b), .val (.ref cp), .val (.long (((own_hit oq oa) + (own_hit oq ob)) + (own_hit oq od))), .second, .val (.long (own_hit oq oe)), .second, .val (.long (((own_hit oq oa) + (own_hit oq ob)) + (own_hit oq od))), .second, .val (.long ((((own_hit oq oa) + (own_hit oq ob)) + (own_hit oq od)) + (own_hit oq oe))), .second] [(.ref rs), (.ref b)]))
    refine own_st (fun wt wk => XS.iload X30.here hx rfl (hb hby at_281) rfl wk) ?_
    show Fin1 p e below s (rm0Q Z i0 i1 i2 i3 i4 i5 vaM xM0 xM1 xM2 xM3 vcM vaJ xJ0 xJ1 xJ2 xJ3 vcJ h0 n0) room_1.cells room_1.slots (T30.setTop (mkF m 283 #[.val (.int i0), .val (.int i1), .val (.int i2), .val (.int i3), .val (.int i4), .val (.int i5), .val (.ref rs), .val (.ref ks), .val (.int oa), .val (.int ob), .val (.int od), .val (.int oe), .val (.int (0 : Int32)), .val (.int oq), .val (.int ok), .val (.ref b), .val (.ref cp), .val (.long (((own_hit oq oa) + (own_hit oq ob)) + (own_hit oq od))), .second, .val (.long (own_hit oq oe)), .second, .val (.long (((own_hit oq oa) + (own_hit oq ob)) + (own_hit oq od))), .second, .val (.long ((((own_hit oq oa) + (own_hit oq ob)) + (own_hit oq od)) + (own_hit oq oe))), .second] [(.int oq), (.ref rs), (.ref b)]))
    obtain ⟨rqt2, hv_rqt2, Q_rqt2, O_rqt2⟩ := own_selJ EJ oq hoq
    refine own_st (own_ld (j := oq) (v := (.ref rqt2)) X30 hx hZ e30 V_rs hoq hv_rqt2 (g := (mkF m 283 #[.val (.int i0), .val (.int i1), .val (.int i2), .val (.int i3), .val (.int i4), .val (.int i5), .val (.ref rs), .val (.ref ks), .val (.int oa), .val (.int ob), .val (.int od), .val (.int oe), .val (.int (0 : Int32)), .val (.int oq), .val (.int ok), .val (.ref b), .val (.ref cp), .val (.long (((own_hit oq oa) + (own_hit oq ob)) + (own_hit oq od))), .second, .val (.long (own_hit oq oe)), .second, .val (.long (((own_hit oq oa) + (own_hit oq ob)) + (own_hit oq od))), .second, .val (.long ((((own_hit oq oa) + (own_hit oq ob)) + (own_hit oq od)) + (own_hit oq oe))), .second] [(.int oq), (.ref rs), (.ref b)])) rfl rfl (Or.inr (Or.inr ⟨rfl, rfl⟩)) (hb hby at_283)) ?_
    show Fin1 p e below s (rm0Q Z i0 i1 i2 i3 i4 i5 vaM xM0 xM1 xM2 xM3 vcM vaJ xJ0 xJ1 xJ2 xJ3 vcJ h0 n0) room_1.cells room_1.slots (T30.setTop (mkF m 284 #[.val (.int i0), .val (.int i1), .val (.int i2), .val (.int i3), .val (.int i4), .val (.int i5), .val (.ref rs), .val (.ref ks), .val (.int oa), .val (.int ob), .val (.int od), .val (.int oe), .val (.int (0 : Int32)), .val (.int oq), .val (.int ok), .val (.ref b), .val (.ref cp), .val (.long (((own_hit oq oa) + (own_hit oq ob)) + (own_hit oq od))), .second, .val (.long (own_hit oq oe)), .second, .val (.long (((own_hit oq oa) + (own_hit oq ob)) + (own_hit oq od))), .second, .val (.long ((((own_hit oq oa) + (own_hit oq ob)) + (own_hit oq od)) + (own_hit oq oe))), .second] [(.ref rqt2), (.ref b)]))
    obtain ⟨v31, T31, h31, L31, X31, e31, hQ31, st31⟩ := own_virtual X30 hx hZ hown (hw _ (List.mem_of_getElem? (i := 96) rfl)) (hw _ (List.mem_of_getElem? (i := 97) rfl)) (hw _ (List.mem_of_getElem? (i := 99) rfl)) (hw _ (List.mem_of_getElem? (i := 98) rfl)) (hw _ (List.mem_of_getElem? (i := 100) rfl)) (hw _ (List.mem_of_getElem? (i := 26) rfl)) (by decide) (a := b) E_b (rm_getRejected l Z a0 hw b rqt2 oq t2 k2 [(.long (((((0 : Int64) + own_hit (0 : Int32) oa) + own_hit (0 : Int32) ob) + own_hit (0 : Int32) od) + own_hit (0 : Int32) oe)), (.long (((((0 : Int64) + own_hit (1 : Int32) oa) + own_hit (1 : Int32) ob) + own_hit (1 : Int32) od) + own_hit (1 : Int32) oe)), (.long (((((0 : Int64) + own_hit (2 : Int32) oa) + own_hit (2 : Int32) ob) + own_hit (2 : Int32) od) + own_hit (2 : Int32) oe)), (.long (((((0 : Int64) + own_hit (3 : Int32) oa) + own_hit (3 : Int32) ob) + own_hit (3 : Int32) od) + own_hit (3 : Int32) oe))] (((((0 : Int64) + own_hit oq oa) + own_hit oq ob) + own_hit oq od) + own_hit oq oe) h25 n0 Z0 hoq F2 (Q_rqt2.ext O.2) (O_rqt2.ext O.2) V_t2 (own_getf (fun i => (((((0 : Int64) + own_hit i oa) + own_hit i ob) + own_hit i od) + own_hit i oe)) oq hoq)) e30 (g := (mkF m 284 #[.val (.int i0), .val (.int i1), .val (.int i2), .val (.int i3), .val (.int i4), .val (.int i5), .val (.ref rs), .val (.ref ks), .val (.int oa), .val (.int ob), .val (.int od), .val (.int oe), .val (.int (0 : Int32)), .val (.int oq), .val (.int ok), .val (.ref b), .val (.ref cp), .val (.long (((own_hit oq oa) + (own_hit oq ob)) + (own_hit oq od))), .second, .val (.long (own_hit oq oe)), .second, .val (.long (((own_hit oq oa) + (own_hit oq ob)) + (own_hit oq od))), .second, .val (.long ((((own_hit oq oa) + (own_hit oq ob)) + (own_hit oq od)) + (own_hit oq oe))), .second] [(.ref rqt2), (.ref b)])) rfl (by rw [hml]; rfl) (argsL := [(.ref rqt2)]) (rest := []) (lenOf pd_12 rfl) rfl (W := 0) (by show 2 * 0 + _ ≤ _; exact Nat.le_of_eq rfl) (hb hby at_284) (by decide) (by decide) (by decide) (by decide)
    obtain ⟨rfl, N31q, hh31⟩ := hQ31
    have N31 := Fr.app N30 N31q
    rw [hh31] at e31
    refine own_st st31 ?_
    show Fin1 p e below s (rm0Q Z i0 i1 i2 i3 i4 i5 vaM xM0 xM1 xM2 xM3 vcM vaJ xJ0 xJ1 xJ2 xJ3 vcJ h0 n0) room_1.cells room_1.slots (T31.setTop (mkF m 287 #[.val (.int i0), .val (.int i1), .val (.int i2), .val (.int i3), .val (.int i4), .val (.int i5), .val (.ref rs), .val (.ref ks), .val (.int oa), .val (.int ob), .val (.int od), .val (.int oe), .val (.int (0 : Int32)), .val (.int oq), .val (.int ok), .val (.ref b), .val (.ref cp), .val (.long (((own_hit oq oa) + (own_hit oq ob)) + (own_hit oq od))), .second, .val (.long (own_hit oq oe)), .second, .val (.long (((own_hit oq oa) + (own_hit oq ob)) + (own_hit oq od))), .second, .val (.long ((((own_hit oq oa) + (own_hit oq ob)) + (own_hit oq od)) + (own_hit oq oe))), .second] [(.long (((((0 : Int64) + own_hit oq oa) + own_hit oq ob) + own_hit oq od) + own_hit oq oe))]))
    refine own_st (fun wt wk => XS.lload X31.here hx rfl (hb hby at_287) rfl wk) ?_
    show Fin1 p e below s (rm0Q Z i0 i1 i2 i3 i4 i5 vaM xM0 xM1 xM2 xM3 vcM vaJ xJ0 xJ1 xJ2 xJ3 vcJ h0 n0) room_1.cells room_1.slots (T31.setTop (mkF m 289 #[.val (.int i0), .val (.int i1), .val (.int i2), .val (.int i3), .val (.int i4), .val (.int i5), .val (.ref rs), .val (.ref ks), .val (.int oa), .val (.int ob), .val (.int od), .val (.int oe), .val (.int (0 : Int32)), .val (.int oq), .val (.int ok), .val (.ref b), .val (.ref cp), .val (.long (((own_hit oq oa) + (own_hit oq ob)) + (own_hit oq od))), .second, .val (.long (own_hit oq oe)), .second, .val (.long (((own_hit oq oa) + (own_hit oq ob)) + (own_hit oq od))), .second, .val (.long ((((own_hit oq oa) + (own_hit oq ob)) + (own_hit oq od)) + (own_hit oq oe))), .second] [(.long ((((own_hit oq oa) + (own_hit oq ob)) + (own_hit oq od)) + (own_hit oq oe))), (.long (((((0 : Int64) + own_hit oq oa) + own_hit oq ob) + own_hit oq od) + own_hit oq oe))]))
    refine own_st (fun wt wk => XS.lcmp X31.here hx rfl (hb hby at_289) rfl wk) ?_
    show Fin1 p e below s (rm0Q Z i0 i1 i2 i3 i4 i5 vaM xM0 xM1 xM2 xM3 vcM vaJ xJ0 xJ1 xJ2 xJ3 vcJ h0 n0) room_1.cells room_1.slots (T31.setTop (mkF m 290 #[.val (.int i0), .val (.int i1), .val (.int i2), .val (.int i3), .val (.int i4), .val (.int i5), .val (.ref rs), .val (.ref ks), .val (.int oa), .val (.int ob), .val (.int od), .val (.int oe), .val (.int (0 : Int32)), .val (.int oq), .val (.int ok), .val (.ref b), .val (.ref cp), .val (.long (((own_hit oq oa) + (own_hit oq ob)) + (own_hit oq od))), .second, .val (.long (own_hit oq oe)), .second, .val (.long (((own_hit oq oa) + (own_hit oq ob)) + (own_hit oq od))), .second, .val (.long ((((own_hit oq oa) + (own_hit oq ob)) + (own_hit oq od)) + (own_hit oq oe))), .second] [(.int (lcmpW (((((0 : Int64) + own_hit oq oa) + own_hit oq ob) + own_hit oq od) + own_hit oq oe) ((((own_hit oq oa) + (own_hit oq ob)) + (own_hit oq od)) + (own_hit oq oe))))]))
    refine own_st (fun wt wk => XS.ifNo X31.here hx rfl (hb hby at_290) rfl ((if0 _ _).trans (teq ((lw_eq _ _).mpr (by simp) : (lcmpW (((((0 : Int64) + own_hit oq oa) + own_hit oq ob) + own_hit oq od) + own_hit oq oe) ((((own_hit oq oa) + (own_hit oq ob)) + (own_hit oq od)) + (own_hit oq oe))) = (0 : Int32))).2) wk) ?_
    show Fin1 p e below s (rm0Q Z i0 i1 i2 i3 i4 i5 vaM xM0 xM1 xM2 xM3 vcM vaJ xJ0 xJ1 xJ2 xJ3 vcJ h0 n0) room_1.cells room_1.slots (T31.setTop (mkF m 293 #[.val (.int i0), .val (.int i1), .val (.int i2), .val (.int i3), .val (.int i4), .val (.int i5), .val (.ref rs), .val (.ref ks), .val (.int oa), .val (.int ob), .val (.int od), .val (.int oe), .val (.int (0 : Int32)), .val (.int oq), .val (.int ok), .val (.ref b), .val (.ref cp), .val (.long (((own_hit oq oa) + (own_hit oq ob)) + (own_hit oq od))), .second, .val (.long (own_hit oq oe)), .second, .val (.long (((own_hit oq oa) + (own_hit oq ob)) + (own_hit oq od))), .second, .val (.long ((((own_hit oq oa) + (own_hit oq ob)) + (own_hit oq od)) + (own_hit oq oe))), .second] []))
    refine own_st (fun wt wk => XS.aload X31.here hx rfl (hb hby at_293) rfl rfl wk) ?_
    show Fin1 p e below s (rm0Q Z i0 i1 i2 i3 i4 i5 vaM xM0 xM1 xM2 xM3 vcM vaJ xJ0 xJ1 xJ2 xJ3 vcJ h0 n0) room_1.cells room_1.slots (T31.setTop (mkF m 295 #[.val (.int i0), .val (.int i1), .val (.int i2), .val (.int i3), .val (.int i4), .val (.int i5), .val (.ref rs), .val (.ref ks), .val (.int oa), .val (.int ob), .val (.int od), .val (.int oe), .val (.int (0 : Int32)), .val (.int oq), .val (.int ok), .val (.ref b), .val (.ref cp), .val (.long (((own_hit oq oa) + (own_hit oq ob)) + (own_hit oq od))), .second, .val (.long (own_hit oq oe)), .second, .val (.long (((own_hit oq oa) + (own_hit oq ob)) + (own_hit oq od))), .second, .val (.long ((((own_hit oq oa) + (own_hit oq ob)) + (own_hit oq od)) + (own_hit oq oe))), .second] [(.ref cp)]))
    refine own_st (fun wt wk => XS.aload X31.here hx rfl (hb hby at_295) rfl rfl wk) ?_
    show Fin1 p e below s (rm0Q Z i0 i1 i2 i3 i4 i5 vaM xM0 xM1 xM2 xM3 vcM vaJ xJ0 xJ1 xJ2 xJ3 vcJ h0 n0) room_1.cells room_1.slots (T31.setTop (mkF m 297 #[.val (.int i0), .val (.int i1), .val (.int i2), .val (.int i3), .val (.int i4), .val (.int i5), .val (.ref rs), .val (.ref ks), .val (.int oa), .val (.int ob), .val (.int od), .val (.int oe), .val (.int (0 : Int32)), .val (.int oq), .val (.int ok), .val (.ref b), .val (.ref cp), .val (.long (((own_hit oq oa) + (own_hit oq ob)) + (own_hit oq od))), .second, .val (.long (own_hit oq oe)), .second, .val (.long (((own_hit oq oa) + (own_hit oq ob)) + (own_hit oq od))), .second, .val (.long ((((own_hit oq oa) + (own_hit oq ob)) + (own_hit oq od)) + (own_hit oq oe))), .second] [(.ref ks), (.ref cp)]))
    refine own_st (fun wt wk => XS.iload X31.here hx rfl (hb hby at_297) rfl wk) ?_
    show Fin1 p e below s (rm0Q Z i0 i1 i2 i3 i4 i5 vaM xM0 xM1 xM2 xM3 vcM vaJ xJ0 xJ1 xJ2 xJ3 vcJ h0 n0) room_1.cells room_1.slots (T31.setTop (mkF m 299 #[.val (.int i0), .val (.int i1), .val (.int i2), .val (.int i3), .val (.int i4), .val (.int i5), .val (.ref rs), .val (.ref ks), .val (.int oa), .val (.int ob), .val (.int od), .val (.int oe), .val (.int (0 : Int32)), .val (.int oq), .val (.int ok), .val (.ref b), .val (.ref cp), .val (.long (((own_hit oq oa) + (own_hit oq ob)) + (own_hit oq od))), .second, .val (.long (own_hit oq oe)), .second, .val (.long (((own_hit oq oa) + (own_hit oq ob)) + (own_hit oq od))), .second, .val (.long ((((own_hit oq oa) + (own_hit oq ob)) + (own_hit oq od)) + (own_hit oq oe))), .second] [(.int ok), (.ref ks), (.ref cp)]))
    obtain ⟨rk0, hv_rk0, Q_rk0, O_rk0⟩ := own_selM EM ok hok
    refine own_st (own_ld (j := ok) (v := (.ref rk0)) X31 hx hZ e31 V_ks hok hv_rk0 (g := (mkF m 299 #[.val (.int i0), .val (.int i1), .val (.int i2), .val (.int i3), .val (.int i4), .val (.int i5), .val (.ref rs), .val (.ref ks), .val (.int oa), .val (.int ob), .val (.int od), .val (.int oe), .val (.int (0 : Int32)), .val (.int oq), .val (.int ok), .val (.ref b), .val (.ref cp), .val (.long (((own_hit oq oa) + (own_hit oq ob)) + (own_hit oq od))), .second, .val (.long (own_hit oq oe)), .second, .val (.long (((own_hit oq oa) + (own_hit oq ob)) + (own_hit oq od))), .second, .val (.long ((((own_hit oq oa) + (own_hit oq ob)) + (own_hit oq od)) + (own_hit oq oe))), .second] [(.int ok), (.ref ks), (.ref cp)])) rfl rfl (Or.inr (Or.inr ⟨rfl, rfl⟩)) (hb hby at_299)) ?_
    show Fin1 p e below s (rm0Q Z i0 i1 i2 i3 i4 i5 vaM xM0 xM1 xM2 xM3 vcM vaJ xJ0 xJ1 xJ2 xJ3 vcJ h0 n0) room_1.cells room_1.slots (T31.setTop (mkF m 300 #[.val (.int i0), .val (.int i1), .val (.int i2), .val (.int i3), .val (.int i4), .val (.int i5), .val (.ref rs), .val (.ref ks), .val (.int oa), .val (.int ob), .val (.int od), .val (.int oe), .val (.int (0 : Int32)), .val (.int oq), .val (.int ok), .val (.ref b), .val (.ref cp), .val (.long (((own_hit oq oa) + (own_hit oq ob)) + (own_hit oq od))), .second, .val (.long (own_hit oq oe)), .second, .val (.long (((own_hit oq oa) + (own_hit oq ob)) + (own_hit oq od))), .second, .val (.long ((((own_hit oq oa) + (own_hit oq ob)) + (own_hit oq od)) + (own_hit oq oe))), .second] [(.ref rk0), (.ref cp)]))
    obtain ⟨v32, T32, h32, L32, X32, e32, hQ32, st32⟩ := own_virtual X31 hx hZ hown (hw _ (List.mem_of_getElem? (i := 101) rfl)) (hw _ (List.mem_of_getElem? (i := 102) rfl)) (hw _ (List.mem_of_getElem? (i := 104) rfl)) (hw _ (List.mem_of_getElem? (i := 103) rfl)) (hw _ (List.mem_of_getElem? (i := 105) rfl)) (hw _ (List.mem_of_getElem? (i := 26) rfl)) (by decide) (a := cp) E_cp (rm_getSent l Z a0 hw cp rk0 ok u0 j0 [(.long (0 : Int64)), (.long (0 : Int64)), (.long (0 : Int64)), (.long (0 : Int64))] (0 : Int64) h25 n0 Z0 hok G0 (Q_rk0.ext O.2) (O_rk0.ext O.2) V_u0 (own_getf (fun _ => 0) ok hok)) e31 (g := (mkF m 300 #[.val (.int i0), .val (.int i1), .val (.int i2), .val (.int i3), .val (.int i4), .val (.int i5), .val (.ref rs), .val (.ref ks), .val (.int oa), .val (.int ob), .val (.int od), .val (.int oe), .val (.int (0 : Int32)), .val (.int oq), .val (.int ok), .val (.ref b), .val (.ref cp), .val (.long (((own_hit oq oa) + (own_hit oq ob)) + (own_hit oq od))), .second, .val (.long (own_hit oq oe)), .second, .val (.long (((own_hit oq oa) + (own_hit oq ob)) + (own_hit oq od))), .second, .val (.long ((((own_hit oq oa) + (own_hit oq ob)) + (own_hit oq od)) + (own_hit oq oe))), .second] [(.ref rk0), (.ref cp)])) rfl (by rw [hml]; rfl) (argsL := [(.ref rk0)]) (rest := []) (lenOf pd_13 rfl) rfl (W := 0) (by show 2 * 0 + _ ≤ _; exact Nat.le_of_eq rfl) (hb hby at_300) (by decide) (by decide) (by decide) (by decide)
    obtain ⟨rfl, N32q, hh32⟩ := hQ32
    have N32 := Fr.app N31 N32q
    rw [hh32] at e32
    refine own_st st32 ?_
    show Fin1 p e below s (rm0Q Z i0 i1 i2 i3 i4 i5 vaM xM0 xM1 xM2 xM3 vcM vaJ xJ0 xJ1 xJ2 xJ3 vcJ h0 n0) room_1.cells room_1.slots (T32.setTop (mkF m 303 #[.val (.int i0), .val (.int i1), .val (.int i2), .val (.int i3), .val (.int i4), .val (.int i5), .val (.ref rs), .val (.ref ks), .val (.int oa), .val (.int ob), .val (.int od), .val (.int oe), .val (.int (0 : Int32)), .val (.int oq), .val (.int ok), .val (.ref b), .val (.ref cp), .val (.long (((own_hit oq oa) + (own_hit oq ob)) + (own_hit oq od))), .second, .val (.long (own_hit oq oe)), .second, .val (.long (((own_hit oq oa) + (own_hit oq ob)) + (own_hit oq od))), .second, .val (.long ((((own_hit oq oa) + (own_hit oq ob)) + (own_hit oq od)) + (own_hit oq oe))), .second] [(.long (0 : Int64))]))
    refine own_st (fun wt wk => XS.lconst X32.here hx rfl (hb hby at_303) wk) ?_
    show Fin1 p e below s (rm0Q Z i0 i1 i2 i3 i4 i5 vaM xM0 xM1 xM2 xM3 vcM vaJ xJ0 xJ1 xJ2 xJ3 vcJ h0 n0) room_1.cells room_1.slots (T32.setTop (mkF m 304 #[.val (.int i0), .val (.int i1), .val (.int i2), .val (.int i3), .val (.int i4), .val (.int i5), .val (.ref rs), .val (.ref ks), .val (.int oa), .val (.int ob), .val (.int od), .val (.int oe), .val (.int (0 : Int32)), .val (.int oq), .val (.int ok), .val (.ref b), .val (.ref cp), .val (.long (((own_hit oq oa) + (own_hit oq ob)) + (own_hit oq od))), .second, .val (.long (own_hit oq oe)), .second, .val (.long (((own_hit oq oa) + (own_hit oq ob)) + (own_hit oq od))), .second, .val (.long ((((own_hit oq oa) + (own_hit oq ob)) + (own_hit oq od)) + (own_hit oq oe))), .second] [(.long (0 : Int64)), (.long (0 : Int64))]))
    refine own_st (fun wt wk => XS.lcmp X32.here hx rfl (hb hby at_304) rfl wk) ?_
    show Fin1 p e below s (rm0Q Z i0 i1 i2 i3 i4 i5 vaM xM0 xM1 xM2 xM3 vcM vaJ xJ0 xJ1 xJ2 xJ3 vcJ h0 n0) room_1.cells room_1.slots (T32.setTop (mkF m 305 #[.val (.int i0), .val (.int i1), .val (.int i2), .val (.int i3), .val (.int i4), .val (.int i5), .val (.ref rs), .val (.ref ks), .val (.int oa), .val (.int ob), .val (.int od), .val (.int oe), .val (.int (0 : Int32)), .val (.int oq), .val (.int ok), .val (.ref b), .val (.ref cp), .val (.long (((own_hit oq oa) + (own_hit oq ob)) + (own_hit oq od))), .second, .val (.long (own_hit oq oe)), .second, .val (.long (((own_hit oq oa) + (own_hit oq ob)) + (own_hit oq od))), .second, .val (.long ((((own_hit oq oa) + (own_hit oq ob)) + (own_hit oq od)) + (own_hit oq oe))), .second] [(.int (lcmpW (0 : Int64) (0 : Int64)))]))
    refine own_st (fun wt wk => XS.ifNo X32.here hx rfl (hb hby at_305) rfl ((if0 _ _).trans (teq ((lw_eq _ _).mpr rfl : (lcmpW (0 : Int64) (0 : Int64)) = (0 : Int32))).2) wk) ?_
    show Fin1 p e below s (rm0Q Z i0 i1 i2 i3 i4 i5 vaM xM0 xM1 xM2 xM3 vcM vaJ xJ0 xJ1 xJ2 xJ3 vcJ h0 n0) room_1.cells room_1.slots (T32.setTop (mkF m 308 #[.val (.int i0), .val (.int i1), .val (.int i2), .val (.int i3), .val (.int i4), .val (.int i5), .val (.ref rs), .val (.ref ks), .val (.int oa), .val (.int ob), .val (.int od), .val (.int oe), .val (.int (0 : Int32)), .val (.int oq), .val (.int ok), .val (.ref b), .val (.ref cp), .val (.long (((own_hit oq oa) + (own_hit oq ob)) + (own_hit oq od))), .second, .val (.long (own_hit oq oe)), .second, .val (.long (((own_hit oq oa) + (own_hit oq ob)) + (own_hit oq od))), .second, .val (.long ((((own_hit oq oa) + (own_hit oq ob)) + (own_hit oq od)) + (own_hit oq oe))), .second] []))
    refine own_st (fun wt wk => XS.aload X32.here hx rfl (hb hby at_308) rfl rfl wk) ?_
    show Fin1 p e below s (rm0Q Z i0 i1 i2 i3 i4 i5 vaM xM0 xM1 xM2 xM3 vcM vaJ xJ0 xJ1 xJ2 xJ3 vcJ h0 n0) room_1.cells room_1.slots (T32.setTop (mkF m 310 #[.val (.int i0), .val (.int i1), .val (.int i2), .val (.int i3), .val (.int i4), .val (.int i5), .val (.ref rs), .val (.ref ks), .val (.int oa), .val (.int ob), .val (.int od), .val (.int oe), .val (.int (0 : Int32)), .val (.int oq), .val (.int ok), .val (.ref b), .val (.ref cp), .val (.long (((own_hit oq oa) + (own_hit oq ob)) + (own_hit oq od))), .second, .val (.long (own_hit oq oe)), .second, .val (.long (((own_hit oq oa) + (own_hit oq ob)) + (own_hit oq od))), .second, .val (.long ((((own_hit oq oa) + (own_hit oq ob)) + (own_hit oq od)) + (own_hit oq oe))), .second] [(.ref cp)]))
    refine own_st (fun wt wk => XS.aload X32.here hx rfl (hb hby at_310) rfl rfl wk) ?_
    show Fin1 p e below s (rm0Q Z i0 i1 i2 i3 i4 i5 vaM xM0 xM1 xM2 xM3 vcM vaJ xJ0 xJ1 xJ2 xJ3 vcJ h0 n0) room_1.cells room_1.slots (T32.setTop (mkF m 312 #[.val (.int i0), .val (.int i1), .val (.int i2), .val (.int i3), .val (.int i4), .val (.int i5), .val (.ref rs), .val (.ref ks), .val (.int oa), .val (.int ob), .val (.int od), .val (.int oe), .val (.int (0 : Int32)), .val (.int oq), .val (.int ok), .val (.ref b), .val (.ref cp), .val (.long (((own_hit oq oa) + (own_hit oq ob)) + (own_hit oq od))), .second, .val (.long (own_hit oq oe)), .second, .val (.long (((own_hit oq oa) + (own_hit oq ob)) + (own_hit oq od))), .second, .val (.long ((((own_hit oq oa) + (own_hit oq ob)) + (own_hit oq od)) + (own_hit oq oe))), .second] [(.ref ks), (.ref cp)]))
    refine own_st (fun wt wk => XS.iload X32.here hx rfl (hb hby at_312) rfl wk) ?_
    show Fin1 p e below s (rm0Q Z i0 i1 i2 i3 i4 i5 vaM xM0 xM1 xM2 xM3 vcM vaJ xJ0 xJ1 xJ2 xJ3 vcJ h0 n0) room_1.cells room_1.slots (T32.setTop (mkF m 314 #[.val (.int i0), .val (.int i1), .val (.int i2), .val (.int i3), .val (.int i4), .val (.int i5), .val (.ref rs), .val (.ref ks), .val (.int oa), .val (.int ob), .val (.int od), .val (.int oe), .val (.int (0 : Int32)), .val (.int oq), .val (.int ok), .val (.ref b), .val (.ref cp), .val (.long (((own_hit oq oa) + (own_hit oq ob)) + (own_hit oq od))), .second, .val (.long (own_hit oq oe)), .second, .val (.long (((own_hit oq oa) + (own_hit oq ob)) + (own_hit oq od))), .second, .val (.long ((((own_hit oq oa) + (own_hit oq ob)) + (own_hit oq od)) + (own_hit oq oe))), .second] [(.int ok), (.ref ks), (.ref cp)]))
    obtain ⟨rk1, hv_rk1, Q_rk1, O_rk1⟩ := own_selM EM ok hok
    refine own_st (own_ld (j := ok) (v := (.ref rk1)) X32 hx hZ e32 V_ks hok hv_rk1 (g := (mkF m 314 #[.val (.int i0), .val (.int i1), .val (.int i2), .val (.int i3), .val (.int i4), .val (.int i5), .val (.ref rs), .val (.ref ks), .val (.int oa), .val (.int ob), .val (.int od), .val (.int oe), .val (.int (0 : Int32)), .val (.int oq), .val (.int ok), .val (.ref b), .val (.ref cp), .val (.long (((own_hit oq oa) + (own_hit oq ob)) + (own_hit oq od))), .second, .val (.long (own_hit oq oe)), .second, .val (.long (((own_hit oq oa) + (own_hit oq ob)) + (own_hit oq od))), .second, .val (.long ((((own_hit oq oa) + (own_hit oq ob)) + (own_hit oq od)) + (own_hit oq oe))), .second] [(.int ok), (.ref ks), (.ref cp)])) rfl rfl (Or.inr (Or.inr ⟨rfl, rfl⟩)) (hb hby at_314)) ?_
    show Fin1 p e below s (rm0Q Z i0 i1 i2 i3 i4 i5 vaM xM0 xM1 xM2 xM3 vcM vaJ xJ0 xJ1 xJ2 xJ3 vcJ h0 n0) room_1.cells room_1.slots (T32.setTop (mkF m 315 #[.val (.int i0), .val (.int i1), .val (.int i2), .val (.int i3), .val (.int i4), .val (.int i5), .val (.ref rs), .val (.ref ks), .val (.int oa), .val (.int ob), .val (.int od), .val (.int oe), .val (.int (0 : Int32)), .val (.int oq), .val (.int ok), .val (.ref b), .val (.ref cp), .val (.long (((own_hit oq oa) + (own_hit oq ob)) + (own_hit oq od))), .second, .val (.long (own_hit oq oe)), .second, .val (.long (((own_hit oq oa) + (own_hit oq ob)) + (own_hit oq od))), .second, .val (.long ((((own_hit oq oa) + (own_hit oq ob)) + (own_hit oq od)) + (own_hit oq oe))), .second] [(.ref rk1), (.ref cp)]))
    obtain ⟨v33, T33, h33, L33, X33, e33, hQ33, st33⟩ := own_virtual X32 hx hZ hown (hw _ (List.mem_of_getElem? (i := 110) rfl)) (hw _ (List.mem_of_getElem? (i := 111) rfl)) (hw _ (List.mem_of_getElem? (i := 113) rfl)) (hw _ (List.mem_of_getElem? (i := 112) rfl)) (hw _ (List.mem_of_getElem? (i := 114) rfl)) (hw _ (List.mem_of_getElem? (i := 26) rfl)) (by decide) (a := cp) E_cp (rm_getReceived l Z a0 hw cp rk1 ok u1 j1 [(.long (0 : Int64)), (.long (0 : Int64)), (.long (0 : Int64)), (.long (0 : Int64))] (0 : Int64) h25 n0 Z0 hok G1 (Q_rk1.ext O.2) (O_rk1.ext O.2) V_u1 (own_getf (fun _ => 0) ok hok)) e32 (g := (mkF m 315 #[.val (.int i0), .val (.int i1), .val (.int i2), .val (.int i3), .val (.int i4), .val (.int i5), .val (.ref rs), .val (.ref ks), .val (.int oa), .val (.int ob), .val (.int od), .val (.int oe), .val (.int (0 : Int32)), .val (.int oq), .val (.int ok), .val (.ref b), .val (.ref cp), .val (.long (((own_hit oq oa) + (own_hit oq ob)) + (own_hit oq od))), .second, .val (.long (own_hit oq oe)), .second, .val (.long (((own_hit oq oa) + (own_hit oq ob)) + (own_hit oq od))), .second, .val (.long ((((own_hit oq oa) + (own_hit oq ob)) + (own_hit oq od)) + (own_hit oq oe))), .second] [(.ref rk1), (.ref cp)])) rfl (by rw [hml]; rfl) (argsL := [(.ref rk1)]) (rest := []) (lenOf pd_13 rfl) rfl (W := 0) (by show 2 * 0 + _ ≤ _; exact Nat.le_of_eq rfl) (hb hby at_315) (by decide) (by decide) (by decide) (by decide)
    obtain ⟨rfl, N33q, hh33⟩ := hQ33
    have N33 := Fr.app N32 N33q
    rw [hh33] at e33
    refine own_st st33 ?_
    show Fin1 p e below s (rm0Q Z i0 i1 i2 i3 i4 i5 vaM xM0 xM1 xM2 xM3 vcM vaJ xJ0 xJ1 xJ2 xJ3 vcJ h0 n0) room_1.cells room_1.slots (T33.setTop (mkF m 318 #[.val (.int i0), .val (.int i1), .val (.int i2), .val (.int i3), .val (.int i4), .val (.int i5), .val (.ref rs), .val (.ref ks), .val (.int oa), .val (.int ob), .val (.int od), .val (.int oe), .val (.int (0 : Int32)), .val (.int oq), .val (.int ok), .val (.ref b), .val (.ref cp), .val (.long (((own_hit oq oa) + (own_hit oq ob)) + (own_hit oq od))), .second, .val (.long (own_hit oq oe)), .second, .val (.long (((own_hit oq oa) + (own_hit oq ob)) + (own_hit oq od))), .second, .val (.long ((((own_hit oq oa) + (own_hit oq ob)) + (own_hit oq od)) + (own_hit oq oe))), .second] [(.long (0 : Int64))]))
    refine own_st (fun wt wk => XS.lconst X33.here hx rfl (hb hby at_318) wk) ?_
    show Fin1 p e below s (rm0Q Z i0 i1 i2 i3 i4 i5 vaM xM0 xM1 xM2 xM3 vcM vaJ xJ0 xJ1 xJ2 xJ3 vcJ h0 n0) room_1.cells room_1.slots (T33.setTop (mkF m 319 #[.val (.int i0), .val (.int i1), .val (.int i2), .val (.int i3), .val (.int i4), .val (.int i5), .val (.ref rs), .val (.ref ks), .val (.int oa), .val (.int ob), .val (.int od), .val (.int oe), .val (.int (0 : Int32)), .val (.int oq), .val (.int ok), .val (.ref b), .val (.ref cp), .val (.long (((own_hit oq oa) + (own_hit oq ob)) + (own_hit oq od))), .second, .val (.long (own_hit oq oe)), .second, .val (.long (((own_hit oq oa) + (own_hit oq ob)) + (own_hit oq od))), .second, .val (.long ((((own_hit oq oa) + (own_hit oq ob)) + (own_hit oq od)) + (own_hit oq oe))), .second] [(.long (0 : Int64)), (.long (0 : Int64))]))
    refine own_st (fun wt wk => XS.lcmp X33.here hx rfl (hb hby at_319) rfl wk) ?_
    show Fin1 p e below s (rm0Q Z i0 i1 i2 i3 i4 i5 vaM xM0 xM1 xM2 xM3 vcM vaJ xJ0 xJ1 xJ2 xJ3 vcJ h0 n0) room_1.cells room_1.slots (T33.setTop (mkF m 320 #[.val (.int i0), .val (.int i1), .val (.int i2), .val (.int i3), .val (.int i4), .val (.int i5), .val (.ref rs), .val (.ref ks), .val (.int oa), .val (.int ob), .val (.int od), .val (.int oe), .val (.int (0 : Int32)), .val (.int oq), .val (.int ok), .val (.ref b), .val (.ref cp), .val (.long (((own_hit oq oa) + (own_hit oq ob)) + (own_hit oq od))), .second, .val (.long (own_hit oq oe)), .second, .val (.long (((own_hit oq oa) + (own_hit oq ob)) + (own_hit oq od))), .second, .val (.long ((((own_hit oq oa) + (own_hit oq ob)) + (own_hit oq od)) + (own_hit oq oe))), .second] [(.int (lcmpW (0 : Int64) (0 : Int64)))]))
    refine own_st (fun wt wk => XS.ifNo X33.here hx rfl (hb hby at_320) rfl ((if0 _ _).trans (teq ((lw_eq _ _).mpr rfl : (lcmpW (0 : Int64) (0 : Int64)) = (0 : Int32))).2) wk) ?_
    show Fin1 p e below s (rm0Q Z i0 i1 i2 i3 i4 i5 vaM xM0 xM1 xM2 xM3 vcM vaJ xJ0 xJ1 xJ2 xJ3 vcJ h0 n0) room_1.cells room_1.slots (T33.setTop (mkF m 323 #[.val (.int i0), .val (.int i1), .val (.int i2), .val (.int i3), .val (.int i4), .val (.int i5), .val (.ref rs), .val (.ref ks), .val (.int oa), .val (.int ob), .val (.int od), .val (.int oe), .val (.int (0 : Int32)), .val (.int oq), .val (.int ok), .val (.ref b), .val (.ref cp), .val (.long (((own_hit oq oa) + (own_hit oq ob)) + (own_hit oq od))), .second, .val (.long (own_hit oq oe)), .second, .val (.long (((own_hit oq oa) + (own_hit oq ob)) + (own_hit oq od))), .second, .val (.long ((((own_hit oq oa) + (own_hit oq ob)) + (own_hit oq od)) + (own_hit oq oe))), .second] []))
    refine own_st (fun wt wk => XS.iconst X33.here hx rfl (hb hby at_323) wk) ?_
    show Fin1 p e below s (rm0Q Z i0 i1 i2 i3 i4 i5 vaM xM0 xM1 xM2 xM3 vcM vaJ xJ0 xJ1 xJ2 xJ3 vcJ h0 n0) room_1.cells room_1.slots (T33.setTop (mkF m 324 #[.val (.int i0), .val (.int i1), .val (.int i2), .val (.int i3), .val (.int i4), .val (.int i5), .val (.ref rs), .val (.ref ks), .val (.int oa), .val (.int ob), .val (.int od), .val (.int oe), .val (.int (0 : Int32)), .val (.int oq), .val (.int ok), .val (.ref b), .val (.ref cp), .val (.long (((own_hit oq oa) + (own_hit oq ob)) + (own_hit oq od))), .second, .val (.long (own_hit oq oe)), .second, .val (.long (((own_hit oq oa) + (own_hit oq ob)) + (own_hit oq od))), .second, .val (.long ((((own_hit oq oa) + (own_hit oq ob)) + (own_hit oq od)) + (own_hit oq oe))), .second] [(.int (1 : Int32))]))
    refine own_st (fun wt wk => XS.goto X33.here hx rfl (pc0 := 324) (pc' := 328) rfl (hb hby at_324) (by decide) (by decide) wk) ?_
    show Fin1 p e below s (rm0Q Z i0 i1 i2 i3 i4 i5 vaM xM0 xM1 xM2 xM3 vcM vaJ xJ0 xJ1 xJ2 xJ3 vcJ h0 n0) room_1.cells room_1.slots (T33.setTop (mkF m 328 #[.val (.int i0), .val (.int i1), .val (.int i2), .val (.int i3), .val (.int i4), .val (.int i5), .val (.ref rs), .val (.ref ks), .val (.int oa), .val (.int ob), .val (.int od), .val (.int oe), .val (.int (0 : Int32)), .val (.int oq), .val (.int ok), .val (.ref b), .val (.ref cp), .val (.long (((own_hit oq oa) + (own_hit oq ob)) + (own_hit oq od))), .second, .val (.long (own_hit oq oe)), .second, .val (.long (((own_hit oq oa) + (own_hit oq ob)) + (own_hit oq od))), .second, .val (.long ((((own_hit oq oa) + (own_hit oq ob)) + (own_hit oq od)) + (own_hit oq oe))), .second] [(.int (1 : Int32))]))
    exact own_retZ X33 hx hlk hret (hb hby at_328) (z := (1 : Int32)) (by decide) (by rw [e33]; exact ⟨rfl, N33⟩) (by decide) (by decide)
  · show Fin1 p e below s (rm0Q Z i0 i1 i2 i3 i4 i5 vaM xM0 xM1 xM2 xM3 vcM vaJ xJ0 xJ1 xJ2 xJ3 vcJ h0 n0) room_1.cells room_1.slots (T24.setTop (mkF m 167 #[.val (.int i0), .val (.int i1), .val (.int i2), .val (.int i3), .val (.int i4), .val (.int i5), .val (.ref rs), .val (.ref ks), .val (.int oa), .val (.int ob), .val (.int od), .val (.int oe), .val (.int (1 : Int32)), .val (.int oq), .val (.int ok), .val (.ref b), .val (.ref cp), .unset, .unset, .unset, .unset, .unset, .unset, .unset, .unset] [(.int (1 : Int32))]))
    refine own_st (fun wt wk => XS.ifNo X24.here hx rfl (hb hby at_167) rfl ((if0 _ _).trans (feq (by decide)).1) wk) ?_
    show Fin1 p e below s (rm0Q Z i0 i1 i2 i3 i4 i5 vaM xM0 xM1 xM2 xM3 vcM vaJ xJ0 xJ1 xJ2 xJ3 vcJ h0 n0) room_1.cells room_1.slots (T24.setTop (mkF m 170 #[.val (.int i0), .val (.int i1), .val (.int i2), .val (.int i3), .val (.int i4), .val (.int i5), .val (.ref rs), .val (.ref ks), .val (.int oa), .val (.int ob), .val (.int od), .val (.int oe), .val (.int (1 : Int32)), .val (.int oq), .val (.int ok), .val (.ref b), .val (.ref cp), .unset, .unset, .unset, .unset, .unset, .unset, .unset, .unset] []))
    refine own_st (fun wt wk => XS.aload X24.here hx rfl (hb hby at_170) rfl rfl wk) ?_
    show Fin1 p e below s (rm0Q Z i0 i1 i2 i3 i4 i5 vaM xM0 xM1 xM2 xM3 vcM vaJ xJ0 xJ1 xJ2 xJ3 vcJ h0 n0) room_1.cells room_1.slots (T24.setTop (mkF m 172 #[.val (.int i0), .val (.int i1), .val (.int i2), .val (.int i3), .val (.int i4), .val (.int i5), .val (.ref rs), .val (.ref ks), .val (.int oa), .val (.int ob), .val (.int od), .val (.int oe), .val (.int (1 : Int32)), .val (.int oq), .val (.int ok), .val (.ref b), .val (.ref cp), .unset, .unset, .unset, .unset, .unset, .unset, .unset, .unset] [(.ref cp)]))
    refine own_st (fun wt wk => XS.aload X24.here hx rfl (hb hby at_172) rfl rfl wk) ?_
    show Fin1 p e below s (rm0Q Z i0 i1 i2 i3 i4 i5 vaM xM0 xM1 xM2 xM3 vcM vaJ xJ0 xJ1 xJ2 xJ3 vcJ h0 n0) room_1.cells room_1.slots (T24.setTop (mkF m 174 #[.val (.int i0), .val (.int i1), .val (.int i2), .val (.int i3), .val (.int i4), .val (.int i5), .val (.ref rs), .val (.ref ks), .val (.int oa), .val (.int ob), .val (.int od), .val (.int oe), .val (.int (1 : Int32)), .val (.int oq), .val (.int ok), .val (.ref b), .val (.ref cp), .unset, .unset, .unset, .unset, .unset, .unset, .unset, .unset] [(.ref rs), (.ref cp)]))
    refine own_st (fun wt wk => XS.iload X24.here hx rfl (hb hby at_174) rfl wk) ?_
    show Fin1 p e below s (rm0Q Z i0 i1 i2 i3 i4 i5 vaM xM0 xM1 xM2 xM3 vcM vaJ xJ0 xJ1 xJ2 xJ3 vcJ h0 n0) room_1.cells room_1.slots (T24.setTop (mkF m 176 #[.val (.int i0), .val (.int i1), .val (.int i2), .val (.int i3), .val (.int i4), .val (.int i5), .val (.ref rs), .val (.ref ks), .val (.int oa), .val (.int ob), .val (.int od), .val (.int oe), .val (.int (1 : Int32)), .val (.int oq), .val (.int ok), .val (.ref b), .val (.ref cp), .unset, .unset, .unset, .unset, .unset, .unset, .unset, .unset] [(.int oe), (.ref rs), (.ref cp)]))
    obtain ⟨re, hv_re, Q_re, O_re⟩ := own_selJ EJ oe hoe
    refine own_st (own_ld (j := oe) (v := (.ref re)) X24 hx hZ e24 V_rs hoe hv_re (g := (mkF m 176 #[.val (.int i0), .val (.int i1), .val (.int i2), .val (.int i3), .val (.int i4), .val (.int i5), .val (.ref rs), .val (.ref ks), .val (.int oa), .val (.int ob), .val (.int od), .val (.int oe), .val (.int (1 : Int32)), .val (.int oq), .val (.int ok), .val (.ref b), .val (.ref cp), .unset, .unset, .unset, .unset, .unset, .unset, .unset, .unset] [(.int oe), (.ref rs), (.ref cp)])) rfl rfl (Or.inr (Or.inr ⟨rfl, rfl⟩)) (hb hby at_176)) ?_
    show Fin1 p e below s (rm0Q Z i0 i1 i2 i3 i4 i5 vaM xM0 xM1 xM2 xM3 vcM vaJ xJ0 xJ1 xJ2 xJ3 vcJ h0 n0) room_1.cells room_1.slots (T24.setTop (mkF m 177 #[.val (.int i0), .val (.int i1), .val (.int i2), .val (.int i3), .val (.int i4), .val (.int i5), .val (.ref rs), .val (.ref ks), .val (.int oa), .val (.int ob), .val (.int od), .val (.int oe), .val (.int (1 : Int32)), .val (.int oq), .val (.int ok), .val (.ref b), .val (.ref cp), .unset, .unset, .unset, .unset, .unset, .unset, .unset, .unset] [(.ref re), (.ref cp)]))
    obtain ⟨v34, T34, h34, L34, X34, e34, hQ34, st34⟩ := own_virtual X24 hx hZ hown (hw _ (List.mem_of_getElem? (i := 67) rfl)) (hw _ (List.mem_of_getElem? (i := 68) rfl)) (hw _ (List.mem_of_getElem? (i := 70) rfl)) (hw _ (List.mem_of_getElem? (i := 69) rfl)) (hw _ (List.mem_of_getElem? (i := 71) rfl)) (hw _ (List.mem_of_getElem? (i := 26) rfl)) (by decide) (a := cp) E_cp (rmRej l Z a0 hw cp re oe u2 j2 ((((0 : Int64) + own_hit (0 : Int32) oa) + own_hit (0 : Int32) ob) + own_hit (0 : Int32) od) ((((0 : Int64) + own_hit (1 : Int32) oa) + own_hit (1 : Int32) ob) + own_hit (1 : Int32) od) ((((0 : Int64) + own_hit (2 : Int32) oa) + own_hit (2 : Int32) ob) + own_hit (2 : Int32) od) ((((0 : Int64) + own_hit (3 : Int32) oa) + own_hit (3 : Int32) ob) + own_hit (3 : Int32) od) h24 n0 Z0 g_u2 hoe G2 (Q_re.ext O.2) (O_re.ext O.2) V_u2) e24 (g := (mkF m 177 #[.val (.int i0), .val (.int i1), .val (.int i2), .val (.int i3), .val (.int i4), .val (.int i5), .val (.ref rs), .val (.ref ks), .val (.int oa), .val (.int ob), .val (.int od), .val (.int oe), .val (.int (1 : Int32)), .val (.int oq), .val (.int ok), .val (.ref b), .val (.ref cp), .unset, .unset, .unset, .unset, .unset, .unset, .unset, .unset] [(.ref re), (.ref cp)])) rfl (by rw [hml]; rfl) (argsL := [(.ref re)]) (rest := []) (lenOf pd_9 rfl) rfl (W := 0) (by show 2 * 0 + _ ≤ _; exact Nat.le_of_eq rfl) (hb hby at_177) (by decide) (by decide) (by decide) (by decide)
    obtain ⟨rfl, N34q, K34, V_u2⟩ := hQ34
    have N34 := Fr.app N24 N34q
    have Z0 := Nat.le_trans Z0 K34.1
    have O := O.keep K34 (allS (P := fun x => n0 ≤ x) g_u2 all0)
    have V_rs := V_rs.keep K34 (ninS ne_rs_u2 nin0)
    have V_ks := V_ks.keep K34 (ninS ne_ks_u2 nin0)
    have E_b := E_b.keep K34
    have F0 := F0.keep K34 (ninS ne_b_u2 nin0)
    have F1 := F1.keep K34 (ninS ne_b_u2 nin0)
    have F2 := F2.keep K34 (ninS ne_b_u2 nin0)
    have V_t0 := V_t0.keep K34 (ninS ne_t0_u2 nin0)
    have V_t1 := V_t1.keep K34 (ninS ne_t1_u2 nin0)
    have V_t2 := V_t2.keep K34 (ninS ne_t2_u2 nin0)
    have E_cp := E_cp.keep K34
    have G0 := G0.keep K34 (ninS ne_cp_u2 nin0)
    have G1 := G1.keep K34 (ninS ne_cp_u2 nin0)
    have G2 := G2.keep K34 (ninS ne_cp_u2 nin0)
    have V_u0 := V_u0.keep K34 (ninS ne_u0_u2 nin0)
    have V_u1 := V_u1.keep K34 (ninS ne_u1_u2 nin0)
    refine own_st st34 ?_
    show Fin1 p e below s (rm0Q Z i0 i1 i2 i3 i4 i5 vaM xM0 xM1 xM2 xM3 vcM vaJ xJ0 xJ1 xJ2 xJ3 vcJ h0 n0) room_1.cells room_1.slots (T34.setTop (mkF m 180 #[.val (.int i0), .val (.int i1), .val (.int i2), .val (.int i3), .val (.int i4), .val (.int i5), .val (.ref rs), .val (.ref ks), .val (.int oa), .val (.int ob), .val (.int od), .val (.int oe), .val (.int (1 : Int32)), .val (.int oq), .val (.int ok), .val (.ref b), .val (.ref cp), .unset, .unset, .unset, .unset, .unset, .unset, .unset, .unset] []))
    refine own_st (fun wt wk => XS.goto X34.here hx rfl (pc0 := 180) (pc' := 193) rfl (hb hby at_180) (by decide) (by decide) wk) ?_
    show Fin1 p e below s (rm0Q Z i0 i1 i2 i3 i4 i5 vaM xM0 xM1 xM2 xM3 vcM vaJ xJ0 xJ1 xJ2 xJ3 vcJ h0 n0) room_1.cells room_1.slots (T34.setTop (mkF m 193 #[.val (.int i0), .val (.int i1), .val (.int i2), .val (.int i3), .val (.int i4), .val (.int i5), .val (.ref rs), .val (.ref ks), .val (.int oa), .val (.int ob), .val (.int od), .val (.int oe), .val (.int (1 : Int32)), .val (.int oq), .val (.int ok), .val (.ref b), .val (.ref cp), .unset, .unset, .unset, .unset, .unset, .unset, .unset, .unset] []))
    refine own_st (fun wt wk => XS.iload X34.here hx rfl (hb hby at_193) rfl wk) ?_
    show Fin1 p e below s (rm0Q Z i0 i1 i2 i3 i4 i5 vaM xM0 xM1 xM2 xM3 vcM vaJ xJ0 xJ1 xJ2 xJ3 vcJ h0 n0) room_1.cells room_1.slots (T34.setTop (mkF m 195 #[.val (.int i0), .val (.int i1), .val (.int i2), .val (.int i3), .val (.int i4), .val (.int i5), .val (.ref rs), .val (.ref ks), .val (.int oa), .val (.int ob), .val (.int od), .val (.int oe), .val (.int (1 : Int32)), .val (.int oq), .val (.int ok), .val (.ref b), .val (.ref cp), .unset, .unset, .unset, .unset, .unset, .unset, .unset, .unset] [(.int oa)]))
    refine own_st (fun wt wk => XS.iload X34.here hx rfl (hb hby at_195) rfl wk) ?_
    show Fin1 p e below s (rm0Q Z i0 i1 i2 i3 i4 i5 vaM xM0 xM1 xM2 xM3 vcM vaJ xJ0 xJ1 xJ2 xJ3 vcJ h0 n0) room_1.cells room_1.slots (T34.setTop (mkF m 197 #[.val (.int i0), .val (.int i1), .val (.int i2), .val (.int i3), .val (.int i4), .val (.int i5), .val (.ref rs), .val (.ref ks), .val (.int oa), .val (.int ob), .val (.int od), .val (.int oe), .val (.int (1 : Int32)), .val (.int oq), .val (.int ok), .val (.ref b), .val (.ref cp), .unset, .unset, .unset, .unset, .unset, .unset, .unset, .unset] [(.int oq), (.int oa)]))
    obtain ⟨v35, T35, h35, L35, X35, e35, hQ35, st35⟩ := own_static X34 hx hZ hown (hw _ (List.mem_of_getElem? (i := 92) rfl)) (hw _ (List.mem_of_getElem? (i := 93) rfl)) (hw _ (List.mem_of_getElem? (i := 94) rfl)) (hw _ (List.mem_of_getElem? (i := 95) rfl)) (by decide) (rmHit l Z a0 hw oa oq h34 n0 Z0) e34 (g := (mkF m 197 #[.val (.int i0), .val (.int i1), .val (.int i2), .val (.int i3), .val (.int i4), .val (.int i5), .val (.ref rs), .val (.ref ks), .val (.int oa), .val (.int ob), .val (.int od), .val (.int oe), .val (.int (1 : Int32)), .val (.int oq), .val (.int ok), .val (.ref b), .val (.ref cp), .unset, .unset, .unset, .unset, .unset, .unset, .unset, .unset] [(.int oq), (.int oa)])) rfl (by rw [hml]; rfl) (argsL := [(.int oa), (.int oq)]) (rest := []) (lenOf pd_11 rfl) rfl (W := 0) (by show 2 * 0 + _ ≤ _; exact Nat.le_of_eq rfl) (hb hby at_197) (by decide) (by decide) (by decide) (by decide)
    obtain ⟨rfl, N35q, hh35⟩ := hQ35
    have N35 := Fr.app N34 N35q
    rw [hh35] at e35
    refine own_st st35 ?_
    show Fin1 p e below s (rm0Q Z i0 i1 i2 i3 i4 i5 vaM xM0 xM1 xM2 xM3 vcM vaJ xJ0 xJ1 xJ2 xJ3 vcJ h0 n0) room_1.cells room_1.slots (T35.setTop (mkF m 200 #[.val (.int i0), .val (.int i1), .val (.int i2), .val (.int i3), .val (.int i4), .val (.int i5), .val (.ref rs), .val (.ref ks), .val (.int oa), .val (.int ob), .val (.int od), .val (.int oe), .val (.int (1 : Int32)), .val (.int oq), .val (.int ok), .val (.ref b), .val (.ref cp), .unset, .unset, .unset, .unset, .unset, .unset, .unset, .unset] [(.long (own_hit oq oa))]))
    refine own_st (fun wt wk => XS.iload X35.here hx rfl (hb hby at_200) rfl wk) ?_
    show Fin1 p e below s (rm0Q Z i0 i1 i2 i3 i4 i5 vaM xM0 xM1 xM2 xM3 vcM vaJ xJ0 xJ1 xJ2 xJ3 vcJ h0 n0) room_1.cells room_1.slots (T35.setTop (mkF m 202 #[.val (.int i0), .val (.int i1), .val (.int i2), .val (.int i3), .val (.int i4), .val (.int i5), .val (.ref rs), .val (.ref ks), .val (.int oa), .val (.int ob), .val (.int od), .val (.int oe), .val (.int (1 : Int32)), .val (.int oq), .val (.int ok), .val (.ref b), .val (.ref cp), .unset, .unset, .unset, .unset, .unset, .unset, .unset, .unset] [(.int ob), (.long (own_hit oq oa))]))
    refine own_st (fun wt wk => XS.iload X35.here hx rfl (hb hby at_202) rfl wk) ?_
    show Fin1 p e below s (rm0Q Z i0 i1 i2 i3 i4 i5 vaM xM0 xM1 xM2 xM3 vcM vaJ xJ0 xJ1 xJ2 xJ3 vcJ h0 n0) room_1.cells room_1.slots (T35.setTop (mkF m 204 #[.val (.int i0), .val (.int i1), .val (.int i2), .val (.int i3), .val (.int i4), .val (.int i5), .val (.ref rs), .val (.ref ks), .val (.int oa), .val (.int ob), .val (.int od), .val (.int oe), .val (.int (1 : Int32)), .val (.int oq), .val (.int ok), .val (.ref b), .val (.ref cp), .unset, .unset, .unset, .unset, .unset, .unset, .unset, .unset] [(.int oq), (.int ob), (.long (own_hit oq oa))]))
    obtain ⟨v36, T36, h36, L36, X36, e36, hQ36, st36⟩ := own_static X35 hx hZ hown (hw _ (List.mem_of_getElem? (i := 92) rfl)) (hw _ (List.mem_of_getElem? (i := 93) rfl)) (hw _ (List.mem_of_getElem? (i := 94) rfl)) (hw _ (List.mem_of_getElem? (i := 95) rfl)) (by decide) (rmHit l Z a0 hw ob oq h34 n0 Z0) e35 (g := (mkF m 204 #[.val (.int i0), .val (.int i1), .val (.int i2), .val (.int i3), .val (.int i4), .val (.int i5), .val (.ref rs), .val (.ref ks), .val (.int oa), .val (.int ob), .val (.int od), .val (.int oe), .val (.int (1 : Int32)), .val (.int oq), .val (.int ok), .val (.ref b), .val (.ref cp), .unset, .unset, .unset, .unset, .unset, .unset, .unset, .unset] [(.int oq), (.int ob), (.long (own_hit oq oa))])) rfl (by rw [hml]; rfl) (argsL := [(.int ob), (.int oq)]) (rest := [(.long (own_hit oq oa))]) (lenOf pd_11 rfl) rfl (W := 2) (by show 2 * 0 + _ ≤ _; exact Nat.le_of_eq rfl) (hb hby at_204) (by decide) (by decide) (by decide) (by decide)
    obtain ⟨rfl, N36q, hh36⟩ := hQ36
    have N36 := Fr.app N35 N36q
    rw [hh36] at e36
    refine own_st st36 ?_
    show Fin1 p e below s (rm0Q Z i0 i1 i2 i3 i4 i5 vaM xM0 xM1 xM2 xM3 vcM vaJ xJ0 xJ1 xJ2 xJ3 vcJ h0 n0) room_1.cells room_1.slots (T36.setTop (mkF m 207 #[.val (.int i0), .val (.int i1), .val (.int i2), .val (.int i3), .val (.int i4), .val (.int i5), .val (.ref rs), .val (.ref ks), .val (.int oa), .val (.int ob), .val (.int od), .val (.int oe), .val (.int (1 : Int32)), .val (.int oq), .val (.int ok), .val (.ref b), .val (.ref cp), .unset, .unset, .unset, .unset, .unset, .unset, .unset, .unset] [(.long (own_hit oq ob)), (.long (own_hit oq oa))]))
    refine own_st (fun wt wk => XS.ladd X36.here hx rfl (hb hby at_207) rfl wk) ?_
    show Fin1 p e below s (rm0Q Z i0 i1 i2 i3 i4 i5 vaM xM0 xM1 xM2 xM3 vcM vaJ xJ0 xJ1 xJ2 xJ3 vcJ h0 n0) room_1.cells room_1.slots (T36.setTop (mkF m 208 #[.val (.int i0), .val (.int i1), .val (.int i2), .val (.int i3), .val (.int i4), .val (.int i5), .val (.ref rs), .val (.ref ks), .val (.int oa), .val (.int ob), .val (.int od), .val (.int oe), .val (.int (1 : Int32)), .val (.int oq), .val (.int ok), .val (.ref b), .val (.ref cp), .unset, .unset, .unset, .unset, .unset, .unset, .unset, .unset] [(.long ((own_hit oq oa) + (own_hit oq ob)))]))
    refine own_st (fun wt wk => XS.iload X36.here hx rfl (hb hby at_208) rfl wk) ?_
    show Fin1 p e below s (rm0Q Z i0 i1 i2 i3 i4 i5 vaM xM0 xM1 xM2 xM3 vcM vaJ xJ0 xJ1 xJ2 xJ3 vcJ h0 n0) room_1.cells room_1.slots (T36.setTop (mkF m 210 #[.val (.int i0), .val (.int i1), .val (.int i2), .val (.int i3), .val (.int i4), .val (.int i5), .val (.ref rs), .val (.ref ks), .val (.int oa), .val (.int ob), .val (.int od), .val (.int oe), .val (.int (1 : Int32)), .val (.int oq), .val (.int ok), .val (.ref b), .val (.ref cp), .unset, .unset, .unset, .unset, .unset, .unset, .unset, .unset] [(.int od), (.long ((own_hit oq oa) + (own_hit oq ob)))]))
    refine own_st (fun wt wk => XS.iload X36.here hx rfl (hb hby at_210) rfl wk) ?_
    show Fin1 p e below s (rm0Q Z i0 i1 i2 i3 i4 i5 vaM xM0 xM1 xM2 xM3 vcM vaJ xJ0 xJ1 xJ2 xJ3 vcJ h0 n0) room_1.cells room_1.slots (T36.setTop (mkF m 212 #[.val (.int i0), .val (.int i1), .val (.int i2), .val (.int i3), .val (.int i4), .val (.int i5), .val (.ref rs), .val (.ref ks), .val (.int oa), .val (.int ob), .val (.int od), .val (.int oe), .val (.int (1 : Int32)), .val (.int oq), .val (.int ok), .val (.ref b), .val (.ref cp), .unset, .unset, .unset, .unset, .unset, .unset, .unset, .unset] [(.int oq), (.int od), (.long ((own_hit oq oa) + (own_hit oq ob)))]))
    obtain ⟨v37, T37, h37, L37, X37, e37, hQ37, st37⟩ := own_static X36 hx hZ hown (hw _ (List.mem_of_getElem? (i := 92) rfl)) (hw _ (List.mem_of_getElem? (i := 93) rfl)) (hw _ (List.mem_of_getElem? (i := 94) rfl)) (hw _ (List.mem_of_getElem? (i := 95) rfl)) (by decide) (rmHit l Z a0 hw od oq h34 n0 Z0) e36 (g := (mkF m 212 #[.val (.int i0), .val (.int i1), .val (.int i2), .val (.int i3), .val (.int i4), .val (.int i5), .val (.ref rs), .val (.ref ks), .val (.int oa), .val (.int ob), .val (.int od), .val (.int oe), .val (.int (1 : Int32)), .val (.int oq), .val (.int ok), .val (.ref b), .val (.ref cp), .unset, .unset, .unset, .unset, .unset, .unset, .unset, .unset] [(.int oq), (.int od), (.long ((own_hit oq oa) + (own_hit oq ob)))])) rfl (by rw [hml]; rfl) (argsL := [(.int od), (.int oq)]) (rest := [(.long ((own_hit oq oa) + (own_hit oq ob)))]) (lenOf pd_11 rfl) rfl (W := 2) (by show 2 * 0 + _ ≤ _; exact Nat.le_of_eq rfl) (hb hby at_212) (by decide) (by decide) (by decide) (by decide)
    obtain ⟨rfl, N37q, hh37⟩ := hQ37
    have N37 := Fr.app N36 N37q
    rw [hh37] at e37
    refine own_st st37 ?_
    show Fin1 p e below s (rm0Q Z i0 i1 i2 i3 i4 i5 vaM xM0 xM1 xM2 xM3 vcM vaJ xJ0 xJ1 xJ2 xJ3 vcJ h0 n0) room_1.cells room_1.slots (T37.setTop (mkF m 215 #[.val (.int i0), .val (.int i1), .val (.int i2), .val (.int i3), .val (.int i4), .val (.int i5), .val (.ref rs), .val (.ref ks), .val (.int oa), .val (.int ob), .val (.int od), .val (.int oe), .val (.int (1 : Int32)), .val (.int oq), .val (.int ok), .val (.ref b), .val (.ref cp), .unset, .unset, .unset, .unset, .unset, .unset, .unset, .unset] [(.long (own_hit oq od)), (.long ((own_hit oq oa) + (own_hit oq ob)))]))
    refine own_st (fun wt wk => XS.ladd X37.here hx rfl (hb hby at_215) rfl wk) ?_
    show Fin1 p e below s (rm0Q Z i0 i1 i2 i3 i4 i5 vaM xM0 xM1 xM2 xM3 vcM vaJ xJ0 xJ1 xJ2 xJ3 vcJ h0 n0) room_1.cells room_1.slots (T37.setTop (mkF m 216 #[.val (.int i0), .val (.int i1), .val (.int i2), .val (.int i3), .val (.int i4), .val (.int i5), .val (.ref rs), .val (.ref ks), .val (.int oa), .val (.int ob), .val (.int od), .val (.int oe), .val (.int (1 : Int32)), .val (.int oq), .val (.int ok), .val (.ref b), .val (.ref cp), .unset, .unset, .unset, .unset, .unset, .unset, .unset, .unset] [(.long (((own_hit oq oa) + (own_hit oq ob)) + (own_hit oq od)))]))
    refine own_st (fun wt wk => XS.lstore X37.here hx rfl (hb hby at_216) rfl (l' := #[.val (.int i0), .val (.int i1), .val (.int i2), .val (.int i3), .val (.int i4), .val (.int i5), .val (.ref rs), .val (.ref ks), .val (.int oa), .val (.int ob), .val (.int od), .val (.int oe), .val (.int (1 : Int32)), .val (.int oq), .val (.int ok), .val (.ref b), .val (.ref cp), .val (.long (((own_hit oq oa) + (own_hit oq ob)) + (own_hit oq od))), .second, .unset, .unset, .unset, .unset, .unset, .unset]) rfl wk) ?_
    show Fin1 p e below s (rm0Q Z i0 i1 i2 i3 i4 i5 vaM xM0 xM1 xM2 xM3 vcM vaJ xJ0 xJ1 xJ2 xJ3 vcJ h0 n0) room_1.cells room_1.slots (T37.setTop (mkF m 218 #[.val (.int i0), .val (.int i1), .val (.int i2), .val (.int i3), .val (.int i4), .val (.int i5), .val (.ref rs), .val (.ref ks), .val (.int oa), .val (.int ob), .val (.int od), .val (.int oe), .val (.int (1 : Int32)), .val (.int oq), .val (.int ok), .val (.ref b), .val (.ref cp), .val (.long (((own_hit oq oa) + (own_hit oq ob)) + (own_hit oq od))), .second, .unset, .unset, .unset, .unset, .unset, .unset] []))
    refine own_st (fun wt wk => XS.iload X37.here hx rfl (hb hby at_218) rfl wk) ?_
    show Fin1 p e below s (rm0Q Z i0 i1 i2 i3 i4 i5 vaM xM0 xM1 xM2 xM3 vcM vaJ xJ0 xJ1 xJ2 xJ3 vcJ h0 n0) room_1.cells room_1.slots (T37.setTop (mkF m 220 #[.val (.int i0), .val (.int i1), .val (.int i2), .val (.int i3), .val (.int i4), .val (.int i5), .val (.ref rs), .val (.ref ks), .val (.int oa), .val (.int ob), .val (.int od), .val (.int oe), .val (.int (1 : Int32)), .val (.int oq), .val (.int ok), .val (.ref b), .val (.ref cp), .val (.long (((own_hit oq oa) + (own_hit oq ob)) + (own_hit oq od))), .second, .unset, .unset, .unset, .unset, .unset, .unset] [(.int oe)]))
    refine own_st (fun wt wk => XS.iload X37.here hx rfl (hb hby at_220) rfl wk) ?_
    show Fin1 p e below s (rm0Q Z i0 i1 i2 i3 i4 i5 vaM xM0 xM1 xM2 xM3 vcM vaJ xJ0 xJ1 xJ2 xJ3 vcJ h0 n0) room_1.cells room_1.slots (T37.setTop (mkF m 222 #[.val (.int i0), .val (.int i1), .val (.int i2), .val (.int i3), .val (.int i4), .val (.int i5), .val (.ref rs), .val (.ref ks), .val (.int oa), .val (.int ob), .val (.int od), .val (.int oe), .val (.int (1 : Int32)), .val (.int oq), .val (.int ok), .val (.ref b), .val (.ref cp), .val (.long (((own_hit oq oa) + (own_hit oq ob)) + (own_hit oq od))), .second, .unset, .unset, .unset, .unset, .unset, .unset] [(.int oq), (.int oe)]))
    obtain ⟨v38, T38, h38, L38, X38, e38, hQ38, st38⟩ := own_static X37 hx hZ hown (hw _ (List.mem_of_getElem? (i := 92) rfl)) (hw _ (List.mem_of_getElem? (i := 93) rfl)) (hw _ (List.mem_of_getElem? (i := 94) rfl)) (hw _ (List.mem_of_getElem? (i := 95) rfl)) (by decide) (rmHit l Z a0 hw oe oq h34 n0 Z0) e37 (g := (mkF m 222 #[.val (.int i0), .val (.int i1), .val (.int i2), .val (.int i3), .val (.int i4), .val (.int i5), .val (.ref rs), .val (.ref ks), .val (.int oa), .val (.int ob), .val (.int od), .val (.int oe), .val (.int (1 : Int32)), .val (.int oq), .val (.int ok), .val (.ref b), .val (.ref cp), .val (.long (((own_hit oq oa) + (own_hit oq ob)) + (own_hit oq od))), .second, .unset, .unset, .unset, .unset, .unset, .unset] [(.int oq), (.int oe)])) rfl (by rw [hml]; rfl) (argsL := [(.int oe), (.int oq)]) (rest := []) (lenOf pd_11 rfl) rfl (W := 0) (by show 2 * 0 + _ ≤ _; exact Nat.le_of_eq rfl) (hb hby at_222) (by decide) (by decide) (by decide) (by decide)
    obtain ⟨rfl, N38q, hh38⟩ := hQ38
    have N38 := Fr.app N37 N38q
    rw [hh38] at e38
    refine own_st st38 ?_
    show Fin1 p e below s (rm0Q Z i0 i1 i2 i3 i4 i5 vaM xM0 xM1 xM2 xM3 vcM vaJ xJ0 xJ1 xJ2 xJ3 vcJ h0 n0) room_1.cells room_1.slots (T38.setTop (mkF m 225 #[.val (.int i0), .val (.int i1), .val (.int i2), .val (.int i3), .val (.int i4), .val (.int i5), .val (.ref rs), .val (.ref ks), .val (.int oa), .val (.int ob), .val (.int od), .val (.int oe), .val (.int (1 : Int32)), .val (.int oq), .val (.int ok), .val (.ref b), .val (.ref cp), .val (.long (((own_hit oq oa) + (own_hit oq ob)) + (own_hit oq od))), .second, .unset, .unset, .unset, .unset, .unset, .unset] [(.long (own_hit oq oe))]))
    refine own_st (fun wt wk => XS.lstore X38.here hx rfl (hb hby at_225) rfl (l' := #[.val (.int i0), .val (.int i1), .val (.int i2), .val (.int i3), .val (.int i4), .val (.int i5), .val (.ref rs), .val (.ref ks), .val (.int oa), .val (.int ob), .val (.int od), .val (.int oe), .val (.int (1 : Int32)), .val (.int oq), .val (.int ok), .val (.ref b), .val (.ref cp), .val (.long (((own_hit oq oa) + (own_hit oq ob)) + (own_hit oq od))), .second, .val (.long (own_hit oq oe)), .second, .unset, .unset, .unset, .unset]) rfl wk) ?_
    show Fin1 p e below s (rm0Q Z i0 i1 i2 i3 i4 i5 vaM xM0 xM1 xM2 xM3 vcM vaJ xJ0 xJ1 xJ2 xJ3 vcJ h0 n0) room_1.cells room_1.slots (T38.setTop (mkF m 227 #[.val (.int i0), .val (.int i1), .val (.int i2), .val (.int i3), .val (.int i4), .val (.int i5), .val (.ref rs), .val (.ref ks), .val (.int oa), .val (.int ob), .val (.int od), .val (.int oe), .val (.int (1 : Int32)), .val (.int oq), .val (.int ok), .val (.ref b), .val (.ref cp), .val (.long (((own_hit oq oa) + (own_hit oq ob)) + (own_hit oq od))), .second, .val (.long (own_hit oq oe)), .second, .unset, .unset, .unset, .unset] []))
    refine own_st (fun wt wk => XS.iload X38.here hx rfl (hb hby at_227) rfl wk) ?_
    show Fin1 p e below s (rm0Q Z i0 i1 i2 i3 i4 i5 vaM xM0 xM1 xM2 xM3 vcM vaJ xJ0 xJ1 xJ2 xJ3 vcJ h0 n0) room_1.cells room_1.slots (T38.setTop (mkF m 229 #[.val (.int i0), .val (.int i1), .val (.int i2), .val (.int i3), .val (.int i4), .val (.int i5), .val (.ref rs), .val (.ref ks), .val (.int oa), .val (.int ob), .val (.int od), .val (.int oe), .val (.int (1 : Int32)), .val (.int oq), .val (.int ok), .val (.ref b), .val (.ref cp), .val (.long (((own_hit oq oa) + (own_hit oq ob)) + (own_hit oq od))), .second, .val (.long (own_hit oq oe)), .second, .unset, .unset, .unset, .unset] [(.int (1 : Int32))]))
    refine own_st (fun wt wk => XS.ifNo X38.here hx rfl (hb hby at_229) rfl ((if0 _ _).trans (feq (by decide)).1) wk) ?_
    show Fin1 p e below s (rm0Q Z i0 i1 i2 i3 i4 i5 vaM xM0 xM1 xM2 xM3 vcM vaJ xJ0 xJ1 xJ2 xJ3 vcJ h0 n0) room_1.cells room_1.slots (T38.setTop (mkF m 232 #[.val (.int i0), .val (.int i1), .val (.int i2), .val (.int i3), .val (.int i4), .val (.int i5), .val (.ref rs), .val (.ref ks), .val (.int oa), .val (.int ob), .val (.int od), .val (.int oe), .val (.int (1 : Int32)), .val (.int oq), .val (.int ok), .val (.ref b), .val (.ref cp), .val (.long (((own_hit oq oa) + (own_hit oq ob)) + (own_hit oq od))), .second, .val (.long (own_hit oq oe)), .second, .unset, .unset, .unset, .unset] []))
    refine own_st (fun wt wk => XS.lload X38.here hx rfl (hb hby at_232) rfl wk) ?_
    show Fin1 p e below s (rm0Q Z i0 i1 i2 i3 i4 i5 vaM xM0 xM1 xM2 xM3 vcM vaJ xJ0 xJ1 xJ2 xJ3 vcJ h0 n0) room_1.cells room_1.slots (T38.setTop (mkF m 234 #[.val (.int i0), .val (.int i1), .val (.int i2), .val (.int i3), .val (.int i4), .val (.int i5), .val (.ref rs), .val (.ref ks), .val (.int oa), .val (.int ob), .val (.int od), .val (.int oe), .val (.int (1 : Int32)), .val (.int oq), .val (.int ok), .val (.ref b), .val (.ref cp), .val (.long (((own_hit oq oa) + (own_hit oq ob)) + (own_hit oq od))), .second, .val (.long (own_hit oq oe)), .second, .unset, .unset, .unset, .unset] [(.long (((own_hit oq oa) + (own_hit oq ob)) + (own_hit oq od)))]))
    refine own_st (fun wt wk => XS.lload X38.here hx rfl (hb hby at_234) rfl wk) ?_
    show Fin1 p e below s (rm0Q Z i0 i1 i2 i3 i4 i5 vaM xM0 xM1 xM2 xM3 vcM vaJ xJ0 xJ1 xJ2 xJ3 vcJ h0 n0) room_1.cells room_1.slots (T38.setTop (mkF m 236 #[.val (.int i0), .val (.int i1), .val (.int i2), .val (.int i3), .val (.int i4), .val (.int i5), .val (.ref rs), .val (.ref ks), .val (.int oa), .val (.int ob), .val (.int od), .val (.int oe), .val (.int (1 : Int32)), .val (.int oq), .val (.int ok), .val (.ref b), .val (.ref cp), .val (.long (((own_hit oq oa) + (own_hit oq ob)) + (own_hit oq od))), .second, .val (.long (own_hit oq oe)), .second, .unset, .unset, .unset, .unset] [(.long (own_hit oq oe)), (.long (((own_hit oq oa) + (own_hit oq ob)) + (own_hit oq od)))]))
    refine own_st (fun wt wk => XS.ladd X38.here hx rfl (hb hby at_236) rfl wk) ?_
    show Fin1 p e below s (rm0Q Z i0 i1 i2 i3 i4 i5 vaM xM0 xM1 xM2 xM3 vcM vaJ xJ0 xJ1 xJ2 xJ3 vcJ h0 n0) room_1.cells room_1.slots (T38.setTop (mkF m 237 #[.val (.int i0), .val (.int i1), .val (.int i2), .val (.int i3), .val (.int i4), .val (.int i5), .val (.ref rs), .val (.ref ks), .val (.int oa), .val (.int ob), .val (.int od), .val (.int oe), .val (.int (1 : Int32)), .val (.int oq), .val (.int ok), .val (.ref b), .val (.ref cp), .val (.long (((own_hit oq oa) + (own_hit oq ob)) + (own_hit oq od))), .second, .val (.long (own_hit oq oe)), .second, .unset, .unset, .unset, .unset] [(.long ((((own_hit oq oa) + (own_hit oq ob)) + (own_hit oq od)) + (own_hit oq oe)))]))
    refine own_st (fun wt wk => XS.goto X38.here hx rfl (pc0 := 237) (pc' := 242) rfl (hb hby at_237) (by decide) (by decide) wk) ?_
    show Fin1 p e below s (rm0Q Z i0 i1 i2 i3 i4 i5 vaM xM0 xM1 xM2 xM3 vcM vaJ xJ0 xJ1 xJ2 xJ3 vcJ h0 n0) room_1.cells room_1.slots (T38.setTop (mkF m 242 #[.val (.int i0), .val (.int i1), .val (.int i2), .val (.int i3), .val (.int i4), .val (.int i5), .val (.ref rs), .val (.ref ks), .val (.int oa), .val (.int ob), .val (.int od), .val (.int oe), .val (.int (1 : Int32)), .val (.int oq), .val (.int ok), .val (.ref b), .val (.ref cp), .val (.long (((own_hit oq oa) + (own_hit oq ob)) + (own_hit oq od))), .second, .val (.long (own_hit oq oe)), .second, .unset, .unset, .unset, .unset] [(.long ((((own_hit oq oa) + (own_hit oq ob)) + (own_hit oq od)) + (own_hit oq oe)))]))
    refine own_st (fun wt wk => XS.lstore X38.here hx rfl (hb hby at_242) rfl (l' := #[.val (.int i0), .val (.int i1), .val (.int i2), .val (.int i3), .val (.int i4), .val (.int i5), .val (.ref rs), .val (.ref ks), .val (.int oa), .val (.int ob), .val (.int od), .val (.int oe), .val (.int (1 : Int32)), .val (.int oq), .val (.int ok), .val (.ref b), .val (.ref cp), .val (.long (((own_hit oq oa) + (own_hit oq ob)) + (own_hit oq od))), .second, .val (.long (own_hit oq oe)), .second, .val (.long ((((own_hit oq oa) + (own_hit oq ob)) + (own_hit oq od)) + (own_hit oq oe))), .second, .unset, .unset]) rfl wk) ?_
    show Fin1 p e below s (rm0Q Z i0 i1 i2 i3 i4 i5 vaM xM0 xM1 xM2 xM3 vcM vaJ xJ0 xJ1 xJ2 xJ3 vcJ h0 n0) room_1.cells room_1.slots (T38.setTop (mkF m 244 #[.val (.int i0), .val (.int i1), .val (.int i2), .val (.int i3), .val (.int i4), .val (.int i5), .val (.ref rs), .val (.ref ks), .val (.int oa), .val (.int ob), .val (.int od), .val (.int oe), .val (.int (1 : Int32)), .val (.int oq), .val (.int ok), .val (.ref b), .val (.ref cp), .val (.long (((own_hit oq oa) + (own_hit oq ob)) + (own_hit oq od))), .second, .val (.long (own_hit oq oe)), .second, .val (.long ((((own_hit oq oa) + (own_hit oq ob)) + (own_hit oq od)) + (own_hit oq oe))), .second, .unset, .unset] []))
    refine own_st (fun wt wk => XS.iload X38.here hx rfl (hb hby at_244) rfl wk) ?_
    show Fin1 p e below s (rm0Q Z i0 i1 i2 i3 i4 i5 vaM xM0 xM1 xM2 xM3 vcM vaJ xJ0 xJ1 xJ2 xJ3 vcJ h0 n0) room_1.cells room_1.slots (T38.setTop (mkF m 246 #[.val (.int i0), .val (.int i1), .val (.int i2), .val (.int i3), .val (.int i4), .val (.int i5), .val (.ref rs), .val (.ref ks), .val (.int oa), .val (.int ob), .val (.int od), .val (.int oe), .val (.int (1 : Int32)), .val (.int oq), .val (.int ok), .val (.ref b), .val (.ref cp), .val (.long (((own_hit oq oa) + (own_hit oq ob)) + (own_hit oq od))), .second, .val (.long (own_hit oq oe)), .second, .val (.long ((((own_hit oq oa) + (own_hit oq ob)) + (own_hit oq od)) + (own_hit oq oe))), .second, .unset, .unset] [(.int (1 : Int32))]))
    refine own_st (fun wt wk => XS.ifNo X38.here hx rfl (hb hby at_246) rfl ((if0 _ _).trans (feq (by decide)).1) wk) ?_
    show Fin1 p e below s (rm0Q Z i0 i1 i2 i3 i4 i5 vaM xM0 xM1 xM2 xM3 vcM vaJ xJ0 xJ1 xJ2 xJ3 vcJ h0 n0) room_1.cells room_1.slots (T38.setTop (mkF m 249 #[.val (.int i0), .val (.int i1), .val (.int i2), .val (.int i3), .val (.int i4), .val (.int i5), .val (.ref rs), .val (.ref ks), .val (.int oa), .val (.int ob), .val (.int od), .val (.int oe), .val (.int (1 : Int32)), .val (.int oq), .val (.int ok), .val (.ref b), .val (.ref cp), .val (.long (((own_hit oq oa) + (own_hit oq ob)) + (own_hit oq od))), .second, .val (.long (own_hit oq oe)), .second, .val (.long ((((own_hit oq oa) + (own_hit oq ob)) + (own_hit oq od)) + (own_hit oq oe))), .second, .unset, .unset] []))
    refine own_st (fun wt wk => XS.lload X38.here hx rfl (hb hby at_249) rfl wk) ?_
    show Fin1 p e below s (rm0Q Z i0 i1 i2 i3 i4 i5 vaM xM0 xM1 xM2 xM3 vcM vaJ xJ0 xJ1 xJ2 xJ3 vcJ h0 n0) room_1.cells room_1.slots (T38.setTop (mkF m 251 #[.val (.int i0), .val (.int i1), .val (.int i2), .val (.int i3), .val (.int i4), .val (.int i5), .val (.ref rs), .val (.ref ks), .val (.int oa), .val (.int ob), .val (.int od), .val (.int oe), .val (.int (1 : Int32)), .val (.int oq), .val (.int ok), .val (.ref b), .val (.ref cp), .val (.long (((own_hit oq oa) + (own_hit oq ob)) + (own_hit oq od))), .second, .val (.long (own_hit oq oe)), .second, .val (.long ((((own_hit oq oa) + (own_hit oq ob)) + (own_hit oq od)) + (own_hit oq oe))), .second, .unset, .unset] [(.long (((own_hit oq oa) + (own_hit oq ob)) + (own_hit oq od)))]))
    refine own_st (fun wt wk => XS.goto X38.here hx rfl (pc0 := 251) (pc' := 259) rfl (hb hby at_251) (by decide) (by decide) wk) ?_
    show Fin1 p e below s (rm0Q Z i0 i1 i2 i3 i4 i5 vaM xM0 xM1 xM2 xM3 vcM vaJ xJ0 xJ1 xJ2 xJ3 vcJ h0 n0) room_1.cells room_1.slots (T38.setTop (mkF m 259 #[.val (.int i0), .val (.int i1), .val (.int i2), .val (.int i3), .val (.int i4), .val (.int i5), .val (.ref rs), .val (.ref ks), .val (.int oa), .val (.int ob), .val (.int od), .val (.int oe), .val (.int (1 : Int32)), .val (.int oq), .val (.int ok), .val (.ref b), .val (.ref cp), .val (.long (((own_hit oq oa) + (own_hit oq ob)) + (own_hit oq od))), .second, .val (.long (own_hit oq oe)), .second, .val (.long ((((own_hit oq oa) + (own_hit oq ob)) + (own_hit oq od)) + (own_hit oq oe))), .second, .unset, .unset] [(.long (((own_hit oq oa) + (own_hit oq ob)) + (own_hit oq od)))]))
    refine own_st (fun wt wk => XS.lstore X38.here hx rfl (hb hby at_259) rfl (l' := #[.val (.int i0), .val (.int i1), .val (.int i2), .val (.int i3), .val (.int i4), .val (.int i5), .val (.ref rs), .val (.ref ks), .val (.int oa), .val (.int ob), .val (.int od), .val (.int oe), .val (.int (1 : Int32)), .val (.int oq), .val (.int ok), .val (.ref b), .val (.ref cp), .val (.long (((own_hit oq oa) + (own_hit oq ob)) + (own_hit oq od))), .second, .val (.long (own_hit oq oe)), .second, .val (.long ((((own_hit oq oa) + (own_hit oq ob)) + (own_hit oq od)) + (own_hit oq oe))), .second, .val (.long (((own_hit oq oa) + (own_hit oq ob)) + (own_hit oq od))), .second]) rfl wk) ?_
    show Fin1 p e below s (rm0Q Z i0 i1 i2 i3 i4 i5 vaM xM0 xM1 xM2 xM3 vcM vaJ xJ0 xJ1 xJ2 xJ3 vcJ h0 n0) room_1.cells room_1.slots (T38.setTop (mkF m 261 #[.val (.int i0), .val (.int i1), .val (.int i2), .val (.int i3), .val (.int i4), .val (.int i5), .val (.ref rs), .val (.ref ks), .val (.int oa), .val (.int ob), .val (.int od), .val (.int oe), .val (.int (1 : Int32)), .val (.int oq), .val (.int ok), .val (.ref b), .val (.ref cp), .val (.long (((own_hit oq oa) + (own_hit oq ob)) + (own_hit oq od))), .second, .val (.long (own_hit oq oe)), .second, .val (.long ((((own_hit oq oa) + (own_hit oq ob)) + (own_hit oq od)) + (own_hit oq oe))), .second, .val (.long (((own_hit oq oa) + (own_hit oq ob)) + (own_hit oq od))), .second] []))
    refine own_st (fun wt wk => XS.aload X38.here hx rfl (hb hby at_261) rfl rfl wk) ?_
    show Fin1 p e below s (rm0Q Z i0 i1 i2 i3 i4 i5 vaM xM0 xM1 xM2 xM3 vcM vaJ xJ0 xJ1 xJ2 xJ3 vcJ h0 n0) room_1.cells room_1.slots (T38.setTop (mkF m 263 #[.val (.int i0), .val (.int i1), .val (.int i2), .val (.int i3), .val (.int i4), .val (.int i5), .val (.ref rs), .val (.ref ks), .val (.int oa), .val (.int ob), .val (.int od), .val (.int oe), .val (.int (1 : Int32)), .val (.int oq), .val (.int ok), .val (.ref b), .val (.ref cp), .val (.long (((own_hit oq oa) + (own_hit oq ob)) + (own_hit oq od))), .second, .val (.long (own_hit oq oe)), .second, .val (.long ((((own_hit oq oa) + (own_hit oq ob)) + (own_hit oq od)) + (own_hit oq oe))), .second, .val (.long (((own_hit oq oa) + (own_hit oq ob)) + (own_hit oq od))), .second] [(.ref cp)]))
    refine own_st (fun wt wk => XS.aload X38.here hx rfl (hb hby at_263) rfl rfl wk) ?_
    show Fin1 p e below s (rm0Q Z i0 i1 i2 i3 i4 i5 vaM xM0 xM1 xM2 xM3 vcM vaJ xJ0 xJ1 xJ2 xJ3 vcJ h0 n0) room_1.cells room_1.slots (T38.setTop (mkF m 265 #[.val (.int i0), .val (.int i1), .val (.int i2), .val (.int i3), .val (.int i4), .val (.int i5), .val (.ref rs), .val (.ref ks), .val (.int oa), .val (.int ob), .val (.int od), .val (.int oe), .val (.int (1 : Int32)), .val (.int oq), .val (.int ok), .val (.ref b), .val (.ref cp), .val (.long (((own_hit oq oa) + (own_hit oq ob)) + (own_hit oq od))), .second, .val (.long (own_hit oq oe)), .second, .val (.long ((((own_hit oq oa) + (own_hit oq ob)) + (own_hit oq od)) + (own_hit oq oe))), .second, .val (.long (((own_hit oq oa) + (own_hit oq ob)) + (own_hit oq od))), .second] [(.ref rs), (.ref cp)]))
    refine own_st (fun wt wk => XS.iload X38.here hx rfl (hb hby at_265) rfl wk) ?_
    show Fin1 p e below s (rm0Q Z i0 i1 i2 i3 i4 i5 vaM xM0 xM1 xM2 xM3 vcM vaJ xJ0 xJ1 xJ2 xJ3 vcJ h0 n0) room_1.cells room_1.slots (T38.setTop (mkF m 267 #[.val (.int i0), .val (.int i1), .val (.int i2), .val (.int i3), .val (.int i4), .val (.int i5), .val (.ref rs), .val (.ref ks), .val (.int oa), .val (.int ob), .val (.int od), .val (.int oe), .val (.int (1 : Int32)), .val (.int oq), .val (.int ok), .val (.ref b), .val (.ref cp), .val (.long (((own_hit oq oa) + (own_hit oq ob)) + (own_hit oq od))), .second, .val (.long (own_hit oq oe)), .second, .val (.long ((((own_hit oq oa) + (own_hit oq ob)) + (own_hit oq od)) + (own_hit oq oe))), .second, .val (.long (((own_hit oq oa) + (own_hit oq ob)) + (own_hit oq od))), .second] [(.int oq), (.ref rs), (.ref cp)]))
    obtain ⟨rqu2, hv_rqu2, Q_rqu2, O_rqu2⟩ := own_selJ EJ oq hoq
    refine own_st (own_ld (j := oq) (v := (.ref rqu2)) X38 hx hZ e38 V_rs hoq hv_rqu2 (g := (mkF m 267 #[.val (.int i0), .val (.int i1), .val (.int i2), .val (.int i3), .val (.int i4), .val (.int i5), .val (.ref rs), .val (.ref ks), .val (.int oa), .val (.int ob), .val (.int od), .val (.int oe), .val (.int (1 : Int32)), .val (.int oq), .val (.int ok), .val (.ref b), .val (.ref cp), .val (.long (((own_hit oq oa) + (own_hit oq ob)) + (own_hit oq od))), .second, .val (.long (own_hit oq oe)), .second, .val (.long ((((own_hit oq oa) + (own_hit oq ob)) + (own_hit oq od)) + (own_hit oq oe))), .second, .val (.long (((own_hit oq oa) + (own_hit oq ob)) + (own_hit oq od))), .second] [(.int oq), (.ref rs), (.ref cp)])) rfl rfl (Or.inr (Or.inr ⟨rfl, rfl⟩)) (hb hby at_267)) ?_
    show Fin1 p e below s (rm0Q Z i0 i1 i2 i3 i4 i5 vaM xM0 xM1 xM2 xM3 vcM vaJ xJ0 xJ1 xJ2 xJ3 vcJ h0 n0) room_1.cells room_1.slots (T38.setTop (mkF m 268 #[.val (.int i0), .val (.int i1), .val (.int i2), .val (.int i3), .val (.int i4), .val (.int i5), .val (.ref rs), .val (.ref ks), .val (.int oa), .val (.int ob), .val (.int od), .val (.int oe), .val (.int (1 : Int32)), .val (.int oq), .val (.int ok), .val (.ref b), .val (.ref cp), .val (.long (((own_hit oq oa) + (own_hit oq ob)) + (own_hit oq od))), .second, .val (.long (own_hit oq oe)), .second, .val (.long ((((own_hit oq oa) + (own_hit oq ob)) + (own_hit oq od)) + (own_hit oq oe))), .second, .val (.long (((own_hit oq oa) + (own_hit oq ob)) + (own_hit oq od))), .second] [(.ref rqu2), (.ref cp)]))
    obtain ⟨v39, T39, h39, L39, X39, e39, hQ39, st39⟩ := own_virtual X38 hx hZ hown (hw _ (List.mem_of_getElem? (i := 96) rfl)) (hw _ (List.mem_of_getElem? (i := 97) rfl)) (hw _ (List.mem_of_getElem? (i := 99) rfl)) (hw _ (List.mem_of_getElem? (i := 98) rfl)) (hw _ (List.mem_of_getElem? (i := 100) rfl)) (hw _ (List.mem_of_getElem? (i := 26) rfl)) (by decide) (a := cp) E_cp (rm_getRejected l Z a0 hw cp rqu2 oq u2 j2 [(.long (((((0 : Int64) + own_hit (0 : Int32) oa) + own_hit (0 : Int32) ob) + own_hit (0 : Int32) od) + own_hit (0 : Int32) oe)), (.long (((((0 : Int64) + own_hit (1 : Int32) oa) + own_hit (1 : Int32) ob) + own_hit (1 : Int32) od) + own_hit (1 : Int32) oe)), (.long (((((0 : Int64) + own_hit (2 : Int32) oa) + own_hit (2 : Int32) ob) + own_hit (2 : Int32) od) + own_hit (2 : Int32) oe)), (.long (((((0 : Int64) + own_hit (3 : Int32) oa) + own_hit (3 : Int32) ob) + own_hit (3 : Int32) od) + own_hit (3 : Int32) oe))] (((((0 : Int64) + own_hit oq oa) + own_hit oq ob) + own_hit oq od) + own_hit oq oe) h34 n0 Z0 hoq G2 (Q_rqu2.ext O.2) (O_rqu2.ext O.2) V_u2 (own_getf (fun i => (((((0 : Int64) + own_hit i oa) + own_hit i ob) + own_hit i od) + own_hit i oe)) oq hoq)) e38 (g := (mkF m 268 #[.val (.int i0), .val (.int i1), .val (.int i2), .val (.int i3), .val (.int i4), .val (.int i5), .val (.ref rs), .val (.ref ks), .val (.int oa), .val (.int ob), .val (.int od), .val (.int oe), .val (.int (1 : Int32)), .val (.int oq), .val (.int ok), .val (.ref b), .val (.ref cp), .val (.long (((own_hit oq oa) + (own_hit oq ob)) + (own_hit oq od))), .second, .val (.long (own_hit oq oe)), .second, .val (.long ((((own_hit oq oa) + (own_hit oq ob)) + (own_hit oq od)) + (own_hit oq oe))), .second, .val (.long (((own_hit oq oa) + (own_hit oq ob)) + (own_hit oq od))), .second] [(.ref rqu2), (.ref cp)])) rfl (by rw [hml]; rfl) (argsL := [(.ref rqu2)]) (rest := []) (lenOf pd_12 rfl) rfl (W := 0) (by show 2 * 0 + _ ≤ _; exact Nat.le_of_eq rfl) (hb hby at_268) (by decide) (by decide) (by decide) (by decide)
    obtain ⟨rfl, N39q, hh39⟩ := hQ39
    have N39 := Fr.app N38 N39q
    rw [hh39] at e39
    refine own_st st39 ?_
    show Fin1 p e below s (rm0Q Z i0 i1 i2 i3 i4 i5 vaM xM0 xM1 xM2 xM3 vcM vaJ xJ0 xJ1 xJ2 xJ3 vcJ h0 n0) room_1.cells room_1.slots (T39.setTop (mkF m 271 #[.val (.int i0), .val (.int i1), .val (.int i2), .val (.int i3), .val (.int i4), .val (.int i5), .val (.ref rs), .val (.ref ks), .val (.int oa), .val (.int ob), .val (.int od), .val (.int oe), .val (.int (1 : Int32)), .val (.int oq), .val (.int ok), .val (.ref b), .val (.ref cp), .val (.long (((own_hit oq oa) + (own_hit oq ob)) + (own_hit oq od))), .second, .val (.long (own_hit oq oe)), .second, .val (.long ((((own_hit oq oa) + (own_hit oq ob)) + (own_hit oq od)) + (own_hit oq oe))), .second, .val (.long (((own_hit oq oa) + (own_hit oq ob)) + (own_hit oq od))), .second] [(.long (((((0 : Int64) + own_hit oq oa) + own_hit oq ob) + own_hit oq od) + own_hit oq oe))]))
    refine own_st (fun wt wk => XS.lload X39.here hx rfl (hb hby at_271) rfl wk) ?_
    show Fin1 p e below s (rm0Q Z i0 i1 i2 i3 i4 i5 vaM xM0 xM1 xM2 xM3 vcM vaJ xJ0 xJ1 xJ2 xJ3 vcJ h0 n0) room_1.cells room_1.slots (T39.setTop (mkF m 273 #[.val (.int i0), .val (.int i1), .val (.int i2), .val (.int i3), .val (.int i4), .val (.int i5), .val (.ref rs), .val (.ref ks), .val (.int oa), .val (.int ob), .val (.int od), .val (.int oe), .val (.int (1 : Int32)), .val (.int oq), .val (.int ok), .val (.ref b), .val (.ref cp), .val (.long (((own_hit oq oa) + (own_hit oq ob)) + (own_hit oq od))), .second, .val (.long (own_hit oq oe)), .second, .val (.long ((((own_hit oq oa) + (own_hit oq ob)) + (own_hit oq od)) + (own_hit oq oe))), .second, .val (.long (((own_hit oq oa) + (own_hit oq ob)) + (own_hit oq od))), .second] [(.long ((((own_hit oq oa) + (own_hit oq ob)) + (own_hit oq od)) + (own_hit oq oe))), (.long (((((0 : Int64) + own_hit oq oa) + own_hit oq ob) + own_hit oq od) + own_hit oq oe))]))
    refine own_st (fun wt wk => XS.lcmp X39.here hx rfl (hb hby at_273) rfl wk) ?_
    show Fin1 p e below s (rm0Q Z i0 i1 i2 i3 i4 i5 vaM xM0 xM1 xM2 xM3 vcM vaJ xJ0 xJ1 xJ2 xJ3 vcJ h0 n0) room_1.cells room_1.slots (T39.setTop (mkF m 274 #[.val (.int i0), .val (.int i1), .val (.int i2), .val (.int i3), .val (.int i4), .val (.int i5), .val (.ref rs), .val (.ref ks), .val (.int oa), .val (.int ob), .val (.int od), .val (.int oe), .val (.int (1 : Int32)), .val (.int oq), .val (.int ok), .val (.ref b), .val (.ref cp), .val (.long (((own_hit oq oa) + (own_hit oq ob)) + (own_hit oq od))), .second, .val (.long (own_hit oq oe)), .second, .val (.long ((((own_hit oq oa) + (own_hit oq ob)) + (own_hit oq od)) + (own_hit oq oe))), .second, .val (.long (((own_hit oq oa) + (own_hit oq ob)) + (own_hit oq od))), .second] [(.int (lcmpW (((((0 : Int64) + own_hit oq oa) + own_hit oq ob) + own_hit oq od) + own_hit oq oe) ((((own_hit oq oa) + (own_hit oq ob)) + (own_hit oq od)) + (own_hit oq oe))))]))
    refine own_st (fun wt wk => XS.ifNo X39.here hx rfl (hb hby at_274) rfl ((if0 _ _).trans (teq ((lw_eq _ _).mpr (by simp) : (lcmpW (((((0 : Int64) + own_hit oq oa) + own_hit oq ob) + own_hit oq od) + own_hit oq oe) ((((own_hit oq oa) + (own_hit oq ob)) + (own_hit oq od)) + (own_hit oq oe))) = (0 : Int32))).2) wk) ?_
    show Fin1 p e below s (rm0Q Z i0 i1 i2 i3 i4 i5 vaM xM0 xM1 xM2 xM3 vcM vaJ xJ0 xJ1 xJ2 xJ3 vcJ h0 n0) room_1.cells room_1.slots (T39.setTop (mkF m 277 #[.val (.int i0), .val (.int i1), .val (.int i2), .val (.int i3), .val (.int i4), .val (.int i5), .val (.ref rs), .val (.ref ks), .val (.int oa), .val (.int ob), .val (.int od), .val (.int oe), .val (.int (1 : Int32)), .val (.int oq), .val (.int ok), .val (.ref b), .val (.ref cp), .val (.long (((own_hit oq oa) + (own_hit oq ob)) + (own_hit oq od))), .second, .val (.long (own_hit oq oe)), .second, .val (.long ((((own_hit oq oa) + (own_hit oq ob)) + (own_hit oq od)) + (own_hit oq oe))), .second, .val (.long (((own_hit oq oa) + (own_hit oq ob)) + (own_hit oq od))), .second] []))
    refine own_st (fun wt wk => XS.aload X39.here hx rfl (hb hby at_277) rfl rfl wk) ?_
    show Fin1 p e below s (rm0Q Z i0 i1 i2 i3 i4 i5 vaM xM0 xM1 xM2 xM3 vcM vaJ xJ0 xJ1 xJ2 xJ3 vcJ h0 n0) room_1.cells room_1.slots (T39.setTop (mkF m 279 #[.val (.int i0), .val (.int i1), .val (.int i2), .val (.int i3), .val (.int i4), .val (.int i5), .val (.ref rs), .val (.ref ks), .val (.int oa), .val (.int ob), .val (.int od), .val (.int oe), .val (.int (1 : Int32)), .val (.int oq), .val (.int ok), .val (.ref b), .val (.ref cp), .val (.long (((own_hit oq oa) + (own_hit oq ob)) + (own_hit oq od))), .second, .val (.long (own_hit oq oe)), .second, .val (.long ((((own_hit oq oa) + (own_hit oq ob)) + (own_hit oq od)) + (own_hit oq oe))), .second, .val (.long (((own_hit oq oa) + (own_hit oq ob)) + (own_hit oq od))), .second] [(.ref b)]))
    refine own_st (fun wt wk => XS.aload X39.here hx rfl (hb hby at_279) rfl rfl wk) ?_
    show Fin1 p e below s (rm0Q Z i0 i1 i2 i3 i4 i5 vaM xM0 xM1 xM2 xM3 vcM vaJ xJ0 xJ1 xJ2 xJ3 vcJ h0 n0) room_1.cells room_1.slots (T39.setTop (mkF m 281 #[.val (.int i0), .val (.int i1), .val (.int i2), .val (.int i3), .val (.int i4), .val (.int i5), .val (.ref rs), .val (.ref ks), .val (.int oa), .val (.int ob), .val (.int od), .val (.int oe), .val (.int (1 : Int32)), .val (.int oq), .val (.int ok), .val (.ref b), .val (.ref cp), .val (.long (((own_hit oq oa) + (own_hit oq ob)) + (own_hit oq od))), .second, .val (.long (own_hit oq oe)), .second, .val (.long ((((own_hit oq oa) + (own_hit oq ob)) + (own_hit oq od)) + (own_hit oq oe))), .second, .val (.long (((own_hit oq oa) + (own_hit oq ob)) + (own_hit oq od))), .second] [(.ref rs), (.ref b)]))
    refine own_st (fun wt wk => XS.iload X39.here hx rfl (hb hby at_281) rfl wk) ?_
    show Fin1 p e below s (rm0Q Z i0 i1 i2 i3 i4 i5 vaM xM0 xM1 xM2 xM3 vcM vaJ xJ0 xJ1 xJ2 xJ3 vcJ h0 n0) room_1.cells room_1.slots (T39.setTop (mkF m 283 #[.val (.int i0), .val (.int i1), .val (.int i2), .val (.int i3), .val (.int i4), .val (.int i5), .val (.ref rs), .val (.ref ks), .val (.int oa), .val (.int ob), .val (.int od), .val (.int oe), .val (.int (1 : Int32)), .val (.int oq), .val (.int ok), .val (.ref b), .val (.ref cp), .val (.long (((own_hit oq oa) + (own_hit oq ob)) + (own_hit oq od))), .second, .val (.long (own_hit oq oe)), .second, .val (.long ((((own_hit oq oa) + (own_hit oq ob)) + (own_hit oq od)) + (own_hit oq oe))), .second, .val (.long (((own_hit oq oa) + (own_hit oq ob)) + (own_hit oq od))), .second] [(.int oq), (.ref rs), (.ref b)]))
    obtain ⟨rqt2, hv_rqt2, Q_rqt2, O_rqt2⟩ := own_selJ EJ oq hoq
    refine own_st (own_ld (j := oq) (v := (.ref rqt2)) X39 hx hZ e39 V_rs hoq hv_rqt2 (g := (mkF m 283 #[.val (.int i0), .val (.int i1), .val (.int i2), .val (.int i3), .val (.int i4), .val (.int i5), .val (.ref rs), .val (.ref ks), .val (.int oa), .val (.int ob), .val (.int od), .val (.int oe), .val (.int (1 : Int32)), .val (.int oq), .val (.int ok), .val (.ref b), .val (.ref cp), .val (.long (((own_hit oq oa) + (own_hit oq ob)) + (own_hit oq od))), .second, .val (.long (own_hit oq oe)), .second, .val (.long ((((own_hit oq oa) + (own_hit oq ob)) + (own_hit oq od)) + (own_hit oq oe))), .second, .val (.long (((own_hit oq oa) + (own_hit oq ob)) + (own_hit oq od))), .second] [(.int oq), (.ref rs), (.ref b)])) rfl rfl (Or.inr (Or.inr ⟨rfl, rfl⟩)) (hb hby at_283)) ?_
    show Fin1 p e below s (rm0Q Z i0 i1 i2 i3 i4 i5 vaM xM0 xM1 xM2 xM3 vcM vaJ xJ0 xJ1 xJ2 xJ3 vcJ h0 n0) room_1.cells room_1.slots (T39.setTop (mkF m 284 #[.val (.int i0), .val (.int i1), .val (.int i2), .val (.int i3), .val (.int i4), .val (.int i5), .val (.ref rs), .val (.ref ks), .val (.int oa), .val (.int ob), .val (.int od), .val (.int oe), .val (.int (1 : Int32)), .val (.int oq), .val (.int ok), .val (.ref b), .val (.ref cp), .val (.long (((own_hit oq oa) + (own_hit oq ob)) + (own_hit oq od))), .second, .val (.long (own_hit oq oe)), .second, .val (.long ((((own_hit oq oa) + (own_hit oq ob)) + (own_hit oq od)) + (own_hit oq oe))), .second, .val (.long (((own_hit oq oa) + (own_hit oq ob)) + (own_hit oq od))), .second] [(.ref rqt2), (.ref b)]))
    obtain ⟨v40, T40, h40, L40, X40, e40, hQ40, st40⟩ := own_virtual X39 hx hZ hown (hw _ (List.mem_of_getElem? (i := 96) rfl)) (hw _ (List.mem_of_getElem? (i := 97) rfl)) (hw _ (List.mem_of_getElem? (i := 99) rfl)) (hw _ (List.mem_of_getElem? (i := 98) rfl)) (hw _ (List.mem_of_getElem? (i := 100) rfl)) (hw _ (List.mem_of_getElem? (i := 26) rfl)) (by decide) (a := b) E_b (rm_getRejected l Z a0 hw b rqt2 oq t2 k2 [(.long ((((0 : Int64) + own_hit (0 : Int32) oa) + own_hit (0 : Int32) ob) + own_hit (0 : Int32) od)), (.long ((((0 : Int64) + own_hit (1 : Int32) oa) + own_hit (1 : Int32) ob) + own_hit (1 : Int32) od)), (.long ((((0 : Int64) + own_hit (2 : Int32) oa) + own_hit (2 : Int32) ob) + own_hit (2 : Int32) od)), (.long ((((0 : Int64) + own_hit (3 : Int32) oa) + own_hit (3 : Int32) ob) + own_hit (3 : Int32) od))] ((((0 : Int64) + own_hit oq oa) + own_hit oq ob) + own_hit oq od) h34 n0 Z0 hoq F2 (Q_rqt2.ext O.2) (O_rqt2.ext O.2) V_t2 (own_getf (fun i => ((((0 : Int64) + own_hit i oa) + own_hit i ob) + own_hit i od)) oq hoq)) e39 (g := (mkF m 284 #[.val (.int i0), .val (.int i1), .val (.int i2), .val (.int i3), .val (.int i4), .val (.int i5), .val (.ref rs), .val (.ref ks), .val (.int oa), .val (.int ob), .val (.int od), .val (.int oe), .val (.int (1 : Int32)), .val (.int oq), .val (.int ok), .val (.ref b), .val (.ref cp), .val (.long (((own_hit oq oa) + (own_hit oq ob)) + (own_hit oq od))), .second, .val (.long (own_hit oq oe)), .second, .val (.long ((((own_hit oq oa) + (own_hit oq ob)) + (own_hit oq od)) + (own_hit oq oe))), .second, .val (.long (((own_hit oq oa) + (own_hit oq ob)) + (own_hit oq od))), .second] [(.ref rqt2), (.ref b)])) rfl (by rw [hml]; rfl) (argsL := [(.ref rqt2)]) (rest := []) (lenOf pd_12 rfl) rfl (W := 0) (by show 2 * 0 + _ ≤ _; exact Nat.le_of_eq rfl) (hb hby at_284) (by decide) (by decide) (by decide) (by decide)
    obtain ⟨rfl, N40q, hh40⟩ := hQ40
    have N40 := Fr.app N39 N40q
    rw [hh40] at e40
    refine own_st st40 ?_
    show Fin1 p e below s (rm0Q Z i0 i1 i2 i3 i4 i5 vaM xM0 xM1 xM2 xM3 vcM vaJ xJ0 xJ1 xJ2 xJ3 vcJ h0 n0) room_1.cells room_1.slots (T40.setTop (mkF m 287 #[.val (.int i0), .val (.int i1), .val (.int i2), .val (.int i3), .val (.int i4), .val (.int i5), .val (.ref rs), .val (.ref ks), .val (.int oa), .val (.int ob), .val (.int od), .val (.int oe), .val (.int (1 : Int32)), .val (.int oq), .val (.int ok), .val (.ref b), .val (.ref cp), .val (.long (((own_hit oq oa) + (own_hit oq ob)) + (own_hit oq od))), .second, .val (.long (own_hit oq oe)), .second, .val (.long ((((own_hit oq oa) + (own_hit oq ob)) + (own_hit oq od)) + (own_hit oq oe))), .second, .val (.long (((own_hit oq oa) + (own_hit oq ob)) + (own_hit oq od))), .second] [(.long ((((0 : Int64) + own_hit oq oa) + own_hit oq ob) + own_hit oq od))]))
    refine own_st (fun wt wk => XS.lload X40.here hx rfl (hb hby at_287) rfl wk) ?_
    show Fin1 p e below s (rm0Q Z i0 i1 i2 i3 i4 i5 vaM xM0 xM1 xM2 xM3 vcM vaJ xJ0 xJ1 xJ2 xJ3 vcJ h0 n0) room_1.cells room_1.slots (T40.setTop (mkF m 289 #[.val (.int i0), .val (.int i1), .val (.int i2), .val (.int i3), .val (.int i4), .val (.int i5), .val (.ref rs), .val (.ref ks), .val (.int oa), .val (.int ob), .val (.int od), .val (.int oe), .val (.int (1 : Int32)), .val (.int oq), .val (.int ok), .val (.ref b), .val (.ref cp), .val (.long (((own_hit oq oa) + (own_hit oq ob)) + (own_hit oq od))), .second, .val (.long (own_hit oq oe)), .second, .val (.long ((((own_hit oq oa) + (own_hit oq ob)) + (own_hit oq od)) + (own_hit oq oe))), .second, .val (.long (((own_hit oq oa) + (own_hit oq ob)) + (own_hit oq od))), .second] [(.long (((own_hit oq oa) + (own_hit oq ob)) + (own_hit oq od))), (.long ((((0 : Int64) + own_hit oq oa) + own_hit oq ob) + own_hit oq od))]))
    refine own_st (fun wt wk => XS.lcmp X40.here hx rfl (hb hby at_289) rfl wk) ?_
    show Fin1 p e below s (rm0Q Z i0 i1 i2 i3 i4 i5 vaM xM0 xM1 xM2 xM3 vcM vaJ xJ0 xJ1 xJ2 xJ3 vcJ h0 n0) room_1.cells room_1.slots (T40.setTop (mkF m 290 #[.val (.int i0), .val (.int i1), .val (.int i2), .val (.int i3), .val (.int i4), .val (.int i5), .val (.ref rs), .val (.ref ks), .val (.int oa), .val (.int ob), .val (.int od), .val (.int oe), .val (.int (1 : Int32)), .val (.int oq), .val (.int ok), .val (.ref b), .val (.ref cp), .val (.long (((own_hit oq oa) + (own_hit oq ob)) + (own_hit oq od))), .second, .val (.long (own_hit oq oe)), .second, .val (.long ((((own_hit oq oa) + (own_hit oq ob)) + (own_hit oq od)) + (own_hit oq oe))), .second, .val (.long (((own_hit oq oa) + (own_hit oq ob)) + (own_hit oq od))), .second] [(.int (lcmpW ((((0 : Int64) + own_hit oq oa) + own_hit oq ob) + own_hit oq od) (((own_hit oq oa) + (own_hit oq ob)) + (own_hit oq od))))]))
    refine own_st (fun wt wk => XS.ifNo X40.here hx rfl (hb hby at_290) rfl ((if0 _ _).trans (teq ((lw_eq _ _).mpr (by simp) : (lcmpW ((((0 : Int64) + own_hit oq oa) + own_hit oq ob) + own_hit oq od) (((own_hit oq oa) + (own_hit oq ob)) + (own_hit oq od))) = (0 : Int32))).2) wk) ?_
    show Fin1 p e below s (rm0Q Z i0 i1 i2 i3 i4 i5 vaM xM0 xM1 xM2 xM3 vcM vaJ xJ0 xJ1 xJ2 xJ3 vcJ h0 n0) room_1.cells room_1.slots (T40.setTop (mkF m 293 #[.val (.int i0), .val (.int i1), .val (.int i2), .val (.int i3), .val (.int i4), .val (.int i5), .val (.ref rs), .val (.ref ks), .val (.int oa), .val (.int ob), .val (.int od), .val (.int oe), .val (.int (1 : Int32)), .val (.int oq), .val (.int ok), .val (.ref b), .val (.ref cp), .val (.long (((own_hit oq oa) + (own_hit oq ob)) + (own_hit oq od))), .second, .val (.long (own_hit oq oe)), .second, .val (.long ((((own_hit oq oa) + (own_hit oq ob)) + (own_hit oq od)) + (own_hit oq oe))), .second, .val (.long (((own_hit oq oa) + (own_hit oq ob)) + (own_hit oq od))), .second] []))
    refine own_st (fun wt wk => XS.aload X40.here hx rfl (hb hby at_293) rfl rfl wk) ?_
    show Fin1 p e below s (rm0Q Z i0 i1 i2 i3 i4 i5 vaM xM0 xM1 xM2 xM3 vcM vaJ xJ0 xJ1 xJ2 xJ3 vcJ h0 n0) room_1.cells room_1.slots (T40.setTop (mkF m 295 #[.val (.int i0), .val (.int i1), .val (.int i2), .val (.int i3), .val (.int i4), .val (.int i5), .val (.ref rs), .val (.ref ks), .val (.int oa), .val (.int ob), .val (.int od), .val (.int oe), .val (.int (1 : Int32)), .val (.int oq), .val (.int ok), .val (.ref b), .val (.ref cp), .val (.long (((own_hit oq oa) + (own_hit oq ob)) + (own_hit oq od))), .second, .val (.long (own_hit oq oe)), .second, .val (.long ((((own_hit oq oa) + (own_hit oq ob)) + (own_hit oq od)) + (own_hit oq oe))), .second, .val (.long (((own_hit oq oa) + (own_hit oq ob)) + (own_hit oq od))), .second] [(.ref cp)]))
    refine own_st (fun wt wk => XS.aload X40.here hx rfl (hb hby at_295) rfl rfl wk) ?_
    show Fin1 p e below s (rm0Q Z i0 i1 i2 i3 i4 i5 vaM xM0 xM1 xM2 xM3 vcM vaJ xJ0 xJ1 xJ2 xJ3 vcJ h0 n0) room_1.cells room_1.slots (T40.setTop (mkF m 297 #[.val (.int i0), .val (.int i1), .val (.int i2), .val (.int i3), .val (.int i4), .val (.int i5), .val (.ref rs), .val (.ref ks), .val (.int oa), .val (.int ob), .val (.int od), .val (.int oe), .val (.int (1 : Int32)), .val (.int oq), .val (.int ok), .val (.ref b), .val (.ref cp), .val (.long (((own_hit oq oa) + (own_hit oq ob)) + (own_hit oq od))), .second, .val (.long (own_hit oq oe)), .second, .val (.long ((((own_hit oq oa) + (own_hit oq ob)) + (own_hit oq od)) + (own_hit oq oe))), .second, .val (.long (((own_hit oq oa) + (own_hit oq ob)) + (own_hit oq od))), .second] [(.ref ks), (.ref cp)]))
    refine own_st (fun wt wk => XS.iload X40.here hx rfl (hb hby at_297) rfl wk) ?_
    show Fin1 p e below s (rm0Q Z i0 i1 i2 i3 i4 i5 vaM xM0 xM1 xM2 xM3 vcM vaJ xJ0 xJ1 xJ2 xJ3 vcJ h0 n0) room_1.cells room_1.slots (T40.setTop (mkF m 299 #[.val (.int i0), .val (.int i1), .val (.int i2), .val (.int i3), .val (.int i4), .val (.int i5), .val (.ref rs), .val (.ref ks), .val (.int oa), .val (.int ob), .val (.int od), .val (.int oe), .val (.int (1 : Int32)), .val (.int oq), .val (.int ok), .val (.ref b), .val (.ref cp), .val (.long (((own_hit oq oa) + (own_hit oq ob)) + (own_hit oq od))), .second, .val (.long (own_hit oq oe)), .second, .val (.long ((((own_hit oq oa) + (own_hit oq ob)) + (own_hit oq od)) + (own_hit oq oe))), .second, .val (.long (((own_hit oq oa) + (own_hit oq ob)) + (own_hit oq od))), .second] [(.int ok), (.ref ks), (.ref cp)]))
    obtain ⟨rk0, hv_rk0, Q_rk0, O_rk0⟩ := own_selM EM ok hok
    refine own_st (own_ld (j := ok) (v := (.ref rk0)) X40 hx hZ e40 V_ks hok hv_rk0 (g := (mkF m 299 #[.val (.int i0), .val (.int i1), .val (.int i2), .val (.int i3), .val (.int i4), .val (.int i5), .val (.ref rs), .val (.ref ks), .val (.int oa), .val (.int ob), .val (.int od), .val (.int oe), .val (.int (1 : Int32)), .val (.int oq), .val (.int ok), .val (.ref b), .val (.ref cp), .val (.long (((own_hit oq oa) + (own_hit oq ob)) + (own_hit oq od))), .second, .val (.long (own_hit oq oe)), .second, .val (.long ((((own_hit oq oa) + (own_hit oq ob)) + (own_hit oq od)) + (own_hit oq oe))), .second, .val (.long (((own_hit oq oa) + (own_hit oq ob)) + (own_hit oq od))), .second] [(.int ok), (.ref ks), (.ref cp)])) rfl rfl (Or.inr (Or.inr ⟨rfl, rfl⟩)) (hb hby at_299)) ?_
    show Fin1 p e below s (rm0Q Z i0 i1 i2 i3 i4 i5 vaM xM0 xM1 xM2 xM3 vcM vaJ xJ0 xJ1 xJ2 xJ3 vcJ h0 n0) room_1.cells room_1.slots (T40.setTop (mkF m 300 #[.val (.int i0), .val (.int i1), .val (.int i2), .val (.int i3), .val (.int i4), .val (.int i5), .val (.ref rs), .val (.ref ks), .val (.int oa), .val (.int ob), .val (.int od), .val (.int oe), .val (.int (1 : Int32)), .val (.int oq), .val (.int ok), .val (.ref b), .val (.ref cp), .val (.long (((own_hit oq oa) + (own_hit oq ob)) + (own_hit oq od))), .second, .val (.long (own_hit oq oe)), .second, .val (.long ((((own_hit oq oa) + (own_hit oq ob)) + (own_hit oq od)) + (own_hit oq oe))), .second, .val (.long (((own_hit oq oa) + (own_hit oq ob)) + (own_hit oq od))), .second] [(.ref rk0), (.ref cp)]))
    obtain ⟨v41, T41, h41, L41, X41, e41, hQ41, st41⟩ := own_virtual X40 hx hZ hown (hw _ (List.mem_of_getElem? (i := 101) rfl)) (hw _ (List.mem_of_getElem? (i := 102) rfl)) (hw _ (List.mem_of_getElem? (i := 104) rfl)) (hw _ (List.mem_of_getElem? (i := 103) rfl)) (hw _ (List.mem_of_getElem? (i := 105) rfl)) (hw _ (List.mem_of_getElem? (i := 26) rfl)) (by decide) (a := cp) E_cp (rm_getSent l Z a0 hw cp rk0 ok u0 j0 [(.long (0 : Int64)), (.long (0 : Int64)), (.long (0 : Int64)), (.long (0 : Int64))] (0 : Int64) h34 n0 Z0 hok G0 (Q_rk0.ext O.2) (O_rk0.ext O.2) V_u0 (own_getf (fun _ => 0) ok hok)) e40 (g := (mkF m 300 #[.val (.int i0), .val (.int i1), .val (.int i2), .val (.int i3), .val (.int i4), .val (.int i5), .val (.ref rs), .val (.ref ks), .val (.int oa), .val (.int ob), .val (.int od), .val (.int oe), .val (.int (1 : Int32)), .val (.int oq), .val (.int ok), .val (.ref b), .val (.ref cp), .val (.long (((own_hit oq oa) + (own_hit oq ob)) + (own_hit oq od))), .second, .val (.long (own_hit oq oe)), .second, .val (.long ((((own_hit oq oa) + (own_hit oq ob)) + (own_hit oq od)) + (own_hit oq oe))), .second, .val (.long (((own_hit oq oa) + (own_hit oq ob)) + (own_hit oq od))), .second] [(.ref rk0), (.ref cp)])) rfl (by rw [hml]; rfl) (argsL := [(.ref rk0)]) (rest := []) (lenOf pd_13 rfl) rfl (W := 0) (by show 2 * 0 + _ ≤ _; exact Nat.le_of_eq rfl) (hb hby at_300) (by decide) (by decide) (by decide) (by decide)
    obtain ⟨rfl, N41q, hh41⟩ := hQ41
    have N41 := Fr.app N40 N41q
    rw [hh41] at e41
    refine own_st st41 ?_
    show Fin1 p e below s (rm0Q Z i0 i1 i2 i3 i4 i5 vaM xM0 xM1 xM2 xM3 vcM vaJ xJ0 xJ1 xJ2 xJ3 vcJ h0 n0) room_1.cells room_1.slots (T41.setTop (mkF m 303 #[.val (.int i0), .val (.int i1), .val (.int i2), .val (.int i3), .val (.int i4), .val (.int i5), .val (.ref rs), .val (.ref ks), .val (.int oa), .val (.int ob), .val (.int od), .val (.int oe), .val (.int (1 : Int32)), .val (.int oq), .val (.int ok), .val (.ref b), .val (.ref cp), .val (.long (((own_hit oq oa) + (own_hit oq ob)) + (own_hit oq od))), .second, .val (.long (own_hit oq oe)), .second, .val (.long ((((own_hit oq oa) + (own_hit oq ob)) + (own_hit oq od)) + (own_hit oq oe))), .second, .val (.long (((own_hit oq oa) + (own_hit oq ob)) + (own_hit oq od))), .second] [(.long (0 : Int64))]))
    refine own_st (fun wt wk => XS.lconst X41.here hx rfl (hb hby at_303) wk) ?_
    show Fin1 p e below s (rm0Q Z i0 i1 i2 i3 i4 i5 vaM xM0 xM1 xM2 xM3 vcM vaJ xJ0 xJ1 xJ2 xJ3 vcJ h0 n0) room_1.cells room_1.slots (T41.setTop (mkF m 304 #[.val (.int i0), .val (.int i1), .val (.int i2), .val (.int i3), .val (.int i4), .val (.int i5), .val (.ref rs), .val (.ref ks), .val (.int oa), .val (.int ob), .val (.int od), .val (.int oe), .val (.int (1 : Int32)), .val (.int oq), .val (.int ok), .val (.ref b), .val (.ref cp), .val (.long (((own_hit oq oa) + (own_hit oq ob)) + (own_hit oq od))), .second, .val (.long (own_hit oq oe)), .second, .val (.long ((((own_hit oq oa) + (own_hit oq ob)) + (own_hit oq od)) + (own_hit oq oe))), .second, .val (.long (((own_hit oq oa) + (own_hit oq ob)) + (own_hit oq od))), .second] [(.long (0 : Int64)), (.long (0 : Int64))]))
    refine own_st (fun wt wk => XS.lcmp X41.here hx rfl (hb hby at_304) rfl wk) ?_
    show Fin1 p e below s (rm0Q Z i0 i1 i2 i3 i4 i5 vaM xM0 xM1 xM2 xM3 vcM vaJ xJ0 xJ1 xJ2 xJ3 vcJ h0 n0) room_1.cells room_1.slots (T41.setTop (mkF m 305 #[.val (.int i0), .val (.int i1), .val (.int i2), .val (.int i3), .val (.int i4), .val (.int i5), .val (.ref rs), .val (.ref ks), .val (.int oa), .val (.int ob), .val (.int od), .val (.int oe), .val (.int (1 : Int32)), .val (.int oq), .val (.int ok), .val (.ref b), .val (.ref cp), .val (.long (((own_hit oq oa) + (own_hit oq ob)) + (own_hit oq od))), .second, .val (.long (own_hit oq oe)), .second, .val (.long ((((own_hit oq oa) + (own_hit oq ob)) + (own_hit oq od)) + (own_hit oq oe))), .second, .val (.long (((own_hit oq oa) + (own_hit oq ob)) + (own_hit oq od))), .second] [(.int (lcmpW (0 : Int64) (0 : Int64)))]))
    refine own_st (fun wt wk => XS.ifNo X41.here hx rfl (hb hby at_305) rfl ((if0 _ _).trans (teq ((lw_eq _ _).mpr rfl : (lcmpW (0 : Int64) (0 : Int64)) = (0 : Int32))).2) wk) ?_
    show Fin1 p e below s (rm0Q Z i0 i1 i2 i3 i4 i5 vaM xM0 xM1 xM2 xM3 vcM vaJ xJ0 xJ1 xJ2 xJ3 vcJ h0 n0) room_1.cells room_1.slots (T41.setTop (mkF m 308 #[.val (.int i0), .val (.int i1), .val (.int i2), .val (.int i3), .val (.int i4), .val (.int i5), .val (.ref rs), .val (.ref ks), .val (.int oa), .val (.int ob), .val (.int od), .val (.int oe), .val (.int (1 : Int32)), .val (.int oq), .val (.int ok), .val (.ref b), .val (.ref cp), .val (.long (((own_hit oq oa) + (own_hit oq ob)) + (own_hit oq od))), .second, .val (.long (own_hit oq oe)), .second, .val (.long ((((own_hit oq oa) + (own_hit oq ob)) + (own_hit oq od)) + (own_hit oq oe))), .second, .val (.long (((own_hit oq oa) + (own_hit oq ob)) + (own_hit oq od))), .second] []))
    refine own_st (fun wt wk => XS.aload X41.here hx rfl (hb hby at_308) rfl rfl wk) ?_
    show Fin1 p e below s (rm0Q Z i0 i1 i2 i3 i4 i5 vaM xM0 xM1 xM2 xM3 vcM vaJ xJ0 xJ1 xJ2 xJ3 vcJ h0 n0) room_1.cells room_1.slots (T41.setTop (mkF m 310 #[.val (.int i0), .val (.int i1), .val (.int i2), .val (.int i3), .val (.int i4), .val (.int i5), .val (.ref rs), .val (.ref ks), .val (.int oa), .val (.int ob), .val (.int od), .val (.int oe), .val (.int (1 : Int32)), .val (.int oq), .val (.int ok), .val (.ref b), .val (.ref cp), .val (.long (((own_hit oq oa) + (own_hit oq ob)) + (own_hit oq od))), .second, .val (.long (own_hit oq oe)), .second, .val (.long ((((own_hit oq oa) + (own_hit oq ob)) + (own_hit oq od)) + (own_hit oq oe))), .second, .val (.long (((own_hit oq oa) + (own_hit oq ob)) + (own_hit oq od))), .second] [(.ref cp)]))
    refine own_st (fun wt wk => XS.aload X41.here hx rfl (hb hby at_310) rfl rfl wk) ?_
    show Fin1 p e below s (rm0Q Z i0 i1 i2 i3 i4 i5 vaM xM0 xM1 xM2 xM3 vcM vaJ xJ0 xJ1 xJ2 xJ3 vcJ h0 n0) room_1.cells room_1.slots (T41.setTop (mkF m 312 #[.val (.int i0), .val (.int i1), .val (.int i2), .val (.int i3), .val (.int i4), .val (.int i5), .val (.ref rs), .val (.ref ks), .val (.int oa), .val (.int ob), .val (.int od), .val (.int oe), .val (.int (1 : Int32)), .val (.int oq), .val (.int ok), .val (.ref b), .val (.ref cp), .val (.long (((own_hit oq oa) + (own_hit oq ob)) + (own_hit oq od))), .second, .val (.long (own_hit oq oe)), .second, .val (.long ((((own_hit oq oa) + (own_hit oq ob)) + (own_hit oq od)) + (own_hit oq oe))), .second, .val (.long (((own_hit oq oa) + (own_hit oq ob)) + (own_hit oq od))), .second] [(.ref ks), (.ref cp)]))
    refine own_st (fun wt wk => XS.iload X41.here hx rfl (hb hby at_312) rfl wk) ?_
    show Fin1 p e below s (rm0Q Z i0 i1 i2 i3 i4 i5 vaM xM0 xM1 xM2 xM3 vcM vaJ xJ0 xJ1 xJ2 xJ3 vcJ h0 n0) room_1.cells room_1.slots (T41.setTop (mkF m 314 #[.val (.int i0), .val (.int i1), .val (.int i2), .val (.int i3), .val (.int i4), .val (.int i5), .val (.ref rs), .val (.ref ks), .val (.int oa), .val (.int ob), .val (.int od), .val (.int oe), .val (.int (1 : Int32)), .val (.int oq), .val (.int ok), .val (.ref b), .val (.ref cp), .val (.long (((own_hit oq oa) + (own_hit oq ob)) + (own_hit oq od))), .second, .val (.long (own_hit oq oe)), .second, .val (.long ((((own_hit oq oa) + (own_hit oq ob)) + (own_hit oq od)) + (own_hit oq oe))), .second, .val (.long (((own_hit oq oa) + (own_hit oq ob)) + (own_hit oq od))), .second] [(.int ok), (.ref ks), (.ref cp)]))
    obtain ⟨rk1, hv_rk1, Q_rk1, O_rk1⟩ := own_selM EM ok hok
    refine own_st (own_ld (j := ok) (v := (.ref rk1)) X41 hx hZ e41 V_ks hok hv_rk1 (g := (mkF m 314 #[.val (.int i0), .val (.int i1), .val (.int i2), .val (.int i3), .val (.int i4), .val (.int i5), .val (.ref rs), .val (.ref ks), .val (.int oa), .val (.int ob), .val (.int od), .val (.int oe), .val (.int (1 : Int32)), .val (.int oq), .val (.int ok), .val (.ref b), .val (.ref cp), .val (.long (((own_hit oq oa) + (own_hit oq ob)) + (own_hit oq od))), .second, .val (.long (own_hit oq oe)), .second, .val (.long ((((own_hit oq oa) + (own_hit oq ob)) + (own_hit oq od)) + (own_hit oq oe))), .second, .val (.long (((own_hit oq oa) + (own_hit oq ob)) + (own_hit oq od))), .second] [(.int ok), (.ref ks), (.ref cp)])) rfl rfl (Or.inr (Or.inr ⟨rfl, rfl⟩)) (hb hby at_314)) ?_
    show Fin1 p e below s (rm0Q Z i0 i1 i2 i3 i4 i5 vaM xM0 xM1 xM2 xM3 vcM vaJ xJ0 xJ1 xJ2 xJ3 vcJ h0 n0) room_1.cells room_1.slots (T41.setTop (mkF m 315 #[.val (.int i0), .val (.int i1), .val (.int i2), .val (.int i3), .val (.int i4), .val (.int i5), .val (.ref rs), .val (.ref ks), .val (.int oa), .val (.int ob), .val (.int od), .val (.int oe), .val (.int (1 : Int32)), .val (.int oq), .val (.int ok), .val (.ref b), .val (.ref cp), .val (.long (((own_hit oq oa) + (own_hit oq ob)) + (own_hit oq od))), .second, .val (.long (own_hit oq oe)), .second, .val (.long ((((own_hit oq oa) + (own_hit oq ob)) + (own_hit oq od)) + (own_hit oq oe))), .second, .val (.long (((own_hit oq oa) + (own_hit oq ob)) + (own_hit oq od))), .second] [(.ref rk1), (.ref cp)]))
    obtain ⟨v42, T42, h42, L42, X42, e42, hQ42, st42⟩ := own_virtual X41 hx hZ hown (hw _ (List.mem_of_getElem? (i := 110) rfl)) (hw _ (List.mem_of_getElem? (i := 111) rfl)) (hw _ (List.mem_of_getElem? (i := 113) rfl)) (hw _ (List.mem_of_getElem? (i := 112) rfl)) (hw _ (List.mem_of_getElem? (i := 114) rfl)) (hw _ (List.mem_of_getElem? (i := 26) rfl)) (by decide) (a := cp) E_cp (rm_getReceived l Z a0 hw cp rk1 ok u1 j1 [(.long (0 : Int64)), (.long (0 : Int64)), (.long (0 : Int64)), (.long (0 : Int64))] (0 : Int64) h34 n0 Z0 hok G1 (Q_rk1.ext O.2) (O_rk1.ext O.2) V_u1 (own_getf (fun _ => 0) ok hok)) e41 (g := (mkF m 315 #[.val (.int i0), .val (.int i1), .val (.int i2), .val (.int i3), .val (.int i4), .val (.int i5), .val (.ref rs), .val (.ref ks), .val (.int oa), .val (.int ob), .val (.int od), .val (.int oe), .val (.int (1 : Int32)), .val (.int oq), .val (.int ok), .val (.ref b), .val (.ref cp), .val (.long (((own_hit oq oa) + (own_hit oq ob)) + (own_hit oq od))), .second, .val (.long (own_hit oq oe)), .second, .val (.long ((((own_hit oq oa) + (own_hit oq ob)) + (own_hit oq od)) + (own_hit oq oe))), .second, .val (.long (((own_hit oq oa) + (own_hit oq ob)) + (own_hit oq od))), .second] [(.ref rk1), (.ref cp)])) rfl (by rw [hml]; rfl) (argsL := [(.ref rk1)]) (rest := []) (lenOf pd_13 rfl) rfl (W := 0) (by show 2 * 0 + _ ≤ _; exact Nat.le_of_eq rfl) (hb hby at_315) (by decide) (by decide) (by decide) (by decide)
    obtain ⟨rfl, N42q, hh42⟩ := hQ42
    have N42 := Fr.app N41 N42q
    rw [hh42] at e42
    refine own_st st42 ?_
    show Fin1 p e below s (rm0Q Z i0 i1 i2 i3 i4 i5 vaM xM0 xM1 xM2 xM3 vcM vaJ xJ0 xJ1 xJ2 xJ3 vcJ h0 n0) room_1.cells room_1.slots (T42.setTop (mkF m 318 #[.val (.int i0), .val (.int i1), .val (.int i2), .val (.int i3), .val (.int i4), .val (.int i5), .val (.ref rs), .val (.ref ks), .val (.int oa), .val (.int ob), .val (.int od), .val (.int oe), .val (.int (1 : Int32)), .val (.int oq), .val (.int ok), .val (.ref b), .val (.ref cp), .val (.long (((own_hit oq oa) + (own_hit oq ob)) + (own_hit oq od))), .second, .val (.long (own_hit oq oe)), .second, .val (.long ((((own_hit oq oa) + (own_hit oq ob)) + (own_hit oq od)) + (own_hit oq oe))), .second, .val (.long (((own_hit oq oa) + (own_hit oq ob)) + (own_hit oq od))), .second] [(.long (0 : Int64))]))
    refine own_st (fun wt wk => XS.lconst X42.here hx rfl (hb hby at_318) wk) ?_
    show Fin1 p e below s (rm0Q Z i0 i1 i2 i3 i4 i5 vaM xM0 xM1 xM2 xM3 vcM vaJ xJ0 xJ1 xJ2 xJ3 vcJ h0 n0) room_1.cells room_1.slots (T42.setTop (mkF m 319 #[.val (.int i0), .val (.int i1), .val (.int i2), .val (.int i3), .val (.int i4), .val (.int i5), .val (.ref rs), .val (.ref ks), .val (.int oa), .val (.int ob), .val (.int od), .val (.int oe), .val (.int (1 : Int32)), .val (.int oq), .val (.int ok), .val (.ref b), .val (.ref cp), .val (.long (((own_hit oq oa) + (own_hit oq ob)) + (own_hit oq od))), .second, .val (.long (own_hit oq oe)), .second, .val (.long ((((own_hit oq oa) + (own_hit oq ob)) + (own_hit oq od)) + (own_hit oq oe))), .second, .val (.long (((own_hit oq oa) + (own_hit oq ob)) + (own_hit oq od))), .second] [(.long (0 : Int64)), (.long (0 : Int64))]))
    refine own_st (fun wt wk => XS.lcmp X42.here hx rfl (hb hby at_319) rfl wk) ?_
    show Fin1 p e below s (rm0Q Z i0 i1 i2 i3 i4 i5 vaM xM0 xM1 xM2 xM3 vcM vaJ xJ0 xJ1 xJ2 xJ3 vcJ h0 n0) room_1.cells room_1.slots (T42.setTop (mkF m 320 #[.val (.int i0), .val (.int i1), .val (.int i2), .val (.int i3), .val (.int i4), .val (.int i5), .val (.ref rs), .val (.ref ks), .val (.int oa), .val (.int ob), .val (.int od), .val (.int oe), .val (.int (1 : Int32)), .val (.int oq), .val (.int ok), .val (.ref b), .val (.ref cp), .val (.long (((own_hit oq oa) + (own_hit oq ob)) + (own_hit oq od))), .second, .val (.long (own_hit oq oe)), .second, .val (.long ((((own_hit oq oa) + (own_hit oq ob)) + (own_hit oq od)) + (own_hit oq oe))), .second, .val (.long (((own_hit oq oa) + (own_hit oq ob)) + (own_hit oq od))), .second] [(.int (lcmpW (0 : Int64) (0 : Int64)))]))
    refine own_st (fun wt wk => XS.ifNo X42.here hx rfl (hb hby at_320) rfl ((if0 _ _).trans (teq ((lw_eq _ _).mpr rfl : (lcmpW (0 : Int64) (0 : Int64)) = (0 : Int32))).2) wk) ?_
    show Fin1 p e below s (rm0Q Z i0 i1 i2 i3 i4 i5 vaM xM0 xM1 xM2 xM3 vcM vaJ xJ0 xJ1 xJ2 xJ3 vcJ h0 n0) room_1.cells room_1.slots (T42.setTop (mkF m 323 #[.val (.int i0), .val (.int i1), .val (.int i2), .val (.int i3), .val (.int i4), .val (.int i5), .val (.ref rs), .val (.ref ks), .val (.int oa), .val (.int ob), .val (.int od), .val (.int oe), .val (.int (1 : Int32)), .val (.int oq), .val (.int ok), .val (.ref b), .val (.ref cp), .val (.long (((own_hit oq oa) + (own_hit oq ob)) + (own_hit oq od))), .second, .val (.long (own_hit oq oe)), .second, .val (.long ((((own_hit oq oa) + (own_hit oq ob)) + (own_hit oq od)) + (own_hit oq oe))), .second, .val (.long (((own_hit oq oa) + (own_hit oq ob)) + (own_hit oq od))), .second] []))
    refine own_st (fun wt wk => XS.iconst X42.here hx rfl (hb hby at_323) wk) ?_
    show Fin1 p e below s (rm0Q Z i0 i1 i2 i3 i4 i5 vaM xM0 xM1 xM2 xM3 vcM vaJ xJ0 xJ1 xJ2 xJ3 vcJ h0 n0) room_1.cells room_1.slots (T42.setTop (mkF m 324 #[.val (.int i0), .val (.int i1), .val (.int i2), .val (.int i3), .val (.int i4), .val (.int i5), .val (.ref rs), .val (.ref ks), .val (.int oa), .val (.int ob), .val (.int od), .val (.int oe), .val (.int (1 : Int32)), .val (.int oq), .val (.int ok), .val (.ref b), .val (.ref cp), .val (.long (((own_hit oq oa) + (own_hit oq ob)) + (own_hit oq od))), .second, .val (.long (own_hit oq oe)), .second, .val (.long ((((own_hit oq oa) + (own_hit oq ob)) + (own_hit oq od)) + (own_hit oq oe))), .second, .val (.long (((own_hit oq oa) + (own_hit oq ob)) + (own_hit oq od))), .second] [(.int (1 : Int32))]))
    refine own_st (fun wt wk => XS.goto X42.here hx rfl (pc0 := 324) (pc' := 328) rfl (hb hby at_324) (by decide) (by decide) wk) ?_
    show Fin1 p e below s (rm0Q Z i0 i1 i2 i3 i4 i5 vaM xM0 xM1 xM2 xM3 vcM vaJ xJ0 xJ1 xJ2 xJ3 vcJ h0 n0) room_1.cells room_1.slots (T42.setTop (mkF m 328 #[.val (.int i0), .val (.int i1), .val (.int i2), .val (.int i3), .val (.int i4), .val (.int i5), .val (.ref rs), .val (.ref ks), .val (.int oa), .val (.int ob), .val (.int od), .val (.int oe), .val (.int (1 : Int32)), .val (.int oq), .val (.int ok), .val (.ref b), .val (.ref cp), .val (.long (((own_hit oq oa) + (own_hit oq ob)) + (own_hit oq od))), .second, .val (.long (own_hit oq oe)), .second, .val (.long ((((own_hit oq oa) + (own_hit oq ob)) + (own_hit oq od)) + (own_hit oq oe))), .second, .val (.long (((own_hit oq oa) + (own_hit oq ob)) + (own_hit oq od))), .second] [(.int (1 : Int32))]))
    exact own_retZ X42 hx hlk hret (hb hby at_328) (z := (1 : Int32)) (by decide) (by rw [e42]; exact ⟨rfl, N42⟩) (by decide) (by decide)
set_option maxRecDepth 65536 in
set_option maxHeartbeats 40000000 in
theorem comes_1 {Post : Tables → Env → Array Value → State → Outcome → State → Prop} (hpost : ∀ tb e args s v u, (limb_1_1.after args s (.returned v) u = true ∧ limb_1_2.after args s (.returned v) u = true ∧ True) → FrameEnd s (.returned v) u (Jvm.fieldLocs frame_1_writes args s ++ Jvm.arrayLocs frame_1_arrays args s ++ Jvm.staticLocs frame_1_statics s) 40 192 → Post tb e args s (.returned v) u) :
    ArmFor flags0 classFile x code maxLocals ret World_1 tables_1 room_1 Calls_1 rest_1 Pre_1 Post := by
  intro l hfl _ _ p e ha hc hk s m args below hf hA hF happ hP
  obtain ⟨hcalls, hrest, hpre⟩ := hP
  obtain ⟨-, -, -, hnamed, -, -, -, hat⟩ := (Spec.applies_iff hf).mp happ
  obtain ⟨hg, hn⟩ := and_e (Cond.before_iff.mp (show (Jvm.Cond.and given_1 narrow_1).before args s = true from hpre))
  obtain ⟨hcnt, hg1⟩ := and_e hg
  obtain ⟨hv0, hg2⟩ := and_e hg1
  obtain ⟨hv1, hg3⟩ := and_e hg2
  obtain ⟨hv2, hg4⟩ := and_e hg3
  obtain ⟨hv3, hg5⟩ := and_e hg4
  obtain ⟨hv4, hg6⟩ := and_e hg5
  have hv5 := hg6
  obtain ⟨w0, w1, w2, w3, w4, w5, rfl⟩ : ∃ w0 w1 w2 w3 w4 w5 : Value, args = #[w0, w1, w2, w3, w4, w5] := by
    have hs : args.size = 6 := by simpa [Cond.value, given_1] using hcnt
    obtain ⟨L⟩ := args
    match L, hs with
    | [w0, w1, w2, w3, w4, w5], _ => exact ⟨w0, w1, w2, w3, w4, w5, rfl⟩
  have hw := fun d (hd : d ∈ tables_1) => atoms_spec (ws := Jvm.Cond.code x code maxLocals ret :: tables_1) hat d (List.mem_cons_of_mem _ hd)
  have hfit : Fit s := fun {y c} hc i hi => by
    obtain ⟨ha, rfl⟩ := Array.getElem?_eq_some_iff.mp hc
    have q := List.all_eq_true.mp ((Array.all_eq_true_iff_forall_mem.mp hF) _ (Array.getElem_mem ha)) i (List.mem_range.mpr hi)
    simpa [Array.getElem?_eq_getElem hi] using q
  obtain ⟨i0, ei0⟩ := is_v hv0
  obtain rfl : w0 = (.int i0) := Option.some.inj ei0
  obtain ⟨i1, ei1⟩ := is_v hv1
  obtain rfl : w1 = (.int i1) := Option.some.inj ei1
  obtain ⟨i2, ei2⟩ := is_v hv2
  obtain rfl : w2 = (.int i2) := Option.some.inj ei2
  obtain ⟨i3, ei3⟩ := is_v hv3
  obtain rfl : w3 = (.int i3) := Option.some.inj ei3
  obtain ⟨i4, ei4⟩ := is_v hv4
  obtain rfl : w4 = (.int i4) := Option.some.inj ei4
  obtain ⟨i5, ei5⟩ := is_v hv5
  obtain rfl : w5 = (.int i5) := Option.some.inj ei5
  obtain ⟨z0, hn⟩ := and_e hn
  obtain ⟨z1, hn⟩ := and_e hn
  obtain ⟨z2, hn⟩ := and_e hn
  obtain ⟨z3, hn⟩ := and_e hn
  obtain ⟨z4, hn⟩ := and_e hn
  obtain ⟨z5, hn⟩ := and_e hn
  obtain ⟨z6, hn⟩ := and_e hn
  obtain ⟨z7, hn⟩ := and_e hn
  obtain ⟨z8, hn⟩ := and_e hn
  obtain ⟨z9, hn⟩ := and_e hn
  obtain ⟨z10, hn⟩ := and_e hn
  obtain ⟨z11, hn⟩ := and_e hn
  obtain ⟨z12, hn⟩ := and_e hn
  obtain ⟨z13, hn⟩ := and_e hn
  obtain ⟨z14, hn⟩ := and_e hn
  obtain ⟨z15, hn⟩ := and_e hn
  obtain ⟨z16, hn⟩ := and_e hn
  obtain ⟨z17, hn⟩ := and_e hn
  obtain ⟨z18, hn⟩ := and_e hn
  obtain ⟨z19, hn⟩ := and_e hn
  obtain ⟨z20, hn⟩ := and_e hn
  obtain ⟨z21, hn⟩ := and_e hn
  obtain ⟨z22, hn⟩ := and_e hn
  obtain ⟨z23, hn⟩ := and_e hn
  obtain ⟨z24, hn⟩ := and_e hn
  obtain ⟨z25, hn⟩ := and_e hn
  obtain ⟨z26, hn⟩ := and_e hn
  obtain ⟨z27, hn⟩ := and_e hn
  obtain ⟨z28, hn⟩ := and_e hn
  have z29 := hn
  obtain ⟨vaM, evM⟩ := arr_v z8
  obtain ⟨vcM, AM⟩ := Arr.start evM z8
  obtain ⟨xM0, pM0⟩ := own_con (hw _ (List.mem_of_getElem? (i := 15) rfl)) (hw _ (List.mem_of_getElem? (i := 16) rfl)) z4 z29
  obtain ⟨xM1, pM1⟩ := own_con (hw _ (List.mem_of_getElem? (i := 15) rfl)) (hw _ (List.mem_of_getElem? (i := 19) rfl)) z5 z28
  obtain ⟨xM2, pM2⟩ := own_con (hw _ (List.mem_of_getElem? (i := 15) rfl)) (hw _ (List.mem_of_getElem? (i := 21) rfl)) z6 z27
  obtain ⟨xM3, pM3⟩ := own_con (hw _ (List.mem_of_getElem? (i := 15) rfl)) (hw _ (List.mem_of_getElem? (i := 23) rfl)) z7 z26
  have EM : own_M s vaM xM0 xM1 xM2 xM3 vcM := ⟨Sta.start evM (Or.inr ⟨(hw _ (List.mem_of_getElem? (i := 15) rfl)), (hw _ (List.mem_of_getElem? (i := 37) rfl))⟩), AM, Exa.start evM z9, own_size evM AM z10, FitC.start hfit AM, pM0, pM1, pM2, pM3⟩
  obtain ⟨vaJ, evJ⟩ := arr_v z15
  obtain ⟨vcJ, AJ⟩ := Arr.start evJ z15
  obtain ⟨xJ0, pJ0⟩ := own_con (hw _ (List.mem_of_getElem? (i := 3) rfl)) (hw _ (List.mem_of_getElem? (i := 4) rfl)) z0 z22
  obtain ⟨xJ1, pJ1⟩ := own_con (hw _ (List.mem_of_getElem? (i := 3) rfl)) (hw _ (List.mem_of_getElem? (i := 7) rfl)) z1 z25
  obtain ⟨xJ2, pJ2⟩ := own_con (hw _ (List.mem_of_getElem? (i := 3) rfl)) (hw _ (List.mem_of_getElem? (i := 9) rfl)) z2 z24
  obtain ⟨xJ3, pJ3⟩ := own_con (hw _ (List.mem_of_getElem? (i := 3) rfl)) (hw _ (List.mem_of_getElem? (i := 11) rfl)) z3 z23
  have EJ : own_J s vaJ xJ0 xJ1 xJ2 xJ3 vcJ := ⟨Sta.start evJ (Or.inr ⟨(hw _ (List.mem_of_getElem? (i := 3) rfl)), (hw _ (List.mem_of_getElem? (i := 57) rfl))⟩), AJ, Exa.start evJ z16, own_size evJ AJ z17, FitC.start hfit AJ, pJ0, pJ1, pJ2, pJ3⟩
  obtain ⟨n, o, h1, h2, h3, _, L, rfl, ⟨rfl, N⟩, hq⟩ := rm0 l s _ hw i0 i1 i2 i3 i4 i5 vaM xM0 xM1 xM2 xM3 vcM vaJ xJ0 xJ1 xJ2 xJ3 vcJ s.heap s.heap.size (Nat.le_refl _) (Old.start s) EM EJ p e ha hc hk s m _ below hf ((Spec.applies_iff_loose hf).mp happ).1 ⟨rfl, State.Warmed39.refl s, rfl⟩ trivial
  refine ⟨n, _, h1, h2, h3, hpost _ _ _ _ _ _ ⟨Cond.after_iff.mpr rfl, Cond.after_iff.mpr (eq_i res_at (Term.int_eval (1)) rfl), trivial⟩ ⟨hq.1, hq.2.1, (hq.2.2.sift fun y hy => Or.inr (N y hy)).mono (by decide) (by decide)⟩⟩
theorem main_1_1 : Claimed_1_1 := comes_1 fun _ _ _ _ _ _ h hF => ⟨h.1, hF⟩
theorem main_1_2 : Claimed_1_2 := comes_1 fun _ _ _ _ _ _ h hF => ⟨h.2.1, hF⟩
end Jvm.Pilot.@@N@@
namespace Jvm.Pilot.@@N@@
open Jvm Jvm.ClassFile Sem Op Lib Jvm.Free Jvm.Stand Jvm.Pilot.@@N@@.Jvm.D
/-! MADE BY PROGRAM (witnessworld.py) out of the Statement's table words and the real class files: 19 classes; the members and pool entries that the words name. The judged class is class 1, her method 2. -/
namespace start1
open Jvm.ClassFile
def u (s : String) : CpInfo := .utf8 (stringToUtf16 s)
/-- a pool by its gaps: so many unusable entries, then the entry; so many at the end -/
def gap : Nat → List CpInfo → List CpInfo
  | 0, r => r
  | n + 1, r => .unusable :: gap n r
def poolList (es : List (Nat × CpInfo)) (last : Nat) : List CpInfo := es.foldr (fun e r => gap e.1 (e.2 :: r)) (gap last [])
def pool (es : List (Nat × CpInfo)) (last : Nat) : Array CpInfo := ⟨poolList es last⟩
def fileOf (pool : Array CpInfo) (this : Nat) (attrs : Array Attribute := #[]) (ms : Array MethodInfo := #[]) (fl : Nat := 33) (sup : Nat := 0) (ifs : Array Nat := #[]) (fds : Array FieldInfo := #[]) : ClassFile where
  minorVersion := 0
  majorVersion := 65
  constantPool := pool
  accessFlags := fl
  thisClass := this
  superClass := sup
  interfaces := ifs
  fields := fds
  methods := ms
  attributes := attrs
def plain (name : String) (sup : Option ClassId) : Class where
  name := name
  kind := .ordinary
  loader := none
  accessFlags := 33
  super := sup
  interfaces := #[]
  cf := none
  fields := #[]
  methods := #[]
  instanceTypes := #[]
  staticTypes := #[]
  resolved := #[]
  callSites := []
  init := .initialized
  statics := none
  mirror := none

def pool0 : Array CpInfo := pool [(5, u "<init>"), (0, u "()V"), (1, .class_ 10), (1, u "java/lang/Object"), (85, u "clone"), (0, u "()Ljava/lang/Object;")] 26

def k0c0 : Code := { maxStack := 0, maxLocals := 1, code := object_method_1_code, exceptionTable := #[], attributes := #[] }
def k0m0 : Method := { name := "<init>", desc := "()V", sig := { parameters := [], returnType := none }, accessFlags := 1, code := some k0c0 }
def k0m1 : Method := { name := "clone", desc := "()Ljava/lang/Object;", sig := { parameters := [], returnType := some (.object "java/lang/Object") }, accessFlags := 260, code := none }
/-- java/lang/Object -/
def k0 : Class := { plain "java/lang/Object" none with
  accessFlags := 33
  interfaces := #[]
  cf := some (fileOf pool0 8 #[] #[{ accessFlags := 1, nameIndex := 5, descriptorIndex := 6, attributes := #[] }, { accessFlags := 260, nameIndex := 96, descriptorIndex := 97, attributes := #[] }] 33 0 #[] #[])
  fields := #[]
  methods := #[k0m0, k0m1]
  instanceTypes := #[]
  staticTypes := #[]
  resolved := Array.replicate 124 none
  statics := none }

def pool1 : Array CpInfo := pool [(2, .class_ 4), (0, .nameAndType 5 6), (0, u "java/lang/Object"), (0, u "<init>"), (0, u "()V"), (0, .class_ 8), (0, u "com/example/electd/electd/io/Rejection"), (0, .fieldref 7 10), (0, .nameAndType 11 12), (0, u "MALFORMED"), (0, u "Lcom/example/electd/electd/io/Rejection;"), (0, .fieldref 7 14), (0, .nameAndType 15 12), (0, u "BAD_TAG"), (0, .fieldref 7 17), (0, .nameAndType 18 12), (0, u "UNCONFIRMED"), (0, .fieldref 7 20), (0, .nameAndType 21 12), (0, u "REPLAYED"), (0, .class_ 23), (0, u "com/example/electd/electd/model/MessageKind"), (0, .fieldref 22 25), (0, .nameAndType 26 27), (0, u "REQUEST"), (0, u "Lcom/example/electd/electd/model/MessageKind;"), (0, .fieldref 22 29), (0, .nameAndType 30 27), (0, u "REPLY"), (0, .fieldref 22 32), (0, .nameAndType 33 27), (0, u "RELEASE"), (0, .fieldref 22 35), (0, .nameAndType 36 27), (0, u "HELLO"), (0, .class_ 38), (0, u "com/example/electd/electd/service/DatagramCounts"), (0, .methodref 37 3), (0, .methodref 37 41), (0, .nameAndType 42 43), (0, u "rejected"), (0, u "(Lcom/example/electd/electd/io/Rejection;)V"), (0, .methodref 37 45), (0, .nameAndType 46 47), (0, u "copy"), (0, u "()Lcom/example/electd/electd/service/DatagramCounts;"), (0, .methodref 49 50), (0, .class_ 51), (0, .nameAndType 52 53), (0, u "com/example/electd/electd/service/DatagramCountsCopyPinLaw"), (0, u "hit"), (0, u "(II)J"), (0, .methodref 37 55), (0, .nameAndType 56 57), (0, u "getRejected"), (0, u "(Lcom/example/electd/electd/io/Rejection;)J"), (0, .methodref 37 59), (0, .nameAndType 60 61), (0, u "getSent"), (0, u "(Lcom/example/electd/electd/model/MessageKind;)J"), (0, .methodref 37 63), (0, .nameAndType 64 61), (0, u "getReceived"), (3, u "law"), (0, u "(IIIIII)Z")] 6

def k1m0 : Method := { name := "<init>", desc := "()V", sig := { parameters := [], returnType := none }, accessFlags := 1, code := none }
def k1c1 : Code := { maxStack := 2, maxLocals := 2, code := method_2_code, exceptionTable := #[], attributes := #[] }
def k1m1 : Method := { name := "hit", desc := "(II)J", sig := { parameters := [.int, .int], returnType := some .long }, accessFlags := 10, code := some k1c1 }
def k1c2 : Code := { maxStack := 4, maxLocals := 25, code := code, exceptionTable := #[], attributes := #[] }
def k1m2 : Method := { name := "law", desc := "(IIIIII)Z", sig := { parameters := [.int, .int, .int, .int, .int, .int], returnType := some .boolean }, accessFlags := 9, code := some k1c2 }
/-- com/example/electd/electd/service/DatagramCountsCopyPinLaw -/
def k1 : Class := { plain "com/example/electd/electd/service/DatagramCountsCopyPinLaw" (some 0) with
  accessFlags := 49
  interfaces := #[]
  cf := some (fileOf pool1 49 #[] #[{ accessFlags := 1, nameIndex := 5, descriptorIndex := 6, attributes := #[] }, { accessFlags := 10, nameIndex := 52, descriptorIndex := 53, attributes := #[] }, { accessFlags := 9, nameIndex := 68, descriptorIndex := 69, attributes := #[] }] 49 2 #[] #[])
  fields := #[]
  methods := #[k1m0, k1m1, k1m2]
  instanceTypes := #[]
  staticTypes := #[]
  resolved := Array.replicate 76 none
  statics := none }

def pool2 : Array CpInfo := pool [(1, .class_ 2), (0, u "java/lang/constant/Constable"), (0, .class_ 4), (0, u "java/lang/Object")] 6

/-- java/lang/constant/Constable -/
def k2 : Class := { plain "java/lang/constant/Constable" (some 0) with
  accessFlags := 1537
  interfaces := #[]
  cf := some (fileOf pool2 1 #[] #[] 1537 3 #[] #[])
  fields := #[]
  methods := #[]
  instanceTypes := #[]
  staticTypes := #[]
  resolved := Array.replicate 11 none
  statics := none }

def pool3 : Array CpInfo := pool [(1, .class_ 2), (0, u "java/lang/Comparable"), (0, .class_ 4), (0, u "java/lang/Object")] 7

/-- java/lang/Comparable -/
def k3 : Class := { plain "java/lang/Comparable" (some 0) with
  accessFlags := 1537
  interfaces := #[]
  cf := some (fileOf pool3 1 #[] #[] 1537 3 #[] #[])
  fields := #[]
  methods := #[]
  instanceTypes := #[]
  staticTypes := #[]
  resolved := Array.replicate 12 none
  statics := none }

def pool4 : Array CpInfo := pool [(1, .class_ 2), (0, u "java/io/Serializable"), (0, .class_ 4), (0, u "java/lang/Object")] 2

/-- java/io/Serializable -/
def k4 : Class := { plain "java/io/Serializable" (some 0) with
  accessFlags := 1537
  interfaces := #[]
  cf := some (fileOf pool4 1 #[] #[] 1537 3 #[] #[])
  fields := #[]
  methods := #[]
  instanceTypes := #[]
  staticTypes := #[]
  resolved := Array.replicate 7 none
  statics := none }

def pool5 : Array CpInfo := pool [(2, .class_ 4), (1, u "java/lang/Enum"), (0, u "name"), (0, u "Ljava/lang/String;"), (0, .fieldref 2 8), (0, .nameAndType 9 10), (0, u "ordinal"), (0, u "I"), (1, .class_ 14), (1, u "java/lang/Object"), (4, u "hash"), (86, .class_ 108), (1, u "java/lang/Enum$EnumDesc"), (2, .class_ 112), (0, u "java/lang/constant/Constable"), (0, .class_ 114), (0, u "java/lang/Comparable"), (0, .class_ 116), (0, u "java/io/Serializable"), (9, u "()I")] 77

def k5c0 : Code := { maxStack := 1, maxLocals := 1, code := jdk_37_method_2_code, exceptionTable := #[], attributes := #[] }
def k5m0 : Method := { name := "ordinal", desc := "()I", sig := { parameters := [], returnType := some .int }, accessFlags := 17, code := some k5c0 }
/-- java/lang/Enum -/
def k5 : Class := { plain "java/lang/Enum" (some 0) with
  accessFlags := 1057
  interfaces := #[2, 3, 4]
  cf := some (fileOf pool5 2 #[.nestMembers #[106]] #[{ accessFlags := 17, nameIndex := 9, descriptorIndex := 126, attributes := #[] }] 1057 12 #[111, 113, 115] #[{ accessFlags := 18, nameIndex := 5, descriptorIndex := 6, attributes := #[] }, { accessFlags := 18, nameIndex := 9, descriptorIndex := 10, attributes := #[] }, { accessFlags := 2, nameIndex := 19, descriptorIndex := 10, attributes := #[] }])
  fields := #[{ name := "name", type := (.object "java/lang/String"), accessFlags := 18, slot := 0, constantValue := 0 }, { name := "ordinal", type := .int, accessFlags := 18, slot := 1, constantValue := 0 }, { name := "hash", type := .int, accessFlags := 2, slot := 2, constantValue := 0 }]
  methods := #[k5m0]
  instanceTypes := #[(.object "java/lang/String"), .int, .int]
  staticTypes := #[]
  resolved := Array.replicate 204 none
  statics := none }

def pool6 : Array CpInfo := pool [(1, .class_ 2), (0, u "com/example/electd/electd/io/Rejection"), (2, u "MALFORMED"), (0, u "Lcom/example/electd/electd/io/Rejection;"), (2, u "BAD_TAG"), (2, u "UNCONFIRMED"), (2, u "REPLAYED"), (0, .fieldref 1 17), (0, .nameAndType 18 19), (0, u "$VALUES"), (0, u "[Lcom/example/electd/electd/io/Rejection;"), (0, .methodref 21 22), (0, .class_ 19), (0, .nameAndType 23 24), (0, u "clone"), (0, u "()Ljava/lang/Object;"), (1, .class_ 28), (1, u "java/lang/Enum"), (8, u "text"), (0, u "Ljava/lang/String;"), (18, u "()[Lcom/example/electd/electd/io/Rejection;"), (0, u "values")] 13

def k6c0 : Code := { maxStack := 1, maxLocals := 0, code := prog_4_method_1_code, exceptionTable := #[], attributes := #[] }
def k6m0 : Method := { name := "values", desc := "()[Lcom/example/electd/electd/io/Rejection;", sig := { parameters := [], returnType := some (.array (.object "com/example/electd/electd/io/Rejection")) }, accessFlags := 9, code := some k6c0 }
/-- com/example/electd/electd/io/Rejection -/
def k6 : Class := { plain "com/example/electd/electd/io/Rejection" (some 5) with
  accessFlags := 16433
  interfaces := #[]
  cf := some (fileOf pool6 1 #[] #[{ accessFlags := 9, nameIndex := 58, descriptorIndex := 57, attributes := #[] }] 16433 26 #[] #[{ accessFlags := 16409, nameIndex := 5, descriptorIndex := 6, attributes := #[] }, { accessFlags := 16409, nameIndex := 9, descriptorIndex := 6, attributes := #[] }, { accessFlags := 16409, nameIndex := 12, descriptorIndex := 6, attributes := #[] }, { accessFlags := 16409, nameIndex := 15, descriptorIndex := 6, attributes := #[] }, { accessFlags := 18, nameIndex := 37, descriptorIndex := 38, attributes := #[] }, { accessFlags := 4122, nameIndex := 18, descriptorIndex := 19, attributes := #[] }])
  fields := #[{ name := "MALFORMED", type := (.object "com/example/electd/electd/io/Rejection"), accessFlags := 16409, slot := 0, constantValue := 0 }, { name := "BAD_TAG", type := (.object "com/example/electd/electd/io/Rejection"), accessFlags := 16409, slot := 1, constantValue := 0 }, { name := "UNCONFIRMED", type := (.object "com/example/electd/electd/io/Rejection"), accessFlags := 16409, slot := 2, constantValue := 0 }, { name := "REPLAYED", type := (.object "com/example/electd/electd/io/Rejection"), accessFlags := 16409, slot := 3, constantValue := 0 }, { name := "text", type := (.object "java/lang/String"), accessFlags := 18, slot := 3, constantValue := 0 }, { name := "$VALUES", type := (.array (.object "com/example/electd/electd/io/Rejection")), accessFlags := 4122, slot := 4, constantValue := 0 }]
  methods := #[k6m0]
  instanceTypes := #[(.object "java/lang/String"), .int, .int, (.object "java/lang/String")]
  staticTypes := #[(.object "com/example/electd/electd/io/Rejection"), (.object "com/example/electd/electd/io/Rejection"), (.object "com/example/electd/electd/io/Rejection"), (.object "com/example/electd/electd/io/Rejection"), (.array (.object "com/example/electd/electd/io/Rejection"))]
  resolved := Array.replicate 72 none
  statics := some 0 }

def pool7 : Array CpInfo := pool [(1, .class_ 2), (0, u "com/example/electd/electd/model/MessageKind"), (2, u "REQUEST"), (0, u "Lcom/example/electd/electd/model/MessageKind;"), (2, u "REPLY"), (2, u "RELEASE"), (2, u "HELLO"), (0, .fieldref 1 17), (0, .nameAndType 18 19), (0, u "$VALUES"), (0, u "[Lcom/example/electd/electd/model/MessageKind;"), (0, .methodref 21 22), (0, .class_ 19), (0, .nameAndType 23 24), (0, u "clone"), (0, u "()Ljava/lang/Object;"), (1, .class_ 28), (1, u "java/lang/Enum"), (8, u "text"), (0, u "Ljava/lang/String;"), (18, u "()[Lcom/example/electd/electd/model/MessageKind;"), (0, u "values")] 13

def k7c0 : Code := { maxStack := 1, maxLocals := 0, code := prog_16_method_1_code, exceptionTable := #[], attributes := #[] }
def k7m0 : Method := { name := "values", desc := "()[Lcom/example/electd/electd/model/MessageKind;", sig := { parameters := [], returnType := some (.array (.object "com/example/electd/electd/model/MessageKind")) }, accessFlags := 9, code := some k7c0 }
/-- com/example/electd/electd/model/MessageKind -/
def k7 : Class := { plain "com/example/electd/electd/model/MessageKind" (some 5) with
  accessFlags := 16433
  interfaces := #[]
  cf := some (fileOf pool7 1 #[] #[{ accessFlags := 9, nameIndex := 58, descriptorIndex := 57, attributes := #[] }] 16433 26 #[] #[{ accessFlags := 16409, nameIndex := 5, descriptorIndex := 6, attributes := #[] }, { accessFlags := 16409, nameIndex := 9, descriptorIndex := 6, attributes := #[] }, { accessFlags := 16409, nameIndex := 12, descriptorIndex := 6, attributes := #[] }, { accessFlags := 16409, nameIndex := 15, descriptorIndex := 6, attributes := #[] }, { accessFlags := 18, nameIndex := 37, descriptorIndex := 38, attributes := #[] }, { accessFlags := 4122, nameIndex := 18, descriptorIndex := 19, attributes := #[] }])
  fields := #[{ name := "REQUEST", type := (.object "com/example/electd/electd/model/MessageKind"), accessFlags := 16409, slot := 0, constantValue := 0 }, { name := "REPLY", type := (.object "com/example/electd/electd/model/MessageKind"), accessFlags := 16409, slot := 1, constantValue := 0 }, { name := "RELEASE", type := (.object "com/example/electd/electd/model/MessageKind"), accessFlags := 16409, slot := 2, constantValue := 0 }, { name := "HELLO", type := (.object "com/example/electd/electd/model/MessageKind"), accessFlags := 16409, slot := 3, constantValue := 0 }, { name := "text", type := (.object "java/lang/String"), accessFlags := 18, slot := 3, constantValue := 0 }, { name := "$VALUES", type := (.array (.object "com/example/electd/electd/model/MessageKind")), accessFlags := 4122, slot := 4, constantValue := 0 }]
  methods := #[k7m0]
  instanceTypes := #[(.object "java/lang/String"), .int, .int, (.object "java/lang/String")]
  staticTypes := #[(.object "com/example/electd/electd/model/MessageKind"), (.object "com/example/electd/electd/model/MessageKind"), (.object "com/example/electd/electd/model/MessageKind"), (.object "com/example/electd/electd/model/MessageKind"), (.array (.object "com/example/electd/electd/model/MessageKind"))]
  resolved := Array.replicate 72 none
  statics := some 1 }

def pool8 : Array CpInfo := pool [(1, .methodref 2 3), (0, .class_ 4), (0, .nameAndType 5 6), (0, u "java/lang/Object"), (0, u "<init>"), (0, u "()V"), (0, .methodref 8 9), (0, .class_ 10), (0, .nameAndType 11 12), (0, u "com/example/electd/electd/model/MessageKind"), (0, u "values"), (0, u "()[Lcom/example/electd/electd/model/MessageKind;"), (0, .fieldref 14 15), (0, .class_ 16), (0, .nameAndType 17 18), (0, u "com/example/electd/electd/service/DatagramCounts"), (0, u "sent"), (0, u "[J"), (0, .fieldref 14 20), (0, .nameAndType 21 18), (0, u "received"), (0, .methodref 23 24), (0, .class_ 25), (0, .nameAndType 11 26), (0, u "com/example/electd/electd/io/Rejection"), (0, u "()[Lcom/example/electd/electd/io/Rejection;"), (0, .fieldref 14 28), (0, .nameAndType 29 18), (0, u "rejected"), (6, .methodref 8 37), (0, .nameAndType 38 39), (0, u "ordinal"), (0, u "()I"), (0, .methodref 23 37), (0, .methodref 14 3), (0, .methodref 43 44), (0, .class_ 45), (0, .nameAndType 46 47), (0, u "java/lang/System"), (0, u "arraycopy"), (0, u "(Ljava/lang/Object;ILjava/lang/Object;II)V"), (3, u "(Lcom/example/electd/electd/io/Rejection;)V"), (0, u "copy"), (0, u "()Lcom/example/electd/electd/service/DatagramCounts;"), (0, u "getSent"), (0, u "(Lcom/example/electd/electd/model/MessageKind;)J"), (0, u "getReceived"), (0, u "getRejected"), (0, u "(Lcom/example/electd/electd/io/Rejection;)J")] 2

def k8c0 : Code := { maxStack := 2, maxLocals := 1, code := prog_25_method_1_code, exceptionTable := #[], attributes := #[] }
def k8m0 : Method := { name := "<init>", desc := "()V", sig := { parameters := [], returnType := none }, accessFlags := 0, code := some k8c0 }
def k8c1 : Code := { maxStack := 6, maxLocals := 2, code := prog_25_method_4_code, exceptionTable := #[], attributes := #[] }
def k8m1 : Method := { name := "rejected", desc := "(Lcom/example/electd/electd/io/Rejection;)V", sig := { parameters := [(.object "com/example/electd/electd/io/Rejection")], returnType := none }, accessFlags := 0, code := some k8c1 }
def k8c2 : Code := { maxStack := 5, maxLocals := 2, code := prog_25_method_5_code, exceptionTable := #[], attributes := #[] }
def k8m2 : Method := { name := "copy", desc := "()Lcom/example/electd/electd/service/DatagramCounts;", sig := { parameters := [], returnType := some (.object "com/example/electd/electd/service/DatagramCounts") }, accessFlags := 0, code := some k8c2 }
def k8c3 : Code := { maxStack := 2, maxLocals := 2, code := prog_25_method_6_code, exceptionTable := #[], attributes := #[] }
def k8m3 : Method := { name := "getSent", desc := "(Lcom/example/electd/electd/model/MessageKind;)J", sig := { parameters := [(.object "com/example/electd/electd/model/MessageKind")], returnType := some .long }, accessFlags := 0, code := some k8c3 }
def k8c4 : Code := { maxStack := 2, maxLocals := 2, code := prog_25_method_7_code, exceptionTable := #[], attributes := #[] }
def k8m4 : Method := { name := "getReceived", desc := "(Lcom/example/electd/electd/model/MessageKind;)J", sig := { parameters := [(.object "com/example/electd/electd/model/MessageKind")], returnType := some .long }, accessFlags := 0, code := some k8c4 }
def k8c5 : Code := { maxStack := 2, maxLocals := 2, code := prog_25_method_8_code, exceptionTable := #[], attributes := #[] }
def k8m5 : Method := { name := "getRejected", desc := "(Lcom/example/electd/electd/io/Rejection;)J", sig := { parameters := [(.object "com/example/electd/electd/io/Rejection")], returnType := some .long }, accessFlags := 0, code := some k8c5 }
/-- com/example/electd/electd/service/DatagramCounts -/
def k8 : Class := { plain "com/example/electd/electd/service/DatagramCounts" (some 0) with
  accessFlags := 48
  interfaces := #[]
  cf := some (fileOf pool8 14 #[] #[{ accessFlags := 0, nameIndex := 5, descriptorIndex := 6, attributes := #[] }, { accessFlags := 0, nameIndex := 29, descriptorIndex := 51, attributes := #[] }, { accessFlags := 0, nameIndex := 52, descriptorIndex := 53, attributes := #[] }, { accessFlags := 0, nameIndex := 54, descriptorIndex := 55, attributes := #[] }, { accessFlags := 0, nameIndex := 56, descriptorIndex := 55, attributes := #[] }, { accessFlags := 0, nameIndex := 57, descriptorIndex := 58, attributes := #[] }] 48 2 #[] #[{ accessFlags := 18, nameIndex := 17, descriptorIndex := 18, attributes := #[] }, { accessFlags := 18, nameIndex := 21, descriptorIndex := 18, attributes := #[] }, { accessFlags := 18, nameIndex := 29, descriptorIndex := 18, attributes := #[] }])
  fields := #[{ name := "sent", type := (.array .long), accessFlags := 18, slot := 0, constantValue := 0 }, { name := "received", type := (.array .long), accessFlags := 18, slot := 1, constantValue := 0 }, { name := "rejected", type := (.array .long), accessFlags := 18, slot := 2, constantValue := 0 }]
  methods := #[k8m0, k8m1, k8m2, k8m3, k8m4, k8m5]
  instanceTypes := #[(.array .long), (.array .long), (.array .long)]
  staticTypes := #[]
  resolved := Array.replicate 61 none
  statics := none }

def pool9 : Array CpInfo := pool [(1, .class_ 2), (0, u "java/lang/Cloneable"), (0, .class_ 4), (0, u "java/lang/Object")] 2

/-- java/lang/Cloneable -/
def k9 : Class := { plain "java/lang/Cloneable" (some 0) with
  accessFlags := 1537
  interfaces := #[]
  cf := some (fileOf pool9 1 #[] #[] 1537 3 #[] #[])
  fields := #[]
  methods := #[]
  instanceTypes := #[]
  staticTypes := #[]
  resolved := Array.replicate 7 none
  statics := none }

def pool10 : Array CpInfo := pool [(2, .class_ 4), (1, u "java/lang/Object"), (0, u "<init>"), (0, u "()V"), (1, .class_ 10), (1, u "java/lang/System"), (0, u "allowSecurityManager"), (0, u "I"), (16, u "cons"), (0, u "Ljava/io/Console;"), (77, .class_ 110), (1, u "java/lang/System$CallersHolder"), (43, u "initialErrStream"), (0, u "Ljava/io/PrintStream;"), (19, u "security"), (0, u "Ljava/lang/SecurityManager;"), (31, .class_ 209), (0, u "java/lang/System$1"), (7, u "props"), (0, u "Ljava/util/Properties;"), (2, u "lineSeparator"), (0, u "Ljava/lang/String;"), (96, .class_ 321), (1, u "java/lang/System$LoggerFinder"), (5, .class_ 328), (0, u "java/lang/System$Logger"), (67, u "err"), (2, u "out"), (91, u "notSupportedJnuEncoding"), (15, u "in"), (17, u "initialIn"), (0, u "Ljava/io/InputStream;"), (35, u "bootLayer"), (0, u "Ljava/lang/ModuleLayer;"), (99, .class_ 664), (0, u "java/lang/System$2"), (9, u "NEVER"), (2, u "MAYBE"), (49, u "arraycopy"), (0, u "(Ljava/lang/Object;ILjava/lang/Object;II)V"), (72, .class_ 802), (0, u "java/lang/System$Logger$Level")] 31

def k10m0 : Method := { name := "<init>", desc := "()V", sig := { parameters := [], returnType := none }, accessFlags := 2, code := none }
def k10m1 : Method := { name := "arraycopy", desc := "(Ljava/lang/Object;ILjava/lang/Object;II)V", sig := { parameters := [(.object "java/lang/Object"), .int, (.object "java/lang/Object"), .int, .int], returnType := none }, accessFlags := 265, code := none }
/-- java/lang/System -/
def k10 : Class := { plain "java/lang/System" (some 0) with
  accessFlags := 49
  interfaces := #[]
  cf := some (fileOf pool10 8 #[.nestMembers #[319, 327, 801, 108, 663, 208]] #[{ accessFlags := 2, nameIndex := 5, descriptorIndex := 6, attributes := #[] }, { accessFlags := 265, nameIndex := 727, descriptorIndex := 728, attributes := #[] }] 49 2 #[] #[{ accessFlags := 25, nameIndex := 507, descriptorIndex := 526, attributes := #[] }, { accessFlags := 25, nameIndex := 399, descriptorIndex := 155, attributes := #[] }, { accessFlags := 25, nameIndex := 396, descriptorIndex := 155, attributes := #[] }, { accessFlags := 10, nameIndex := 525, descriptorIndex := 526, attributes := #[] }, { accessFlags := 26, nameIndex := 674, descriptorIndex := 12, attributes := #[] }, { accessFlags := 26, nameIndex := 677, descriptorIndex := 12, attributes := #[] }, { accessFlags := 10, nameIndex := 11, descriptorIndex := 12, attributes := #[] }, { accessFlags := 74, nameIndex := 175, descriptorIndex := 176, attributes := #[] }, { accessFlags := 10, nameIndex := 491, descriptorIndex := 222, attributes := #[] }, { accessFlags := 74, nameIndex := 29, descriptorIndex := 30, attributes := #[] }, { accessFlags := 74, nameIndex := 154, descriptorIndex := 155, attributes := #[] }, { accessFlags := 10, nameIndex := 217, descriptorIndex := 218, attributes := #[] }, { accessFlags := 10, nameIndex := 221, descriptorIndex := 222, attributes := #[] }, { accessFlags := 8, nameIndex := 562, descriptorIndex := 563, attributes := #[] }])
  fields := #[{ name := "in", type := (.object "java/io/InputStream"), accessFlags := 25, slot := 0, constantValue := 0 }, { name := "out", type := (.object "java/io/PrintStream"), accessFlags := 25, slot := 1, constantValue := 0 }, { name := "err", type := (.object "java/io/PrintStream"), accessFlags := 25, slot := 2, constantValue := 0 }, { name := "initialIn", type := (.object "java/io/InputStream"), accessFlags := 10, slot := 3, constantValue := 0 }, { name := "NEVER", type := .int, accessFlags := 26, slot := 4, constantValue := 0 }, { name := "MAYBE", type := .int, accessFlags := 26, slot := 5, constantValue := 0 }, { name := "allowSecurityManager", type := .int, accessFlags := 10, slot := 6, constantValue := 0 }, { name := "security", type := (.object "java/lang/SecurityManager"), accessFlags := 74, slot := 7, constantValue := 0 }, { name := "notSupportedJnuEncoding", type := (.object "java/lang/String"), accessFlags := 10, slot := 8, constantValue := 0 }, { name := "cons", type := (.object "java/io/Console"), accessFlags := 74, slot := 9, constantValue := 0 }, { name := "initialErrStream", type := (.object "java/io/PrintStream"), accessFlags := 74, slot := 10, constantValue := 0 }, { name := "props", type := (.object "java/util/Properties"), accessFlags := 10, slot := 11, constantValue := 0 }, { name := "lineSeparator", type := (.object "java/lang/String"), accessFlags := 10, slot := 12, constantValue := 0 }, { name := "bootLayer", type := (.object "java/lang/ModuleLayer"), accessFlags := 8, slot := 13, constantValue := 0 }]
  methods := #[k10m0, k10m1]
  instanceTypes := #[]
  staticTypes := #[(.object "java/io/InputStream"), (.object "java/io/PrintStream"), (.object "java/io/PrintStream"), (.object "java/io/InputStream"), .int, .int, .int, (.object "java/lang/SecurityManager"), (.object "java/lang/String"), (.object "java/io/Console"), (.object "java/io/PrintStream"), (.object "java/util/Properties"), (.object "java/lang/String"), (.object "java/lang/ModuleLayer")]
  resolved := Array.replicate 834 none
  statics := none }

/-- the primitive byte -/
def k11 : Class := { plain "byte" none with kind := .primitive 'B', accessFlags := 0x411 }
/-- [B -/
def k12 : Class := { plain "[B" (some 0) with kind := .array 11 .byte, interfaces := #[9, 4], accessFlags := 1041 }

/-- the primitive int -/
def k13 : Class := { plain "int" none with kind := .primitive 'I', accessFlags := 0x411 }
/-- [I -/
def k14 : Class := { plain "[I" (some 0) with kind := .array 13 .int, interfaces := #[9, 4], accessFlags := 1041 }

/-- the primitive long -/
def k15 : Class := { plain "long" none with kind := .primitive 'J', accessFlags := 0x411 }
/-- [J -/
def k16 : Class := { plain "[J" (some 0) with kind := .array 15 .long, interfaces := #[9, 4], accessFlags := 1041 }

/-- [Lcom/example/electd/electd/io/Rejection; -/
def k17 : Class := { plain "[Lcom/example/electd/electd/io/Rejection;" (some 0) with kind := .array 6 (.object "com/example/electd/electd/io/Rejection"), interfaces := #[9, 4], accessFlags := 1041 }

/-- [Lcom/example/electd/electd/model/MessageKind; -/
def k18 : Class := { plain "[Lcom/example/electd/electd/model/MessageKind;" (some 0) with kind := .array 7 (.object "com/example/electd/electd/model/MessageKind"), interfaces := #[9, 4], accessFlags := 1041 }

def heap : Heap := #[{ cls := 6, slots := #[.ref 8, .ref 9, .ref 10, .ref 11, .ref 3], vm := .statics 6 },
  { cls := 7, slots := #[.ref 4, .ref 5, .ref 6, .ref 7, .ref 2], vm := .statics 7 },
  { cls := 18, slots := #[.ref 4, .ref 5, .ref 6, .ref 7], vm := .none },
  { cls := 17, slots := #[.ref 8, .ref 9, .ref 10, .ref 11], vm := .none },
  { cls := 7, slots := #[.null, .int 0, .int 0, .null], vm := .none },
  { cls := 7, slots := #[.null, .int 1, .int 0, .null], vm := .none },
  { cls := 7, slots := #[.null, .int 2, .int 0, .null], vm := .none },
  { cls := 7, slots := #[.null, .int 3, .int 0, .null], vm := .none },
  { cls := 6, slots := #[.null, .int 0, .int 0, .null], vm := .none },
  { cls := 6, slots := #[.null, .int 1, .int 0, .null], vm := .none },
  { cls := 6, slots := #[.null, .int 2, .int 0, .null], vm := .none },
  { cls := 6, slots := #[.null, .int 3, .int 0, .null], vm := .none }]
def classes : Array Class := #[k0, k1, k2, k3, k4, k5, k6, k7, k8, k9, k10, k11, k12, k13, k14, k15, k16, k17, k18]
def interned : List (Array UInt16 × Addr) := []
def slotsUsed : Nat := 50
def theMethod : MethodId := ⟨1, 2⟩
def args0 : Array Value := #[.int 5, .int 7, .int 7, .int 5, .int 7, .int 7]
def aboutOver (below : List Frame) : State where
  vm := { classes := classes, interned := interned.toArray }
  heap := heap
  slotsUsed := slotsUsed
  threads := #[{ frames := .invoking theMethod args0 :: below }]
def below0 : List Frame := [.native { method := ⟨0, 0⟩, args := #[] }]
def about1 : State := aboutOver below0
def p0 : Program := .bare "" "" ""
def e0 : Env := launch0.env 0 0 0
theorem w_frames : about1.frames = Frame.invoking theMethod args0 :: below0 := rfl
set_option maxRecDepth 65536 in
theorem w_args : argsFit about1.vm theMethod args0 = true := by decide +kernel
set_option maxRecDepth 65536 in
theorem w_heap : heapFits about1 = true := by decide +kernel
set_option maxRecDepth 65536 in
theorem w_runnable : about1.curStatus? = some .runnable := by decide +kernel
set_option maxRecDepth 65536 in
theorem w_alone : about1.alone = true := by decide +kernel
set_option maxRecDepth 65536 in
theorem w_named : about1.methodNamed? x = some theMethod := by decide +kernel
set_option maxRecDepth 65536 in
theorem w_hears : about1.hears theMethod below0 = true := by decide +kernel
set_option maxRecDepth 65536 in
theorem w_ripe : about1.ripe theMethod args0 below0 = true := by decide +kernel
theorem w_running : about1.status = .running := rfl
set_option maxRecDepth 65536 in
theorem w_room : about1.hasRoom e0.platform room_1 = true :=
  launch0.hasRoom_least _ room_1 (by decide +kernel) (by decide +kernel) (by decide +kernel) (by decide +kernel) (by decide +kernel) (by decide +kernel)
theorem allAtoms_all (ts : List Jvm.Cond) (a : Array Jvm.Value) (st : Jvm.State) : (allAtoms ts).before a st = ts.all (fun c => c.before a st) := by
  induction ts with
  | nil => rfl
  | cons c t ih =>
    show (Jvm.Cond.and c (allAtoms t)).before a st = _
    rw [Jvm.Cond.before_and, ih, List.all_cons]
def words1 : List Jvm.Cond := Jvm.Cond.code x code maxLocals ret :: tables_1
/-- a 'code' word, met by the world's own term for the bytes: nothing is compared byte by byte -/
theorem code_word {y : MethodName} {bytes : ByteArray} {mx : Nat} {rt : Option FieldType} {a : Array Value} {s : State} {m : MethodId} {meth : Method} {c : Code} (h1 : s.methodNamed? y = some m) (h2 : s.vm.method? m = some meth) (h3 : meth.code = some c) (h4 : c.code = bytes)
    (h5 : (c.maxLocals == mx && c.exceptionTable.isEmpty && decide (c.maxStack ≤ mostOperands) && decide (meth.sig.returnType = rt) && !meth.locks && decide (parseMethodDescriptor y.desc = some meth.sig)) = true) : (Jvm.Cond.code y bytes mx rt).before a s = true := by
  simp only [Bool.and_eq_true, beq_iff_eq, Bool.not_eq_true', decide_eq_true_eq] at h5
  obtain ⟨⟨⟨⟨⟨g1, g2⟩, g3⟩, g4⟩, g5⟩, g6⟩ := h5
  simp [Cond.before, Cond.holds, Cond.value, h1, h2, h3, h4, g1, g2, g3, g4, g5, g6]
def isCode : Jvm.Cond → Bool
  | .code _ _ _ _ => true
  | _ => false
theorem all_split {L : List Jvm.Cond} {P : Jvm.Cond → Bool} (h1 : L.all (fun c => isCode c || P c) = true) (h2 : ∀ c ∈ L.filter isCode, P c = true) : L.all P = true := by
  refine List.all_eq_true.mpr fun c hc => ?_
  have h := List.all_eq_true.mp h1 c hc
  rcases Bool.eq_false_or_eq_true (isCode c) with hi | hi
  · exact h2 c (List.mem_filter.mpr ⟨hc, hi⟩)
  · simpa [hi] using h
set_option maxRecDepth 65536 in
theorem w_c0 : (Jvm.Cond.code x code maxLocals ret).before args0 about1 = true := code_word (m := ⟨1, 2⟩) (meth := k1m2) (c := k1c2) (by decide +kernel) rfl rfl rfl (by decide +kernel)
set_option maxRecDepth 65536 in
theorem w_c1 : (Jvm.Cond.code ({ cls := "com/example/electd/electd/service/DatagramCounts", name := "<init>", desc := "()V" } : Jvm.MethodName) prog_25_method_1_code (1 : Nat) (Option.none : Option Jvm.ClassFile.FieldType)).before args0 about1 = true := code_word (m := ⟨8, 0⟩) (meth := k8m0) (c := k8c0) (by decide +kernel) rfl rfl rfl (by decide +kernel)
set_option maxRecDepth 65536 in
theorem w_c2 : (Jvm.Cond.code ({ cls := "java/lang/Object", name := "<init>", desc := "()V" } : Jvm.MethodName) object_method_1_code (1 : Nat) (Option.none : Option Jvm.ClassFile.FieldType)).before args0 about1 = true := code_word (m := ⟨0, 0⟩) (meth := k0m0) (c := k0c0) (by decide +kernel) rfl rfl rfl (by decide +kernel)
set_option maxRecDepth 65536 in
theorem w_c3 : (Jvm.Cond.code ({ cls := "com/example/electd/electd/model/MessageKind", name := "values", desc := "()[Lcom/example/electd/electd/model/MessageKind;" } : Jvm.MethodName) prog_16_method_1_code (0 : Nat) (Option.some (Jvm.ClassFile.FieldType.array (Jvm.ClassFile.FieldType.object "com/example/electd/electd/model/MessageKind")))).before args0 about1 = true := code_word (m := ⟨7, 0⟩) (meth := k7m0) (c := k7c0) (by decide +kernel) rfl rfl rfl (by decide +kernel)
set_option maxRecDepth 65536 in
theorem w_c4 : (Jvm.Cond.code ({ cls := "com/example/electd/electd/io/Rejection", name := "values", desc := "()[Lcom/example/electd/electd/io/Rejection;" } : Jvm.MethodName) prog_4_method_1_code (0 : Nat) (Option.some (Jvm.ClassFile.FieldType.array (Jvm.ClassFile.FieldType.object "com/example/electd/electd/io/Rejection")))).before args0 about1 = true := code_word (m := ⟨6, 0⟩) (meth := k6m0) (c := k6c0) (by decide +kernel) rfl rfl rfl (by decide +kernel)
set_option maxRecDepth 65536 in
theorem w_c5 : (Jvm.Cond.code ({ cls := "com/example/electd/electd/service/DatagramCounts", name := "rejected", desc := "(Lcom/example/electd/electd/io/Rejection;)V" } : Jvm.MethodName) prog_25_method_4_code (2 : Nat) (Option.none : Option Jvm.ClassFile.FieldType)).before args0 about1 = true := code_word (m := ⟨8, 1⟩) (meth := k8m1) (c := k8c1) (by decide +kernel) rfl rfl rfl (by decide +kernel)
set_option maxRecDepth 65536 in
theorem w_c6 : (Jvm.Cond.code ({ cls := "java/lang/Enum", name := "ordinal", desc := "()I" } : Jvm.MethodName) jdk_37_method_2_code (1 : Nat) (Option.some Jvm.ClassFile.FieldType.int)).before args0 about1 = true := code_word (m := ⟨5, 0⟩) (meth := k5m0) (c := k5c0) (by decide +kernel) rfl rfl rfl (by decide +kernel)
set_option maxRecDepth 65536 in
theorem w_c7 : (Jvm.Cond.code ({ cls := "com/example/electd/electd/service/DatagramCounts", name := "copy", desc := "()Lcom/example/electd/electd/service/DatagramCounts;" } : Jvm.MethodName) prog_25_method_5_code (2 : Nat) (Option.some (Jvm.ClassFile.FieldType.object "com/example/electd/electd/service/DatagramCounts"))).before args0 about1 = true := code_word (m := ⟨8, 2⟩) (meth := k8m2) (c := k8c2) (by decide +kernel) rfl rfl rfl (by decide +kernel)
set_option maxRecDepth 65536 in
theorem w_c8 : (Jvm.Cond.code ({ cls := "com/example/electd/electd/service/DatagramCountsCopyPinLaw", name := "hit", desc := "(II)J" } : Jvm.MethodName) method_2_code (2 : Nat) (Option.some Jvm.ClassFile.FieldType.long)).before args0 about1 = true := code_word (m := ⟨1, 1⟩) (meth := k1m1) (c := k1c1) (by decide +kernel) rfl rfl rfl (by decide +kernel)
set_option maxRecDepth 65536 in
theorem w_c9 : (Jvm.Cond.code ({ cls := "com/example/electd/electd/service/DatagramCounts", name := "getRejected", desc := "(Lcom/example/electd/electd/io/Rejection;)J" } : Jvm.MethodName) prog_25_method_8_code (2 : Nat) (Option.some Jvm.ClassFile.FieldType.long)).before args0 about1 = true := code_word (m := ⟨8, 5⟩) (meth := k8m5) (c := k8c5) (by decide +kernel) rfl rfl rfl (by decide +kernel)
set_option maxRecDepth 65536 in
theorem w_c10 : (Jvm.Cond.code ({ cls := "com/example/electd/electd/service/DatagramCounts", name := "getSent", desc := "(Lcom/example/electd/electd/model/MessageKind;)J" } : Jvm.MethodName) prog_25_method_6_code (2 : Nat) (Option.some Jvm.ClassFile.FieldType.long)).before args0 about1 = true := code_word (m := ⟨8, 3⟩) (meth := k8m3) (c := k8c3) (by decide +kernel) rfl rfl rfl (by decide +kernel)
set_option maxRecDepth 65536 in
theorem w_c11 : (Jvm.Cond.code ({ cls := "com/example/electd/electd/service/DatagramCounts", name := "getReceived", desc := "(Lcom/example/electd/electd/model/MessageKind;)J" } : Jvm.MethodName) prog_25_method_7_code (2 : Nat) (Option.some Jvm.ClassFile.FieldType.long)).before args0 about1 = true := code_word (m := ⟨8, 4⟩) (meth := k8m4) (c := k8c4) (by decide +kernel) rfl rfl rfl (by decide +kernel)
def codes1 : List Jvm.Cond := [Jvm.Cond.code x code maxLocals ret, Jvm.Cond.code ({ cls := "com/example/electd/electd/service/DatagramCounts", name := "<init>", desc := "()V" } : Jvm.MethodName) prog_25_method_1_code (1 : Nat) (Option.none : Option Jvm.ClassFile.FieldType), Jvm.Cond.code ({ cls := "java/lang/Object", name := "<init>", desc := "()V" } : Jvm.MethodName) object_method_1_code (1 : Nat) (Option.none : Option Jvm.ClassFile.FieldType), Jvm.Cond.code ({ cls := "com/example/electd/electd/model/MessageKind", name := "values", desc := "()[Lcom/example/electd/electd/model/MessageKind;" } : Jvm.MethodName) prog_16_method_1_code (0 : Nat) (Option.some (Jvm.ClassFile.FieldType.array (Jvm.ClassFile.FieldType.object "com/example/electd/electd/model/MessageKind"))), Jvm.Cond.code ({ cls := "com/example/electd/electd/io/Rejection", name := "values", desc := "()[Lcom/example/electd/electd/io/Rejection;" } : Jvm.MethodName) prog_4_method_1_code (0 : Nat) (Option.some (Jvm.ClassFile.FieldType.array (Jvm.ClassFile.FieldType.object "com/example/electd/electd/io/Rejection"))), Jvm.Cond.code ({ cls := "com/example/electd/electd/service/DatagramCounts", name := "rejected", desc := "(Lcom/example/electd/electd/io/Rejection;)V" } : Jvm.MethodName) prog_25_method_4_code (2 : Nat) (Option.none : Option Jvm.ClassFile.FieldType), Jvm.Cond.code ({ cls := "java/lang/Enum", name := "ordinal", desc := "()I" } : Jvm.MethodName) jdk_37_method_2_code (1 : Nat) (Option.some Jvm.ClassFile.FieldType.int), Jvm.Cond.code ({ cls := "com/example/electd/electd/service/DatagramCounts", name := "copy", desc := "()Lcom/example/electd/electd/service/DatagramCounts;" } : Jvm.MethodName) prog_25_method_5_code (2 : Nat) (Option.some (Jvm.ClassFile.FieldType.object "com/example/electd/electd/service/DatagramCounts")), Jvm.Cond.code ({ cls := "com/example/electd/electd/service/DatagramCountsCopyPinLaw", name := "hit", desc := "(II)J" } : Jvm.MethodName) method_2_code (2 : Nat) (Option.some Jvm.ClassFile.FieldType.long), Jvm.Cond.code ({ cls := "com/example/electd/electd/service/DatagramCounts", name := "getRejected", desc := "(Lcom/example/electd/electd/io/Rejection;)J" } : Jvm.MethodName) prog_25_method_8_code (2 : Nat) (Option.some Jvm.ClassFile.FieldType.long), Jvm.Cond.code ({ cls := "com/example/electd/electd/service/DatagramCounts", name := "getSent", desc := "(Lcom/example/electd/electd/model/MessageKind;)J" } : Jvm.MethodName) prog_25_method_6_code (2 : Nat) (Option.some Jvm.ClassFile.FieldType.long), Jvm.Cond.code ({ cls := "com/example/electd/electd/service/DatagramCounts", name := "getReceived", desc := "(Lcom/example/electd/electd/model/MessageKind;)J" } : Jvm.MethodName) prog_25_method_7_code (2 : Nat) (Option.some Jvm.ClassFile.FieldType.long)]
set_option maxRecDepth 65536 in
theorem codes_eq : words1.filter isCode = codes1 := rfl
theorem w_codes : ∀ c ∈ words1.filter isCode, c.before args0 about1 = true := by
  rw [codes_eq]
  intro c hc
  simp only [codes1, List.mem_cons, List.not_mem_nil, or_false] at hc
  rcases hc with rfl | rfl | rfl | rfl | rfl | rfl | rfl | rfl | rfl | rfl | rfl | rfl
  · exact w_c0
  · exact w_c1
  · exact w_c2
  · exact w_c3
  · exact w_c4
  · exact w_c5
  · exact w_c6
  · exact w_c7
  · exact w_c8
  · exact w_c9
  · exact w_c10
  · exact w_c11
set_option maxRecDepth 65536 in
theorem w_t1 : (words1.take 24).all (fun c => isCode c || c.before args0 about1) = true := by decide +kernel
set_option maxRecDepth 65536 in
theorem w_t2 : ((words1.drop 24).take 24).all (fun c => isCode c || c.before args0 about1) = true := by decide +kernel
set_option maxRecDepth 65536 in
theorem w_t3 : (((words1.drop 24).drop 24).take 24).all (fun c => isCode c || c.before args0 about1) = true := by decide +kernel
set_option maxRecDepth 65536 in
theorem w_t4 : ((((words1.drop 24).drop 24).drop 24).take 24).all (fun c => isCode c || c.before args0 about1) = true := by decide +kernel
set_option maxRecDepth 65536 in
theorem w_t5 : ((((words1.drop 24).drop 24).drop 24).drop 24).all (fun c => isCode c || c.before args0 about1) = true := by decide +kernel
theorem w_tables : (allAtoms (Jvm.Cond.code x code maxLocals ret :: tables_1)).before args0 about1 = true := by
  rw [allAtoms_all]
  show words1.all (fun c => c.before args0 about1) = true
  refine all_split ?_ w_codes
  rw [← List.take_append_drop 24 words1, List.all_append, w_t1, ← List.take_append_drop 24 (words1.drop 24), List.all_append, w_t2, ← List.take_append_drop 24 ((words1.drop 24).drop 24), List.all_append, w_t3, ← List.take_append_drop 24 (((words1.drop 24).drop 24).drop 24), List.all_append, w_t4, w_t5]
  rfl
set_option maxRecDepth 65536 in
theorem w_case : (Jvm.Cond.and given_1 narrow_1).before args0 about1 = true := by decide +kernel
theorem w_applies : (headSpec (Jvm.Cond.code x code maxLocals ret :: tables_1) room_1).applies x e0.platform about1 = true :=
  (Spec.applies_iff w_frames).mpr ⟨w_running, w_runnable, w_alone, w_named, w_hears, w_ripe, w_room, w_tables⟩
theorem atStart : AtStart classFile x code maxLocals ret World_1 tables_1 room_1 Calls_1 rest_1 Pre_1 launch0 p0 e0 about1 theMethod args0 below0 :=
  ⟨lists_1, trivial, launch0.admits_env _ _ _, launch0.least_env, fairChoices_fair.cas, fairChoices_fair.clock, w_frames, w_args, w_heap, w_applies, trivial, trivial, w_case⟩
end start1
theorem witness_1 : WitnessClaimed_1 := ⟨start1.p0, start1.e0, start1.about1, start1.theMethod, start1.args0, start1.below0, start1.atStart⟩
end Jvm.Pilot.@@N@@
