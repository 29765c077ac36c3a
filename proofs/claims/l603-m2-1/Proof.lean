import JvmDerived
import JvmDerived.Pilot.@@N@@Statement
import JvmDerived.Pilot.@@N@@Code
set_option linter.unusedVariables false
set_option linter.unusedSimpArgs false
namespace Jvm.Pilot.@@N@@
open Jvm Jvm.ClassFile Sem Op Lib Jvm.Free Jvm.Stand Jvm.LawKit Jvm.RoadKit Bundle Jvm.Pilot.@@N@@.Jvm.D
section OwnKit
variable {p : Program} {l : Launch} {e : Env} {R : Room} {s : State} {m : MethodId} {args : Array Value} {below : List Frame} {meth : Method} {c : Code} {T : State} {locs : List Loc} {cells slots : Nat} {Z : State} {a0 : Array Value} {h : Heap} {Q : Option Value → Heap → List Loc → Prop} {cl sl : Nat}
/-- from the state U the run comes back, and what it leaves is as Q says -/
def Fin1 (p : Program) (e : Env) (below : List Frame) (s : State) (Q : Option Value → Heap → List Loc → Prop) (cl sl : Nat) (U : State) : Prop :=
  ∃ s₂ o, Steps p.tables e below U s₂ ∧ s₂.status = .running ∧ Ended s₂ below o ∧ ∃ v L, o = .returned v ∧ Q v s₂.heap L ∧ FrameEnd s o s₂ L cl sl
theorem own_st {U V : State} (h : ∀ t, Steps p.tables e below V t → Steps p.tables e below U t) (k : Fin1 p e below s Q cl sl V) : Fin1 p e below s Q cl sl U := by
  obtain ⟨s₂, o, h1, r⟩ := k
  exact ⟨s₂, o, h _ h1, r⟩
/-- a contract -/
def Ct (l : Launch) (Z : State) (ws : List Jvm.Cond) (y : MethodName) (bytes : ByteArray) (maxL : Nat) (ret : Option FieldType) (rm : Room) (as' : Array Value) (h : Heap) (Q : Option Value → Heap → List Loc → Prop) : Prop :=
  MetFree l y (head1 (Jvm.Cond.code y bytes maxL ret :: ws) rm) (fun a U => a = as' ∧ Z.Warmed39 U.vm ∧ U.heap = h) (fun _ _ _ _ _ => True) (fun _ U o U' => ∃ v L, o = .returned v ∧ Q v U'.heap L ∧ FrameEnd U o U' L rm.cells rm.slots)
theorem own_enter {ws : List Jvm.Cond} {y : MethodName} {bytes : ByteArray} {maxL : Nat} {ret : Option FieldType} {rm : Room} {as' : Array Value} (hp : plainFor y = true)
    (body : ∀ (p : Program) (e : Env) (s : State) (m : MethodId) (below : List Frame) (meth : Method) (c : Code) (T : State), Stand p l e rm s m as' below meth c T [] 0 0 → p.tables.exec = Jvm.exec → c.code = bytes → c.maxLocals = maxL → Z.Warmed39 s.vm → s.vm.findClass y.cls = some m.cls → meth.name = y.name →
      meth.sig.returnType = ret → meth.locks = false → T.heap = h → Fin1 p e below s Q rm.cells rm.slots (T.setTop (entryFrame m as' maxL))) : Ct l Z ws y bytes maxL ret rm as' h Q := by
  refine MetFree.of_bodySF hp hisR ?_
  intro p e s m args below meth c s₁ Bd hml hP _
  obtain ⟨rfl, hZ, hh⟩ := hP
  exact body p e s m below meth c s₁ (Stand.of_body Bd) Bd.exec Bd.bytes hml hZ (findClass_of_methodNamed Bd.named) (name_of_methodNamed Bd.named Bd.method).1 Bd.returns (BodyLoose.notSynchronized Bd) (by rw [← hh, Bd.state]; rfl)
/-- a stronger promise pays a weaker one -/
theorem Ct.mono {ws : List Jvm.Cond} {y : MethodName} {bytes : ByteArray} {maxL : Nat} {ret : Option FieldType} {rm : Room} {as' : Array Value} {Q' : Option Value → Heap → List Loc → Prop} (hC : Ct l Z ws y bytes maxL ret rm as' h Q) (hQ : ∀ v h' L, Q v h' L → Q' v h' L) : Ct l Z ws y bytes maxL ret rm as' h Q' := by
  intro p e ha hc hk s m args below hf happ hP hK
  obtain ⟨n, o, h1, h2, h3, v, L, h4, h5, h6⟩ := hC p e ha hc hk s m args below hf happ hP hK
  exact ⟨n, o, h1, h2, h3, v, L, h4, hQ _ _ _ h5, h6⟩
theorem own_leave (X : Stand p l e R s m args below meth c T locs cells slots) (hlk : meth.locks = false) {v : Option Value} (hv : meth.sig.returnType = none → v = none) {U : State}
    (hst : ∀ fs, (∀ (f : JFrame) (acts : List Action), f.method = m → f.locked = none → f.entered = [] → (doReturn e (T.setTop f) acts v).1 = T.setFrames fs) → Steps p.tables e below U (T.setFrames fs))
    (hQ : Q v T.heap locs) (hc : cells ≤ cl) (hs : slots ≤ sl) : Fin1 p e below s Q cl sl U := by
  obtain ⟨fs, hr, hrun, hended, hW, hsame⟩ := X.leave (v := v) hv hlk
  exact ⟨_, _, hst fs hr, hrun, hended, v, locs, rfl, hQ, ⟨_, rfl⟩, hW, hsame.mono hc hs⟩
theorem own_retV (X : Stand p l e R s m args below meth c T locs cells slots) (hx : p.tables.exec = Jvm.exec) (hlk : meth.locks = false) {pc : Nat} {Ls : Array Slot} (hret : meth.sig.returnType = none) (hd : decode c.code pc = .ok (.return_, 1))
    (hQ : Q none T.heap locs) (hc : cells ≤ cl) (hs : slots ≤ sl) : Fin1 p e below s Q cl sl (T.setTop (mkF m pc Ls [])) :=
  own_leave X hlk (fun _ => rfl) (fun fs hr => X.returnOut hx hret hd hr) hQ hc hs
theorem own_retI (X : Stand p l e R s m args below meth c T locs cells slots) (hx : p.tables.exec = Jvm.exec) (hlk : meth.locks = false) {pc : Nat} {Ls : Array Slot} {z : Int32} {rest : List Value} (hret : meth.sig.returnType = some .int) (hd : decode c.code pc = .ok (.ireturn, 1))
    (hQ : Q (some (.int z)) T.heap locs) (hc : cells ≤ cl) (hs : slots ≤ sl) : Fin1 p e below s Q cl sl (T.setTop (mkF m pc Ls (.int z :: rest))) :=
  own_leave X hlk (fun h => by rw [hret] at h; cases h) (fun fs hr => retOut X hx hret rfl (Or.inl ⟨rfl, Or.inl rfl, _, rfl⟩) hd hr) hQ hc hs
theorem own_retZ (X : Stand p l e R s m args below meth c T locs cells slots) (hx : p.tables.exec = Jvm.exec) (hlk : meth.locks = false) {pc : Nat} {Ls : Array Slot} {rest : List Value} (hret : meth.sig.returnType = some .boolean) (hd : decode c.code pc = .ok (.ireturn, 1)) {z : Int32} (hz : z = 0 ∨ z = 1)
    (hQ : Q (some (.int z)) T.heap locs) (hc : cells ≤ cl) (hs : slots ≤ sl) : Fin1 p e below s Q cl sl (T.setTop (mkF m pc Ls (.int z :: rest))) :=
  own_leave X hlk (fun h => by rw [hret] at h; cases h) (fun fs hr => retOut X hx hret (by rcases hz with rfl | rfl <;> rfl) (Or.inl ⟨rfl, Or.inr (Or.inl rfl), _, rfl⟩) hd hr) hQ hc hs
theorem own_retJ (X : Stand p l e R s m args below meth c T locs cells slots) (hx : p.tables.exec = Jvm.exec) (hlk : meth.locks = false) {pc : Nat} {Ls : Array Slot} {z : Int64} {rest : List Value} (hret : meth.sig.returnType = some .long) (hd : decode c.code pc = .ok (.lreturn, 1))
    (hQ : Q (some (.long z)) T.heap locs) (hc : cells ≤ cl) (hs : slots ≤ sl) : Fin1 p e below s Q cl sl (T.setTop (mkF m pc Ls (.long z :: rest))) :=
  own_leave X hlk (fun h => by rw [hret] at h; cases h) (fun fs hr => retOut X hx hret rfl (Or.inr (Or.inl ⟨rfl, rfl, _, rfl⟩)) hd hr) hQ hc hs
theorem own_retA (X : Stand p l e R s m args below meth c T locs cells slots) (hx : p.tables.exec = Jvm.exec) (hlk : meth.locks = false) {pc : Nat} {Ls : Array Slot} {z : Value} {rest : List Value} {t : FieldType} (hret : meth.sig.returnType = some t) (ht : t.isReference = true) (hz : z.isRef = true) (hd : decode c.code pc = .ok (.areturn, 1))
    (hQ : Q (some z) T.heap locs) (hc : cells ≤ cl) (hs : slots ≤ sl) : Fin1 p e below s Q cl sl (T.setTop (mkF m pc Ls (z :: rest))) :=
  own_leave X hlk (fun h => by rw [hret] at h; cases h) (fun fs hr => retOut X hx hret (by cases t <;> first | (cases ht; done) | (cases z <;> first | (cases hz; done) | rfl)) (Or.inr (Or.inr (Or.inr (Or.inr ⟨rfl, ht, hz⟩)))) hd hr) hQ hc hs
variable {own : String} {index : Nat} {y z : MethodName} {bytes : ByteArray} {maxL : Nat} {ret : Option FieldType} {rm : Room} {argsL rest : List Value} {a : Addr}
theorem own_static (X : Stand p l e R s m args below meth c T locs cells slots) (hx : p.tables.exec = Jvm.exec) (hZ : Z.Warmed39 s.vm) (hown : s.vm.findClass own = some m.cls) (w1 : (Jvm.Cond.methodLink own index y).before a0 Z = true) (w2 : (Jvm.Cond.static y).before a0 Z = true) (w3 : (Jvm.Cond.initialized y.cls).before a0 Z = true)
    (w4 : (Jvm.Cond.code y bytes maxL ret).before a0 Z = true) (hy : y.cls ≠ "java/lang/invoke/MethodHandle" ∧ y.cls ≠ "java/lang/invoke/VarHandle") (hC : Ct l Z [] y bytes maxL ret rm argsL.toArray h Q) (eT : T.heap = h) {g : JFrame} (hg : g.method = m) (hsize : g.locals.size = c.maxLocals)
    (hlen : ∀ sig, parseMethodDescriptor y.desc = some sig → argsL.length = sig.parameters.length) (hs : g.stack = argsL.reverse ++ rest) {W : Nat} (hW : 2 * g.monitorRoom + (rest.map fun v => v.category).sum ≤ W) (hd : decode c.code g.pc = .ok (.invokestatic index, 3))
    (hf : rm.frames + 1 ≤ R.frames) (hl : W + (maxL + 11) + rm.locals ≤ R.locals) (hc : cells + rm.cells ≤ R.cells) (hsl : slots + rm.slots ≤ R.slots) :
    ∃ v T' h' L, Stand p l e R s m args below meth c T' (locs ++ L) (cells + rm.cells) (slots + rm.slots) ∧ T'.heap = h' ∧ Q v h' L ∧ ∀ t, Steps p.tables e below (T'.setTop { g with pc := g.pc + 3, stack := v.toList ++ rest }) t → Steps p.tables e below (T.setTop g) t := by
  obtain ⟨v, _, ⟨T', L', k', n'⟩, -, X', ⟨Lc, hQ, l1, y1, z1⟩, st⟩ := Jvm.LawKit.callS X hx (y := y) hown (mvT hZ w1) (mvT hZ w2) (mvT hZ w3) (mvT hZ w4) hy (backOf (W := W) hC hZ w4 w3 hf hl) hg hsize hlen hs hW hd (fun _ _ => ⟨rfl, eT, hc, hsl⟩)
  dsimp only [Pt.U, Pt.locs, Pt.cells, Pt.slots] at X' l1 y1 z1 st hQ
  subst l1 y1 z1
  exact ⟨v, T', _, Lc, X', rfl, hQ, st⟩
theorem own_special (X : Stand p l e R s m args below meth c T locs cells slots) (hx : p.tables.exec = Jvm.exec) (hZ : Z.Warmed39 s.vm) (hown : s.vm.findClass own = some m.cls) (hy1 : y.name = "<init>") (w1 : (Jvm.Cond.methodLink own index y).before a0 Z = true) (w2 : (Jvm.Cond.instanceMethod y).before a0 Z = true)
    (w4 : (Jvm.Cond.code y bytes maxL none).before a0 Z = true) (w3 : (Jvm.Cond.initialized y.cls).before a0 Z = true) (hy : y.cls ≠ "java/lang/invoke/MethodHandle" ∧ y.cls ≠ "java/lang/invoke/VarHandle") (hC : Ct l Z [] y bytes maxL none rm (.ref a :: argsL).toArray h Q) (eT : T.heap = h) {g : JFrame} (hg : g.method = m) (hsize : g.locals.size = c.maxLocals)
    (hlen : ∀ sig, parseMethodDescriptor y.desc = some sig → argsL.length = sig.parameters.length) (hs : g.stack = argsL.reverse ++ .ref a :: rest) {W : Nat} (hW : 2 * g.monitorRoom + (rest.map fun v => v.category).sum ≤ W) (hd : decode c.code g.pc = .ok (.invokespecial index, 3))
    (hf : rm.frames + 1 ≤ R.frames) (hl : W + (maxL + 11) + rm.locals ≤ R.locals) (hc : cells + rm.cells ≤ R.cells) (hsl : slots + rm.slots ≤ R.slots) :
    ∃ v T' h' L, Stand p l e R s m args below meth c T' (locs ++ L) (cells + rm.cells) (slots + rm.slots) ∧ T'.heap = h' ∧ Q v h' L ∧ ∀ t, Steps p.tables e below (T'.setTop { g with pc := g.pc + 3, stack := v.toList ++ rest }) t → Steps p.tables e below (T.setTop g) t := by
  obtain ⟨v, _, ⟨T', L', k', n'⟩, -, X', ⟨Lc, hQ, l1, y1, z1⟩, st⟩ := X.specialBack hx (y := y) hy1 hown (mvT hZ w1) (mvT hZ w2) (mvT hZ w4) hy (backOf (W := W) hC hZ w4 w3 hf hl) hg hsize (Steps.refl _) (a := a) hlen hs hW hd (fun _ _ => ⟨rfl, eT, hc, hsl⟩)
  dsimp only [Pt.U, Pt.locs, Pt.cells, Pt.slots] at X' l1 y1 z1 st hQ
  subst l1 y1 z1
  exact ⟨v, T', _, Lc, X', rfl, hQ, fun t k => st.trans k⟩
theorem own_virtual {C : String} (X : Stand p l e R s m args below meth c T locs cells slots) (hx : p.tables.exec = Jvm.exec) (hZ : Z.Warmed39 s.vm) (hown : s.vm.findClass own = some m.cls) (w1 : (Jvm.Cond.methodLink own index y).before a0 Z = true) (w2 : (Jvm.Cond.declares y).before a0 Z = true) (w5 : (Jvm.Cond.selects C y y).before a0 Z = true)
    (w6 : (Jvm.Cond.instanceMethod y).before a0 Z = true) (w4 : (Jvm.Cond.code y bytes maxL ret).before a0 Z = true) (w3 : (Jvm.Cond.initialized y.cls).before a0 Z = true) (hy : y.cls ≠ "java/lang/invoke/MethodHandle" ∧ y.cls ≠ "java/lang/invoke/VarHandle") (E : Exa Z h a C) (hC : Ct l Z [] y bytes maxL ret rm (.ref a :: argsL).toArray h Q) (eT : T.heap = h) {g : JFrame} (hg : g.method = m) (hsize : g.locals.size = c.maxLocals)
    (hlen : ∀ sig, parseMethodDescriptor y.desc = some sig → argsL.length = sig.parameters.length) (hs : g.stack = argsL.reverse ++ .ref a :: rest) {W : Nat} (hW : 2 * g.monitorRoom + (rest.map fun v => v.category).sum ≤ W) (hd : decode c.code g.pc = .ok (.invokevirtual index, 3))
    (hf : rm.frames + 1 ≤ R.frames) (hl : W + (maxL + 11) + rm.locals ≤ R.locals) (hc : cells + rm.cells ≤ R.cells) (hsl : slots + rm.slots ≤ R.slots) :
    ∃ v T' h' L, Stand p l e R s m args below meth c T' (locs ++ L) (cells + rm.cells) (slots + rm.slots) ∧ T'.heap = h' ∧ Q v h' L ∧ ∀ t, Steps p.tables e below (T'.setTop { g with pc := g.pc + 3, stack := v.toList ++ rest }) t → Steps p.tables e below (T.setTop g) t := by
  obtain ⟨cq, kq, qa, qb, qc⟩ := isOf hZ eT E
  obtain ⟨v, _, ⟨T', L', k', n'⟩, -, X', ⟨Lc, hQ, l1, y1, z1⟩, st⟩ := X.virtualBack hx (y := y) (z := y) hown (mvT hZ w1) (mvT hZ w2) (notFace_of_selects (args := #[]) (mvT hZ w5)) (mvT hZ w5) (mvT hZ w6) hy (backOf (W := W) hC hZ w4 w3 hf hl) qa qc hg hsize (Steps.refl _) hlen hs hW hd (fun _ _ => ⟨rfl, eT, hc, hsl⟩)
  dsimp only [Pt.U, Pt.locs, Pt.cells, Pt.slots] at X' l1 y1 z1 st hQ
  subst l1 y1 z1
  exact ⟨v, T', _, Lc, X', rfl, hQ, fun t k => st.trans k⟩
theorem own_private {nn : Nat} (X : Stand p l e R s m args below meth c T locs cells slots) (hx : p.tables.exec = Jvm.exec) (hZ : Z.Warmed39 s.vm) (hown : s.vm.findClass own = some m.cls) (w1 : (Jvm.Cond.methodLink own index y).before a0 Z = true) (w2 : (Jvm.Cond.instanceMethod y).before a0 Z = true) (wi : (Jvm.Cond.instantiable y.cls nn).before a0 Z = true)
    (wp : (Jvm.Cond.privateMethod y).before a0 Z = true) (w4 : (Jvm.Cond.code y bytes maxL ret).before a0 Z = true) (w3 : (Jvm.Cond.initialized y.cls).before a0 Z = true) (hy : y.cls ≠ "java/lang/invoke/MethodHandle" ∧ y.cls ≠ "java/lang/invoke/VarHandle") (E : Exa Z h a y.cls) (hC : Ct l Z [] y bytes maxL ret rm (.ref a :: argsL).toArray h Q) (eT : T.heap = h) {g : JFrame} (hg : g.method = m) (hsize : g.locals.size = c.maxLocals)
    (hlen : ∀ sig, parseMethodDescriptor y.desc = some sig → argsL.length = sig.parameters.length) (hs : g.stack = argsL.reverse ++ .ref a :: rest) {W : Nat} (hW : 2 * g.monitorRoom + (rest.map fun v => v.category).sum ≤ W) (hd : decode c.code g.pc = .ok (.invokevirtual index, 3))
    (hf : rm.frames + 1 ≤ R.frames) (hl : W + (maxL + 11) + rm.locals ≤ R.locals) (hc : cells + rm.cells ≤ R.cells) (hsl : slots + rm.slots ≤ R.slots) :
    ∃ v T' h' L, Stand p l e R s m args below meth c T' (locs ++ L) (cells + rm.cells) (slots + rm.slots) ∧ T'.heap = h' ∧ Q v h' L ∧ ∀ t, Steps p.tables e below (T'.setTop { g with pc := g.pc + 3, stack := v.toList ++ rest }) t → Steps p.tables e below (T.setTop g) t := by
  obtain ⟨cell, hcell, hobj⟩ := E.cell
  have hsel : (Jvm.Cond.selects y.cls y y).before args s = true := by
    obtain ⟨c', k', i1, i2, -, i4, -⟩ := Cond.instantiable_spec (mvT hZ wi : (Jvm.Cond.instantiable y.cls nn).before args s = true)
    exact selects_self_of_private i1 i2 (Bool.or_eq_false_iff.mp i4).1 (Cond.privateMethod_at (mvP hZ wp (args := args))) (mvT hZ w2) hy
  obtain ⟨v, _, ⟨T', L', k', n'⟩, -, X', ⟨Lc, hQ, l1, y1, z1⟩, st⟩ := X.privateBack hx (y := y) hown (mvT hZ w1) (mvT hZ w2) hsel (Cond.privateMethod_at (mvP hZ wp (args := #[]))) (mvT hZ w4) hy (backOf (W := W) hC hZ w4 w3 hf hl) hg hsize (Steps.refl _) (a := a) (by rw [eT]; exact hcell) hobj hlen hs hW hd (fun _ _ => ⟨rfl, eT, hc, hsl⟩)
  dsimp only [Pt.U, Pt.locs, Pt.cells, Pt.slots] at X' l1 y1 z1 st hQ
  subst l1 y1 z1
  exact ⟨v, T', _, Lc, X', rfl, hQ, fun t k => st.trans k⟩
theorem own_virtualUp {C owner : String} (X : Stand p l e R s m args below meth c T locs cells slots) (hx : p.tables.exec = Jvm.exec) (hZ : Z.Warmed39 s.vm) (hown : s.vm.findClass own = some m.cls) (w1 : (Jvm.Cond.methodLink own index y).before a0 Z = true) (ws : (Jvm.Cond.sameMethod y.cls owner y.name y.desc).before a0 Z = true) (w2 : (Jvm.Cond.declares ⟨owner, y.name, y.desc⟩).before a0 Z = true) (w5 : (Jvm.Cond.selects C y z).before a0 Z = true)
    (w6 : (Jvm.Cond.instanceMethod z).before a0 Z = true) (w4 : (Jvm.Cond.code z bytes maxL ret).before a0 Z = true) (w3 : (Jvm.Cond.initialized z.cls).before a0 Z = true) (ho : owner ≠ "java/lang/invoke/MethodHandle" ∧ owner ≠ "java/lang/invoke/VarHandle") (E : Exa Z h a C) (hC : Ct l Z [] z bytes maxL ret rm (.ref a :: argsL).toArray h Q) (eT : T.heap = h) {g : JFrame} (hg : g.method = m) (hsize : g.locals.size = c.maxLocals)
    (hlen : ∀ sig, parseMethodDescriptor y.desc = some sig → argsL.length = sig.parameters.length) (hs : g.stack = argsL.reverse ++ .ref a :: rest) {W : Nat} (hW : 2 * g.monitorRoom + (rest.map fun v => v.category).sum ≤ W) (hd : decode c.code g.pc = .ok (.invokevirtual index, 3))
    (hf : rm.frames + 1 ≤ R.frames) (hl : W + (maxL + 11) + rm.locals ≤ R.locals) (hc : cells + rm.cells ≤ R.cells) (hsl : slots + rm.slots ≤ R.slots) :
    ∃ v T' h' L, Stand p l e R s m args below meth c T' (locs ++ L) (cells + rm.cells) (slots + rm.slots) ∧ T'.heap = h' ∧ Q v h' L ∧ ∀ t, Steps p.tables e below (T'.setTop { g with pc := g.pc + 3, stack := v.toList ++ rest }) t → Steps p.tables e below (T.setTop g) t := by
  obtain ⟨cq, kq, qa, qb, qc⟩ := isOf hZ eT E
  obtain ⟨v, _, ⟨T', L', k', n'⟩, -, X', ⟨Lc, hQ, l1, y1, z1⟩, st⟩ := X.virtualBackUp hx (x := y) (y := z) (owner := owner) hown (mvT hZ w1) (mvT hZ ws) (mvT hZ w2) ho (mvT hZ w5) (mvT hZ w6) (backOf (W := W) hC hZ w4 w3 hf hl) qa qc hg hsize (Steps.refl _) hlen hs hW hd (fun _ _ => ⟨rfl, eT, hc, hsl⟩)
  dsimp only [Pt.U, Pt.locs, Pt.cells, Pt.slots] at X' l1 y1 z1 st hQ
  subst l1 y1 z1
  exact ⟨v, T', _, Lc, X', rfl, hQ, fun t k => st.trans k⟩
theorem own_ref {x : Value} (hq : x = .null ∨ ∃ b, x = .ref b) : x.isRef = true := by rcases hq with rfl | ⟨_, rfl⟩ <;> rfl
theorem own_cat {x : Value} (hq : x = .null ∨ ∃ b, x = .ref b) : x.category = 1 := by rcases hq with rfl | ⟨_, rfl⟩ <;> rfl
theorem own_nar {x : Value} {t : FieldType} (hq : x = .null ∨ ∃ b, x = .ref b) (ht : t.isReference = true) : narrow t x = x := by rcases hq with rfl | ⟨_, rfl⟩ <;> cases t <;> first | rfl | (cases ht; done)
theorem own_fit {x : Value} {t : FieldType} (hq : x = .null ∨ ∃ b, x = .ref b) (ht : t.isReference = true) : fits t x = true := by rcases hq with rfl | ⟨_, rfl⟩ <;> cases t <;> first | rfl | (cases ht; done)
variable {k : ClassId} {ty : FieldType} {n j : Int32} {vs : List Value} {dv v : Value}
theorem own_ld (X : Stand p l e R s m args below meth c T locs cells slots) (hx : p.tables.exec = Jvm.exec) (hZ : Z.Warmed39 s.vm) (eT : T.heap = h) (F : Arv Z h a k ty n vs dv) (hj : ¬ j < 0 ∧ j < n) (hv : vs.getD j.toNatClampNeg dv = v) {g : JFrame} (hg : g.method = m) (hs : g.stack = .int j :: .ref a :: rest) {i : Instr}
    (hi : (i = .iaload ∧ ty = .int) ∨ (i = .laload ∧ ty = .long) ∨ (i = .aaload ∧ ty.isReference = true)) (hd : decode c.code g.pc = .ok (i, 1)) : ∀ t, Steps p.tables e below (T.setTop { g with pc := g.pc + 1, stack := v :: rest }) t → Steps p.tables e below (T.setTop g) t := by
  obtain ⟨cl, A, -, S, -, H, -⟩ := F
  have hin := inb_of S hj
  have hat := H.at hin hv
  rcases hi with ⟨rfl, rfl⟩ | ⟨rfl, rfl⟩ | ⟨rfl, ht⟩
  · exact X.iaload hx (j := j) (v := v) (by rw [eT]; exact A.1) (State.isArrayOf_alike hZ.alike A.2.1) A.2.2 hin hat hg hs hd
  · exact X.laload hx (j := j) (v := v) (by rw [eT]; exact A.1) (State.isArrayOf_alike hZ.alike A.2.1) A.2.2 hin hat hg hs hd
  · exact X.aaload hx (j := j) (v := v) (by rw [eT]; exact A.1) (State.isArrayOf_alike hZ.alike A.2.1) ht A.2.2 hin hat hg hs hd
theorem own_len (X : Stand p l e R s m args below meth c T locs cells slots) (hx : p.tables.exec = Jvm.exec) (hZ : Z.Warmed39 s.vm) (eT : T.heap = h) (F : Arv Z h a k ty n vs dv) {g : JFrame} (hg : g.method = m) (hs : g.stack = .ref a :: rest) (hd : decode c.code g.pc = .ok (.arraylength, 1)) :
    ∀ t, Steps p.tables e below (T.setTop { g with pc := g.pc + 1, stack := .int n :: rest }) t → Steps p.tables e below (T.setTop g) t := by
  obtain ⟨cl, A, -, S, q, -, -⟩ := F
  intro t kt
  refine X.arraylength hx (by rw [eT]; exact A.1) (State.isArrayOf_alike hZ.alike A.2.1) hg hs hd t ?_
  rw [len_of S q]
  exact kt
theorem own_lenA {cc : Cell} (X : Stand p l e R s m args below meth c T locs cells slots) (hx : p.tables.exec = Jvm.exec) (hZ : Z.Warmed39 s.vm) (eT : T.heap = h) (A : Arr Z h a cc ty) (hn : cc.slots.size.toInt32 = n) {g : JFrame} (hg : g.method = m) (hs : g.stack = .ref a :: rest) (hd : decode c.code g.pc = .ok (.arraylength, 1)) :
    ∀ t, Steps p.tables e below (T.setTop { g with pc := g.pc + 1, stack := .int n :: rest }) t → Steps p.tables e below (T.setTop g) t := by
  intro t kt
  refine X.arraylength hx (by rw [eT]; exact A.1) (State.isArrayOf_alike hZ.alike A.2.1) hg hs hd t ?_
  rw [hn]
  exact kt
theorem own_stI (X : Stand p l e R s m args below meth c T locs cells slots) (hx : p.tables.exec = Jvm.exec) (hZ : Z.Warmed39 s.vm) (eT : T.heap = h) (F : Arv Z h a k .int n vs dv) (hj : ¬ j < 0 ∧ j < n) (i : Nat) (hi : j.toNatClampNeg = i) (hl : i < vs.length) {x : Int32} {g : JFrame} (hg : g.method = m) (hs : g.stack = .int x :: .int j :: .ref a :: rest) (hd : decode c.code g.pc = .ok (.iastore, 1)) :
    ∃ T' h', Stand p l e R s m args below meth c T' (locs ++ [⟨a, j.toNatClampNeg⟩]) cells slots ∧ T'.heap = h' ∧ Wr h h' a j.toNatClampNeg (.int x) ∧ Arv Z h' a k .int n (vs.set i (.int x)) dv ∧ ∀ t, Steps p.tables e below (T'.setTop { g with pc := g.pc + 1, stack := rest }) t → Steps p.tables e below (T.setTop g) t := by
  obtain ⟨cl, A, q1, S, q3, H, G⟩ := F
  obtain ⟨T', h', X', e', W, st⟩ := stI X hx hZ eT A (inb_of S hj) hg hs hd
  exact ⟨T', h', X', e', W, Arv.set A q1 S q3 H G rfl W i hi hl, st⟩
theorem own_stJ (X : Stand p l e R s m args below meth c T locs cells slots) (hx : p.tables.exec = Jvm.exec) (hZ : Z.Warmed39 s.vm) (eT : T.heap = h) (F : Arv Z h a k .long n vs dv) (hj : ¬ j < 0 ∧ j < n) (i : Nat) (hi : j.toNatClampNeg = i) (hl : i < vs.length) {x : Int64} {g : JFrame} (hg : g.method = m) (hs : g.stack = .long x :: .int j :: .ref a :: rest) (hd : decode c.code g.pc = .ok (.lastore, 1)) :
    ∃ T' h', Stand p l e R s m args below meth c T' (locs ++ [⟨a, j.toNatClampNeg⟩]) cells slots ∧ T'.heap = h' ∧ Wr h h' a j.toNatClampNeg (.long x) ∧ Arv Z h' a k .long n (vs.set i (.long x)) dv ∧ ∀ t, Steps p.tables e below (T'.setTop { g with pc := g.pc + 1, stack := rest }) t → Steps p.tables e below (T.setTop g) t := by
  obtain ⟨cl, A, q1, S, q3, H, G⟩ := F
  obtain ⟨T', h', X', e', W, st⟩ := stJ X hx hZ eT A (inb_of S hj) hg hs hd
  exact ⟨T', h', X', e', W, Arv.set A q1 S q3 H G rfl W i hi hl, st⟩
theorem own_stR {C : String} {y : Value} (X : Stand p l e R s m args below meth c T locs cells slots) (hx : p.tables.exec = Jvm.exec) (hZ : Z.Warmed39 s.vm) (eT : T.heap = h) (F : Arv Z h a k ty n vs dv) (ht : ty.isReference = true) (hf : fits ty y = true) (O : y = .null ∨ ∃ b, y = .ref b ∧ Ovr Z k C ∧ Ins Z h b C true) (hj : ¬ j < 0 ∧ j < n) (i : Nat) (hi : j.toNatClampNeg = i) (hl : i < vs.length) {g : JFrame} (hg : g.method = m) (hs : g.stack = y :: .int j :: .ref a :: rest) (hd : decode c.code g.pc = .ok (.aastore, 1)) :
    ∃ T' h', Stand p l e R s m args below meth c T' (locs ++ [⟨a, j.toNatClampNeg⟩]) cells slots ∧ T'.heap = h' ∧ Wr h h' a j.toNatClampNeg y ∧ Arv Z h' a k ty n (vs.set i y) dv ∧ ∀ t, Steps p.tables e below (T'.setTop { g with pc := g.pc + 1, stack := rest }) t → Steps p.tables e below (T.setTop g) t := by
  obtain ⟨cl, A, q1, S, q3, H, G⟩ := F
  obtain ⟨T', h', X', e', W, st⟩ := stR X hx hZ eT A (inb_of S hj) ht (by rcases O with rfl | ⟨b, rfl, O, I⟩; exact Or.inl rfl; exact Sto.ofV A q1 O I) hg hs hd
  exact ⟨T', h', X', e', W, Arv.set A q1 S q3 H G hf W i hi hl, st⟩
end OwnKit
section OwnRef
variable {p : Program} {l : Launch} {e : Env} {R : Room} {s : State} {m : MethodId} {args : Array Value} {below : List Frame} {meth : Method} {c : Code} {T : State} {locs : List Loc} {cells slots : Nat} {Z : State} {a0 : Array Value} {h : Heap} {Q : Option Value → Heap → List Loc → Prop} {own O n d : String} {index : Nat} {a : Addr}
/-- a field's entry that the words say is resolved -/
theorem own_ready (X : Stand p l e R s m args below meth c T locs cells slots) (hZ : Z.Warmed39 s.vm) (hown : s.vm.findClass own = some m.cls) (w : (Jvm.Cond.fieldRef own index O n d).before a0 Z = true) {cf : ClassId} {k : Class} {i : Nat} {f : Field} (hi : Z.fieldFound? O n d = some (cf, k, i, f)) : T.vm.fieldReady m.cls index cf f := by
  have hZT : Z.Warmed39 T.vm := wtrans hZ X.warmed
  have hT : (Z.setVm T.vm).vm.findClass own = some m.cls := by
    show T.vm.findClass own = some m.cls
    rw [X.warmed.alike.findClass]; exact hown
  obtain ⟨c', k', i', f', g1, g2⟩ := Cond.fieldRef_spec hT (Cond.fieldRef_warmed39 hZT w)
  obtain ⟨k2, q, -⟩ := State.fieldFound?_setVm (s := Z) hZT.alike hi
  cases g1.symm.trans q
  exact g2
theorem own_getRef (X : Stand p l e R s m args below meth c T locs cells slots) (hx : p.tables.exec = Jvm.exec) (hZ : Z.Warmed39 s.vm) (hown : s.vm.findClass own = some m.cls) (w : (Jvm.Cond.fieldRef own index O n d).before a0 Z = true) (eT : T.heap = h) {v : Value} (F : Fld Z h a O n d v) {g : JFrame} (hg : g.method = m) {rest : List Value} (hs : g.stack = .ref a :: rest) (hd : decode c.code g.pc = .ok (.getfield index, 3)) :
    ∃ T', Stand p l e R s m args below meth c T' locs cells slots ∧ T'.heap = h ∧ ∀ t, Steps p.tables e below (T'.setTop { g with pc := g.pc + 3, stack := v :: rest }) t → Steps p.tables e below (T.setTop g) t := by
  obtain ⟨cell, cf, k, i, f, h1, h2, h3, h4, -, -, h7⟩ := F
  exact ⟨T, X, eT, fun t k => (X.getfieldR hx hg (own_ready X hZ hown w h2) h3 hs (by rw [eT]; exact h1) h4 h7 hd (Steps.refl _)).trans k⟩
theorem own_putRef {C : String} {kk : Nat} {ty : FieldType} (X : Stand p l e R s m args below meth c T locs cells slots) (hx : p.tables.exec = Jvm.exec) (hZ : Z.Warmed39 s.vm) (hown : s.vm.findClass own = some m.cls) (w : (Jvm.Cond.fieldRef own index O n d).before a0 Z = true) (eT : T.heap = h) {v old : Value} (F : Fld Z h a O n d old) (E : Exa Z h a C) (L : (Jvm.Cond.lays C O n d).before a0 Z = true) (wi : (Jvm.Cond.instantiable C kk).before a0 Z = true)
    (hty : parseFieldDescriptor d = some ty) (hn : narrow ty v = v) (hf : fits ty v = true) {g : JFrame} (hg : g.method = m) {rest : List Value} (hs : g.stack = v :: .ref a :: rest) (hd : decode c.code g.pc = .ok (.putfield index, 3)) :
    ∃ T' h', Stand p l e R s m args below meth c T' (locs ++ [⟨a, Jvm.RoadKit.slotOf Z O n d⟩]) cells slots ∧ T'.heap = h' ∧ Wr h h' a (Jvm.RoadKit.slotOf Z O n d) v ∧ ∀ t, Steps p.tables e below (T'.setTop { g with pc := g.pc + 3, stack := rest }) t → Steps p.tables e below (T.setTop g) t := by
  obtain ⟨cell, cf, k, i, f, h1, h2, h3, h4, h5, -, h7⟩ := F
  obtain ⟨cell', kc, e1, e2, e3, -⟩ := E
  cases h1.symm.trans e1
  obtain ⟨c1, k1, cf1, kf1, i1, f1, l1, l2, l3, -, l5, -, l7, -⟩ := Cond.lays_spec L
  cases h2.symm.trans l3
  cases e2.symm.trans l1
  obtain ⟨c2, k2, j1, j2, j3, -⟩ := Cond.instantiable_spec wi
  cases e2.symm.trans j1
  cases l2.symm.trans j2
  have ht := (State.fieldFound?_type h2 hty).2
  have fit : Z.fitsSlot cell.cls cell.vm f.slot v = true := by
    have q : Z.slotType? cell.cls cell.vm f.slot = some ty := by
      simp only [State.slotType?, l2, Option.bind_eq_bind, Option.bind_some, j3]
      cases hq : cell.vm <;> first | (rw [hq] at h5; exact Bool.noConfusion h5) | (rw [l7, ht])
    simp [State.fitsSlot, q, hf]
  have hZT : Z.Warmed39 T.vm := wtrans hZ X.warmed
  have fitT : T.fitsSlot cell.cls cell.vm f.slot v = true := by rw [← State.fitsSlot_setVm hZT.alike] at fit; exact fit
  have hlt := (Array.getElem?_eq_some_iff.mp h7).1
  have es : Jvm.RoadKit.slotOf Z O n d = f.slot := by simp [Jvm.RoadKit.slotOf, h2]
  rw [es]
  obtain ⟨X', st⟩ := X.putfieldReady hx (own_ready X hZ hown w h2) h3 (Or.inl l5) (by rw [eT]; exact h1) h4 hlt (by rw [ht]; exact hn) fitT hg hs hd
  exact ⟨_, _, X', rfl, ⟨cell, h1, h5, hlt, by rw [← eT]; rfl⟩, st⟩
theorem own_specialRef {y : MethodName} {bytes : ByteArray} {maxL : Nat} {rm : Room} {argsL rest : List Value} (X : Stand p l e R s m args below meth c T locs cells slots) (hx : p.tables.exec = Jvm.exec) (hZ : Z.Warmed39 s.vm) (hown : s.vm.findClass own = some m.cls) (hy1 : y.name = "<init>") (w1 : (Jvm.Cond.methodRef own index y).before a0 Z = true) (w2 : (Jvm.Cond.instanceMethod y).before a0 Z = true)
    (w4 : (Jvm.Cond.code y bytes maxL none).before a0 Z = true) (w3 : (Jvm.Cond.initialized y.cls).before a0 Z = true) (hy : y.cls ≠ "java/lang/invoke/MethodHandle" ∧ y.cls ≠ "java/lang/invoke/VarHandle") (hC : Ct l Z [] y bytes maxL none rm (.ref a :: argsL).toArray h Q) (eT : T.heap = h) {g : JFrame} (hg : g.method = m) (hsize : g.locals.size = c.maxLocals)
    (hlen : ∀ sig, parseMethodDescriptor y.desc = some sig → argsL.length = sig.parameters.length) (hs : g.stack = argsL.reverse ++ .ref a :: rest) {W : Nat} (hW : 2 * g.monitorRoom + (rest.map fun v => v.category).sum ≤ W) (hd : decode c.code g.pc = .ok (.invokespecial index, 3))
    (hf : rm.frames + 1 ≤ R.frames) (hl : W + (maxL + 11) + rm.locals ≤ R.locals) (hc : cells + rm.cells ≤ R.cells) (hsl : slots + rm.slots ≤ R.slots) :
    ∃ v T' h' L, Stand p l e R s m args below meth c T' (locs ++ L) (cells + rm.cells) (slots + rm.slots) ∧ T'.heap = h' ∧ Q v h' L ∧ ∀ t, Steps p.tables e below (T'.setTop { g with pc := g.pc + 3, stack := v.toList ++ rest }) t → Steps p.tables e below (T.setTop g) t := by
  have hZT : Z.Warmed39 T.vm := wtrans hZ X.warmed
  have hal := hZT.alike
  obtain ⟨mk, mM, hnZ, hmZ, hst, hab⟩ := Cond.instanceMethod_spec w2
  obtain ⟨mM', cM, hmZ', -, -, -, -, -, -, hsig⟩ := Cond.code_spec hnZ w4
  cases hmZ.symm.trans hmZ'
  have hnT : (Z.setVm T.vm).methodNamed? y = some mk := by rw [State.methodNamed?_setVm hal]; exact hnZ
  have hmT : (Z.setVm T.vm).vm.method? mk = some mM := by
    show T.vm.method? mk = some mM
    rw [hal.method?]; exact hmZ
  have hT : (Z.setVm T.vm).vm.findClass own = some m.cls := by
    show T.vm.findClass own = some m.cls
    rw [X.warmed.alike.findClass]; exact hown
  obtain ⟨m1, c', g1, g2, g3, g4⟩ := Cond.methodRef_named e hT (Cond.methodRef_warmed39 hZT hnZ hy w1)
  cases g1.symm.trans (State.methodFound?_of_named hnT hy)
  cases g3.symm.trans (findClass_of_methodNamed hnT)
  obtain ⟨kT, hkT, -⟩ := className_of_methodNamed hnT
  obtain ⟨nm1, nm2⟩ := name_of_methodNamed hnT hmT
  have hfound : lookupSpecial T.vm mk.cls "<init>" mM.desc = .method mk := by
    rw [nm2, ← hy1]; exact lookupSpecial_of_named (s := Z.setVm T.vm) hnT hmT hst
  obtain ⟨v, ⟨T', L', k', n'⟩, X', ⟨Lc, hQ, l1, y1, z1⟩, hst'⟩ := (backOf (p := p) (e := e) (below := below) (s := s) (args := args) (R := R) (len := 3) (W := W) hC hZ w4 w3 hf hl) m meth c ⟨T, locs, cells, slots⟩ { g with stack := rest } (.invokespecial index) mk (.ref a :: argsL).toArray X hg hsize hd hW hnT ⟨rfl, eT, hc, hsl⟩
  dsimp only [Pt.U, Pt.locs, Pt.cells, Pt.slots] at X' l1 y1 z1 hst' hQ
  subst l1 y1 z1
  refine ⟨v, T', _, Lc, X', rfl, hQ, fun t k => Steps.trans ?_ (hst'.trans k)⟩
  subst hg
  jvm_step X.here [hx, hd, invokespecial.wp_init (e := e) (s := T) (k := kT) (meth := mM) (m := mk) (a := a) (args := argsL) (rest := rest) (f := g) X.here.top g4 g2 hkT hmT (by rw [nm1]; exact hy1) hst hab hfound (hlen _ hsig) hs]
  first | (intro acts; rw [doInvoke_state]; exact Steps.refl _) | (rw [doInvoke_state]; exact Steps.refl _) | exact Steps.refl _
theorem own_ne_arv {C : String} {kk : Nat} {b : Addr} {kc : ClassId} {ty : FieldType} {z : Int32} {vs : List Value} {dv : Value} (E : Exa Z h a C) (wi : (Jvm.Cond.instantiable C kk).before a0 Z = true) (V : Arv Z h b kc ty z vs dv) : a ≠ b := by
  obtain ⟨cl, A, -⟩ := V
  exact ne_arr E wi A
end OwnRef
theorem own_lens {Z : State} {a0 : Array Value} {t : Term} {a : Addr} {cc : Cell} {x : Value} (ec : t.eval a0 Z none [] Z = some (.ref a)) (ha : Z.arrayAt? a = some cc) (el : (Term.length t).eval a0 Z none [] Z = some x) : cc.slots.size < 2 ^ 31 := by
  by_cases q : cc.slots.size < 2 ^ 31
  · exact q
  · simp [Term.eval, ec, ha] at el; omega
def own_IC (Z : State) : Prop := Sta Z Z.heap "java/lang/Integer$IntegerCache" "high" "I" (.int (127 : Int32)) ∧ ∃ (ca : Addr) (cc : Cell), Sta Z Z.heap "java/lang/Integer$IntegerCache" "cache" "[Ljava/lang/Integer;" (.ref ca) ∧ Bxs Z ca cc "java/lang/Integer" "I" (256 : Int32) (fun j => .int (j - (128 : Int32)))
set_option maxRecDepth 65536 in
theorem own_ic {Z : State} {a0 : Array Value} (hw : ∀ d ∈ tables_1, d.before a0 Z = true) (hsets : ∀ d ∈ jdkStatics_1, d.before a0 Z = true) : own_IC Z := by
  have w1 := hsets _ (List.mem_of_getElem? (i := 1) rfl)
  have w2 := hsets _ (List.mem_of_getElem? (i := 2) rfl)
  have w3 := Cond.before_iff.mp (hsets _ (List.mem_of_getElem? (i := 3) rfl))
  have w4 := Cond.before_iff.mp (hsets _ (List.mem_of_getElem? (i := 4) rfl))
  have w6 := Cond.before_iff.mp (hsets _ (List.mem_of_getElem? (i := 6) rfl))
  have w7 := Cond.before_iff.mp (hsets _ (List.mem_of_getElem? (i := 7) rfl))
  have eh := eqv_i (Term.int_eval 127) w3
  obtain ⟨ca, ec⟩ := arr_v w4
  obtain ⟨cc, A⟩ := Arr.start ec w4
  have el := eqv_i (Term.int_eval 256) w6
  have ha := A.fin (Vm.Alike.refl _)
  have hl : cc.slots.size < 2 ^ 31 := own_lens ec ha el
  have el2 := len_f ec ha hl
  have es : cc.slots.size.toInt32 = (256 : Int32) := by
    have := el2.symm.trans el
    simpa using this
  refine ⟨Sta.start eh (Or.inl w1), ca, cc, Sta.start ec (Or.inr ⟨(hw _ (List.mem_of_getElem? (i := 21) rfl)), w2⟩), Bxs.start (fun _ => ec) A hl es (by decide) w7 (fun X j nn hX => ?_)⟩
  refine eqv_i ?_ hX
  have ei := idx_at (args := a0) (s := Z) (first := Z) (o := none) nn
  simp [Term.eval] at ei
  simp [Term.eval, ei]
theorem own_idx (i : Int32) (h1 : ¬ i < (-128 : Int32)) (h2 : ¬ (127 : Int32) < i) : ¬ (i + (128 : Int32)) < 0 ∧ (i + (128 : Int32)) < (256 : Int32) ∧ (i + (128 : Int32)) - (128 : Int32) = i := by
  rw [Int32.lt_iff_toInt_lt] at h1 h2
  have e1 : (-128 : Int32).toInt = -128 := rfl
  have e2 : (127 : Int32).toInt = 127 := rfl
  have e3 : (0 : Int32).toInt = 0 := rfl
  have e4 : (256 : Int32).toInt = 256 := rfl
  have e5 : (128 : Int32).toInt = 128 := rfl
  have q := c_iadd i (128 : Int32)
  have r := rng32 (i + (128 : Int32))
  have r' := rng32 i
  refine ⟨?_, ?_, Int32.add_sub_cancel _ _⟩
  · rw [Int32.lt_iff_toInt_lt]; omega
  · rw [Int32.lt_iff_toInt_lt]; omega
theorem d16_0 : decode jdk_18_method_1_code 0 = .ok (.aload_n 0, 1) := by decide +kernel
theorem d16_1 : decode jdk_18_method_1_code 1 = .ok (.invokespecial 1, 3) := by decide +kernel
theorem d16_4 : decode jdk_18_method_1_code 4 = .ok (.return_, 1) := by decide +kernel
theorem pn_0 : plainName "java/lang/Number" = true := by first | (simp [plainName, overriddenIn]; done) | decide +kernel
def rmNumQ (Z : State) (a1 : Addr) (h0 : Heap) (n0 : Nat) (v : Option Value) (h : Heap) (L : List Loc) : Prop := v = none ∧ Fr n0 L ∧ h = h0
set_option maxRecDepth 65536 in
set_option maxHeartbeats 40000000 in
theorem rmNum (l : Launch) (Z : State) (a0 : Array Value) (hw : ∀ d ∈ tables_1, d.before a0 Z = true) (a1 : Addr) (h0 : Heap) (n0 : Nat) (Z0 : n0 ≤ h0.size) :
    Ct l Z [] (⟨"java/lang/Number", "<init>", "()V"⟩ : MethodName) jdk_18_method_1_code 1 none ({ frames := 1, cells := 0, slots := 0, locals := 12 } : Room) #[(.ref a1)] h0 (rmNumQ Z a1 h0 n0) := by
  refine own_enter (plainFor_of_name pn_0) ?_
  intro p e s m below meth c T0 X0 hx hby hml hZ hown hnm hret hlk e0
  have hown : s.vm.findClass "java/lang/Number" = some m.cls := hown
  have N0 := Fr.nil n0
  have K0 := Keep.refl h0 []
  refine own_st (fun wt wk => castTop (g' := mkF m 0 #[.val (.ref a1)] []) (by first | (simp [entryFrame, mkF, argsToLocals, Value.category]; done) | rfl) wk) ?_
  show Fin1 p e below s (rmNumQ Z a1 h0 n0) ({ frames := 1, cells := 0, slots := 0, locals := 12 } : Room).cells ({ frames := 1, cells := 0, slots := 0, locals := 12 } : Room).slots (T0.setTop (mkF m 0 #[.val (.ref a1)] []))
  refine own_st (fun wt wk => XS.aloadN X0.here hx rfl (hb hby d16_0) rfl rfl wk) ?_
  show Fin1 p e below s (rmNumQ Z a1 h0 n0) ({ frames := 1, cells := 0, slots := 0, locals := 12 } : Room).cells ({ frames := 1, cells := 0, slots := 0, locals := 12 } : Room).slots (T0.setTop (mkF m 1 #[.val (.ref a1)] [(.ref a1)]))
  obtain ⟨T1, X1, e1, st1⟩ := initO X0 hx hZ hown (hw _ (List.mem_of_getElem? (i := 99) rfl)) (hw _ (List.mem_of_getElem? (i := 14) rfl)) (hw _ (List.mem_of_getElem? (i := 15) rfl)) e0 (g := (mkF m 1 #[.val (.ref a1)] [(.ref a1)])) rfl (by rw [hml]; rfl) rfl (hb hby d16_1) (by decide) (W := 0) (by show 2 * 0 + _ ≤ _; exact Nat.le_of_eq rfl) (by decide)
  refine own_st st1 ?_
  show Fin1 p e below s (rmNumQ Z a1 h0 n0) ({ frames := 1, cells := 0, slots := 0, locals := 12 } : Room).cells ({ frames := 1, cells := 0, slots := 0, locals := 12 } : Room).slots (T1.setTop (mkF m 4 #[.val (.ref a1)] []))
  exact own_retV X1 hx hlk hret (hb hby d16_4) (by rw [e1]; exact ⟨rfl, N0, rfl⟩) (by decide) (by decide)
theorem d15_0 : decode jdk_33_method_23_code 0 = .ok (.aload_n 0, 1) := by decide +kernel
theorem d15_1 : decode jdk_33_method_23_code 1 = .ok (.invokespecial 202, 3) := by decide +kernel
theorem d15_4 : decode jdk_33_method_23_code 4 = .ok (.aload_n 0, 1) := by decide +kernel
theorem d15_5 : decode jdk_33_method_23_code 5 = .ok (.iload_n 1, 1) := by decide +kernel
theorem d15_6 : decode jdk_33_method_23_code 6 = .ok (.putfield 205, 3) := by decide +kernel
theorem d15_9 : decode jdk_33_method_23_code 9 = .ok (.return_, 1) := by decide +kernel
theorem pn_1 : plainName "java/lang/Integer" = true := by first | (simp [plainName, overriddenIn]; done) | decide +kernel
theorem pd_2 : parseMethodDescriptor "()V" = some ⟨[], none⟩ := by decide +kernel
def rmIniQ (Z : State) (a1 : Addr) (i : Int32) (h0 : Heap) (n0 : Nat) (v : Option Value) (h : Heap) (L : List Loc) : Prop := v = none ∧ Fr n0 L ∧ Keep h0 h [a1] ∧ Fld Z h a1 "java/lang/Integer" "value" "I" (.int i)
set_option maxRecDepth 65536 in
set_option maxHeartbeats 40000000 in
theorem rmIni (l : Launch) (Z : State) (a0 : Array Value) (hw : ∀ d ∈ tables_1, d.before a0 Z = true) (a1 : Addr) (i : Int32) (h0 : Heap) (n0 : Nat) (Z0 : n0 ≤ h0.size) (g_a1 : n0 ≤ a1) (E_a1 : Exa Z h0 a1 "java/lang/Integer") (F0 : Fld Z h0 a1 "java/lang/Integer" "value" "I" (.int (0 : Int32))) :
    Ct l Z [] (⟨"java/lang/Integer", "<init>", "(I)V"⟩ : MethodName) jdk_33_method_23_code 2 none ({ frames := 2, cells := 0, slots := 0, locals := 24 } : Room) #[(.ref a1), (.int i)] h0 (rmIniQ Z a1 i h0 n0) := by
  refine own_enter (plainFor_of_name pn_1) ?_
  intro p e s m below meth c T0 X0 hx hby hml hZ hown hnm hret hlk e0
  have hown : s.vm.findClass "java/lang/Integer" = some m.cls := hown
  have N0 := Fr.nil n0
  have K0 := Keep.refl h0 [a1]
  refine own_st (fun wt wk => castTop (g' := mkF m 0 #[.val (.ref a1), .val (.int i)] []) (by first | (simp [entryFrame, mkF, argsToLocals, Value.category]; done) | rfl) wk) ?_
  show Fin1 p e below s (rmIniQ Z a1 i h0 n0) ({ frames := 2, cells := 0, slots := 0, locals := 24 } : Room).cells ({ frames := 2, cells := 0, slots := 0, locals := 24 } : Room).slots (T0.setTop (mkF m 0 #[.val (.ref a1), .val (.int i)] []))
  refine own_st (fun wt wk => XS.aloadN X0.here hx rfl (hb hby d15_0) rfl rfl wk) ?_
  show Fin1 p e below s (rmIniQ Z a1 i h0 n0) ({ frames := 2, cells := 0, slots := 0, locals := 24 } : Room).cells ({ frames := 2, cells := 0, slots := 0, locals := 24 } : Room).slots (T0.setTop (mkF m 1 #[.val (.ref a1), .val (.int i)] [(.ref a1)]))
  obtain ⟨v1, T1, h1, L1, X1, e1, hQ1, st1⟩ := own_special X0 hx hZ hown rfl (hw _ (List.mem_of_getElem? (i := 93) rfl)) (hw _ (List.mem_of_getElem? (i := 94) rfl)) (hw _ (List.mem_of_getElem? (i := 98) rfl)) (hw _ (List.mem_of_getElem? (i := 97) rfl)) (by decide) (a := a1) (rmNum l Z a0 hw a1 h0 n0 Z0) e0 (g := (mkF m 1 #[.val (.ref a1), .val (.int i)] [(.ref a1)])) rfl (by rw [hml]; rfl) (argsL := []) (rest := []) (lenOf pd_2 rfl) rfl (W := 0) (by show 2 * 0 + _ ≤ _; exact Nat.le_of_eq rfl) (hb hby d15_1) (by decide) (by decide) (by decide) (by decide)
  obtain ⟨rfl, N1q, hh1⟩ := hQ1
  have N1 := Fr.app N0 N1q
  rw [hh1] at e1
  refine own_st st1 ?_
  show Fin1 p e below s (rmIniQ Z a1 i h0 n0) ({ frames := 2, cells := 0, slots := 0, locals := 24 } : Room).cells ({ frames := 2, cells := 0, slots := 0, locals := 24 } : Room).slots (T1.setTop (mkF m 4 #[.val (.ref a1), .val (.int i)] []))
  refine own_st (fun wt wk => XS.aloadN X1.here hx rfl (hb hby d15_4) rfl rfl (XS.iloadN X1.here hx rfl (hb hby d15_5) rfl wk)) ?_
  show Fin1 p e below s (rmIniQ Z a1 i h0 n0) ({ frames := 2, cells := 0, slots := 0, locals := 24 } : Room).cells ({ frames := 2, cells := 0, slots := 0, locals := 24 } : Room).slots (T1.setTop (mkF m 6 #[.val (.ref a1), .val (.int i)] [(.int i), (.ref a1)]))
  obtain ⟨T2, h2, X2, e2, W2, st2⟩ := putF X1 hx hZ hown (host := "") (Or.inl (hw _ (List.mem_of_getElem? (i := 76) rfl))) Via.refl e1 F0 E_a1 (Or.inr ⟨(hw _ (List.mem_of_getElem? (i := 77) rfl)), rfl, hnm⟩) (hw _ (List.mem_of_getElem? (i := 89) rfl)) (ty := .int) (by decide) rfl rfl (g := (mkF m 6 #[.val (.ref a1), .val (.int i)] [(.int i), (.ref a1)])) rfl rfl (hb hby d15_6)
  refine own_st st2 ?_
  have N2 := Fr.snoc X2 N1 g_a1
  have Z0 := Nat.le_trans Z0 (Nat.le_of_eq W2.size.symm)
  have K0 := K0.wr W2 (Or.inl (List.mem_of_getElem? (i := 0) rfl))
  have E_a1 := E_a1.wr W2
  have F0 := F0.same W2
  show Fin1 p e below s (rmIniQ Z a1 i h0 n0) ({ frames := 2, cells := 0, slots := 0, locals := 24 } : Room).cells ({ frames := 2, cells := 0, slots := 0, locals := 24 } : Room).slots (T2.setTop (mkF m 9 #[.val (.ref a1), .val (.int i)] []))
  exact own_retV X2 hx hlk hret (hb hby d15_9) (by rw [e2]; exact ⟨rfl, N2, K0, F0⟩) (by decide) (by decide)
theorem d4_0 : decode jdk_33_method_22_code 0 = .ok (.iload_n 0, 1) := by decide +kernel
theorem d4_1 : decode jdk_33_method_22_code 1 = .ok (.bipush (-128), 2) := by decide +kernel
theorem d4_3 : decode jdk_33_method_22_code 3 = .ok (.if_icmp .lt 20, 3) := by decide +kernel
theorem d4_6 : decode jdk_33_method_22_code 6 = .ok (.iload_n 0, 1) := by decide +kernel
theorem d4_7 : decode jdk_33_method_22_code 7 = .ok (.getstatic 191, 3) := by decide +kernel
theorem d4_10 : decode jdk_33_method_22_code 10 = .ok (.if_icmp .gt 13, 3) := by decide +kernel
theorem d4_13 : decode jdk_33_method_22_code 13 = .ok (.getstatic 195, 3) := by decide +kernel
theorem d4_16 : decode jdk_33_method_22_code 16 = .ok (.iload_n 0, 1) := by decide +kernel
theorem d4_17 : decode jdk_33_method_22_code 17 = .ok (.sipush 128, 3) := by decide +kernel
theorem d4_20 : decode jdk_33_method_22_code 20 = .ok (.iadd, 1) := by decide +kernel
theorem d4_21 : decode jdk_33_method_22_code 21 = .ok (.aaload, 1) := by decide +kernel
theorem d4_22 : decode jdk_33_method_22_code 22 = .ok (.areturn, 1) := by decide +kernel
theorem d4_23 : decode jdk_33_method_22_code 23 = .ok (.new 1, 3) := by decide +kernel
theorem d4_26 : decode jdk_33_method_22_code 26 = .ok (.dup, 1) := by decide +kernel
theorem d4_27 : decode jdk_33_method_22_code 27 = .ok (.iload_n 0, 1) := by decide +kernel
theorem d4_28 : decode jdk_33_method_22_code 28 = .ok (.invokespecial 199, 3) := by decide +kernel
theorem d4_31 : decode jdk_33_method_22_code 31 = .ok (.areturn, 1) := by decide +kernel
theorem pd_3 : parseMethodDescriptor "(I)V" = some ⟨[.int], none⟩ := by decide +kernel
def rmVQ (Z : State) (i : Int32) (h0 : Heap) (n0 : Nat) (v : Option Value) (h : Heap) (L : List Loc) : Prop := ∃ r : Addr, v = some (.ref r) ∧ Fr n0 L ∧ Keep h0 h [] ∧ Exa Z h r "java/lang/Integer" ∧ Fld Z h r "java/lang/Integer" "value" "I" (.int i)
set_option maxRecDepth 65536 in
set_option maxHeartbeats 40000000 in
theorem rmV (l : Launch) (Z : State) (a0 : Array Value) (hw : ∀ d ∈ tables_1, d.before a0 Z = true) (i : Int32) (h0 : Heap) (n0 : Nat) (Z0 : n0 ≤ h0.size) (O : Old Z n0 h0) (hic : own_IC Z) :
    Ct l Z [] (⟨"java/lang/Integer", "valueOf", "(I)Ljava/lang/Integer;"⟩ : MethodName) jdk_33_method_22_code 1 (some (.object "java/lang/Integer")) ({ frames := 3, cells := 1, slots := 1, locals := 38 } : Room) #[(.int i)] h0 (rmVQ Z i h0 n0) := by
  refine own_enter (plainFor_of_name pn_1) ?_
  intro p e s m below meth c T0 X0 hx hby hml hZ hown hnm hret hlk e0
  have hown : s.vm.findClass "java/lang/Integer" = some m.cls := hown
  have N0 := Fr.nil n0
  have K0 := Keep.refl h0 []
  refine own_st (fun wt wk => castTop (g' := mkF m 0 #[.val (.int i)] []) (by first | (simp [entryFrame, mkF, argsToLocals, Value.category]; done) | rfl) wk) ?_
  show Fin1 p e below s (rmVQ Z i h0 n0) ({ frames := 3, cells := 1, slots := 1, locals := 38 } : Room).cells ({ frames := 3, cells := 1, slots := 1, locals := 38 } : Room).slots (T0.setTop (mkF m 0 #[.val (.int i)] []))
  obtain ⟨S1, ca, cc, S2, B⟩ := hic
  refine own_st (fun wt wk => XS.iloadN X0.here hx rfl (hb hby d4_0) rfl (XS.bipush X0.here hx rfl (hb hby d4_1) wk)) ?_
  show Fin1 p e below s (rmVQ Z i h0 n0) ({ frames := 3, cells := 1, slots := 1, locals := 38 } : Room).cells ({ frames := 3, cells := 1, slots := 1, locals := 38 } : Room).slots (T0.setTop (mkF m 3 #[.val (.int i)] [(.int (-128 : Int32)), (.int i)]))
  by_cases c3 : i < (-128 : Int32)
  · refine own_st (fun wt wk => XS.icmpYes X0.here hx rfl (pc0 := 3) (pc' := 23) rfl (hb hby d4_3) rfl (tlt c3).1 (by decide) (by decide) wk) ?_
    show Fin1 p e below s (rmVQ Z i h0 n0) ({ frames := 3, cells := 1, slots := 1, locals := 38 } : Room).cells ({ frames := 3, cells := 1, slots := 1, locals := 38 } : Room).slots (T0.setTop (mkF m 23 #[.val (.int i)] []))
    obtain ⟨T1, h1, X1, e1, E1, A1, D1, -, st1⟩ := newO X0 hx hZ hown (hw _ (List.mem_of_getElem? (i := 88) rfl)) (hw _ (List.mem_of_getElem? (i := 89) rfl)) (hw _ (List.mem_of_getElem? (i := 18) rfl)) e0 (g := (mkF m 23 #[.val (.int i)] [])) rfl (hb hby d4_23) (by decide) (by decide)
    obtain ⟨b1, gz_b1⟩ : ∃ z, z = h0.size := ⟨_, rfl⟩
    rw [← gz_b1] at A1 D1 st1
    have sz_b1 : h0.size ≤ b1 := Nat.le_trans K0.1 (Nat.le_of_eq gz_b1.symm)
    have g_b1 : n0 ≤ b1 := Nat.le_trans Z0 (Nat.le_of_eq gz_b1.symm)
    have Z0 := Nat.le_trans Z0 E1.1
    have K0 := K0.ext E1
    have O := O.ext E1
    refine own_st st1 ?_
    have E_b1 := A1
    have F_value_b1 : Fld Z h1 b1 "java/lang/Integer" "value" "I" (.int (0 : Int32)) := D1 (Or.inr (hw _ (List.mem_of_getElem? (i := 77) rfl))) (ty := .int) (by decide)
    show Fin1 p e below s (rmVQ Z i h0 n0) ({ frames := 3, cells := 1, slots := 1, locals := 38 } : Room).cells ({ frames := 3, cells := 1, slots := 1, locals := 38 } : Room).slots (T1.setTop (mkF m 26 #[.val (.int i)] [(.ref b1)]))
    refine own_st (fun wt wk => XS.dup X1.here hx rfl (hb hby d4_26) rfl rfl (XS.iloadN X1.here hx rfl (hb hby d4_27) rfl wk)) ?_
    show Fin1 p e below s (rmVQ Z i h0 n0) ({ frames := 3, cells := 1, slots := 1, locals := 38 } : Room).cells ({ frames := 3, cells := 1, slots := 1, locals := 38 } : Room).slots (T1.setTop (mkF m 28 #[.val (.int i)] [(.int i), (.ref b1), (.ref b1)]))
    obtain ⟨v2, T2, h2, L2, X2, e2, hQ2, st2⟩ := own_special X1 hx hZ hown rfl (hw _ (List.mem_of_getElem? (i := 90) rfl)) (hw _ (List.mem_of_getElem? (i := 91) rfl)) (hw _ (List.mem_of_getElem? (i := 92) rfl)) (hw _ (List.mem_of_getElem? (i := 18) rfl)) (by decide) (a := b1) (rmIni l Z a0 hw b1 i h1 n0 Z0 g_b1 E_b1 F_value_b1) e1 (g := (mkF m 28 #[.val (.int i)] [(.int i), (.ref b1), (.ref b1)])) rfl (by rw [hml]; rfl) (argsL := [(.int i)]) (rest := [(.ref b1)]) (lenOf pd_3 rfl) rfl (W := 1) (by show 2 * 0 + _ ≤ _; exact Nat.le_of_eq rfl) (hb hby d4_28) (by decide) (by decide) (by decide) (by decide)
    obtain ⟨rfl, N2q, K2, G2⟩ := hQ2
    have N2 := Fr.app N0 N2q
    have Z0 := Nat.le_trans Z0 K2.1
    have K0 := K0.trans K2 (allS (P := fun x => x ∈ ([] : List Addr) ∨ h0.size ≤ x) (Or.inr sz_b1) all0)
    have O := O.keep K2 (allS (P := fun x => n0 ≤ x) g_b1 all0)
    have E_b1 := E_b1.keep K2
    refine own_st st2 ?_
    show Fin1 p e below s (rmVQ Z i h0 n0) ({ frames := 3, cells := 1, slots := 1, locals := 38 } : Room).cells ({ frames := 3, cells := 1, slots := 1, locals := 38 } : Room).slots (T2.setTop (mkF m 31 #[.val (.int i)] [(.ref b1)]))
    exact own_retA X2 hx hlk hret rfl rfl (hb hby d4_31) (by rw [e2]; exact ⟨b1, rfl, N2, K0, E_b1, G2⟩) (by decide) (by decide)
  · refine own_st (fun wt wk => XS.icmpNo X0.here hx rfl (hb hby d4_3) rfl (flt c3).1 wk) ?_
    show Fin1 p e below s (rmVQ Z i h0 n0) ({ frames := 3, cells := 1, slots := 1, locals := 38 } : Room).cells ({ frames := 3, cells := 1, slots := 1, locals := 38 } : Room).slots (T0.setTop (mkF m 6 #[.val (.int i)] []))
    refine own_st (fun wt wk => XS.iloadN X0.here hx rfl (hb hby d4_6) rfl wk) ?_
    show Fin1 p e below s (rmVQ Z i h0 n0) ({ frames := 3, cells := 1, slots := 1, locals := 38 } : Room).cells ({ frames := 3, cells := 1, slots := 1, locals := 38 } : Room).slots (T0.setTop (mkF m 7 #[.val (.int i)] [(.int i)]))
    obtain ⟨T3, X3, e3, st3⟩ := getS2 X0 hx hZ hown (host := "") (Or.inl (hw _ (List.mem_of_getElem? (i := 20) rfl))) Via.refl e0 (S1.ext O.2) (g := (mkF m 7 #[.val (.int i)] [(.int i)])) rfl (hb hby d4_7)
    refine own_st st3 ?_
    show Fin1 p e below s (rmVQ Z i h0 n0) ({ frames := 3, cells := 1, slots := 1, locals := 38 } : Room).cells ({ frames := 3, cells := 1, slots := 1, locals := 38 } : Room).slots (T3.setTop (mkF m 10 #[.val (.int i)] [(.int (127 : Int32)), (.int i)]))
    by_cases c10 : (127 : Int32) < i
    · refine own_st (fun wt wk => XS.icmpYes X3.here hx rfl (pc0 := 10) (pc' := 23) rfl (hb hby d4_10) rfl (tlt c10).2.2.1 (by decide) (by decide) wk) ?_
      show Fin1 p e below s (rmVQ Z i h0 n0) ({ frames := 3, cells := 1, slots := 1, locals := 38 } : Room).cells ({ frames := 3, cells := 1, slots := 1, locals := 38 } : Room).slots (T3.setTop (mkF m 23 #[.val (.int i)] []))
      obtain ⟨T4, h4, X4, e4, E4, A4, D4, -, st4⟩ := newO X3 hx hZ hown (hw _ (List.mem_of_getElem? (i := 88) rfl)) (hw _ (List.mem_of_getElem? (i := 89) rfl)) (hw _ (List.mem_of_getElem? (i := 18) rfl)) e3 (g := (mkF m 23 #[.val (.int i)] [])) rfl (hb hby d4_23) (by decide) (by decide)
      obtain ⟨b4, gz_b4⟩ : ∃ z, z = h0.size := ⟨_, rfl⟩
      rw [← gz_b4] at A4 D4 st4
      have sz_b4 : h0.size ≤ b4 := Nat.le_trans K0.1 (Nat.le_of_eq gz_b4.symm)
      have g_b4 : n0 ≤ b4 := Nat.le_trans Z0 (Nat.le_of_eq gz_b4.symm)
      have Z0 := Nat.le_trans Z0 E4.1
      have K0 := K0.ext E4
      have O := O.ext E4
      refine own_st st4 ?_
      have E_b4 := A4
      have F_value_b4 : Fld Z h4 b4 "java/lang/Integer" "value" "I" (.int (0 : Int32)) := D4 (Or.inr (hw _ (List.mem_of_getElem? (i := 77) rfl))) (ty := .int) (by decide)
      show Fin1 p e below s (rmVQ Z i h0 n0) ({ frames := 3, cells := 1, slots := 1, locals := 38 } : Room).cells ({ frames := 3, cells := 1, slots := 1, locals := 38 } : Room).slots (T4.setTop (mkF m 26 #[.val (.int i)] [(.ref b4)]))
      refine own_st (fun wt wk => XS.dup X4.here hx rfl (hb hby d4_26) rfl rfl (XS.iloadN X4.here hx rfl (hb hby d4_27) rfl wk)) ?_
      show Fin1 p e below s (rmVQ Z i h0 n0) ({ frames := 3, cells := 1, slots := 1, locals := 38 } : Room).cells ({ frames := 3, cells := 1, slots := 1, locals := 38 } : Room).slots (T4.setTop (mkF m 28 #[.val (.int i)] [(.int i), (.ref b4), (.ref b4)]))
      obtain ⟨v5, T5, h5, L5, X5, e5, hQ5, st5⟩ := own_special X4 hx hZ hown rfl (hw _ (List.mem_of_getElem? (i := 90) rfl)) (hw _ (List.mem_of_getElem? (i := 91) rfl)) (hw _ (List.mem_of_getElem? (i := 92) rfl)) (hw _ (List.mem_of_getElem? (i := 18) rfl)) (by decide) (a := b4) (rmIni l Z a0 hw b4 i h4 n0 Z0 g_b4 E_b4 F_value_b4) e4 (g := (mkF m 28 #[.val (.int i)] [(.int i), (.ref b4), (.ref b4)])) rfl (by rw [hml]; rfl) (argsL := [(.int i)]) (rest := [(.ref b4)]) (lenOf pd_3 rfl) rfl (W := 1) (by show 2 * 0 + _ ≤ _; exact Nat.le_of_eq rfl) (hb hby d4_28) (by decide) (by decide) (by decide) (by decide)
      obtain ⟨rfl, N5q, K5, G5⟩ := hQ5
      have N5 := Fr.app N0 N5q
      have Z0 := Nat.le_trans Z0 K5.1
      have K0 := K0.trans K5 (allS (P := fun x => x ∈ ([] : List Addr) ∨ h0.size ≤ x) (Or.inr sz_b4) all0)
      have O := O.keep K5 (allS (P := fun x => n0 ≤ x) g_b4 all0)
      have E_b4 := E_b4.keep K5
      refine own_st st5 ?_
      show Fin1 p e below s (rmVQ Z i h0 n0) ({ frames := 3, cells := 1, slots := 1, locals := 38 } : Room).cells ({ frames := 3, cells := 1, slots := 1, locals := 38 } : Room).slots (T5.setTop (mkF m 31 #[.val (.int i)] [(.ref b4)]))
      exact own_retA X5 hx hlk hret rfl rfl (hb hby d4_31) (by rw [e5]; exact ⟨b4, rfl, N5, K0, E_b4, G5⟩) (by decide) (by decide)
    · refine own_st (fun wt wk => XS.icmpNo X3.here hx rfl (hb hby d4_10) rfl (flt c10).2.2.1 wk) ?_
      show Fin1 p e below s (rmVQ Z i h0 n0) ({ frames := 3, cells := 1, slots := 1, locals := 38 } : Room).cells ({ frames := 3, cells := 1, slots := 1, locals := 38 } : Room).slots (T3.setTop (mkF m 13 #[.val (.int i)] []))
      obtain ⟨T6, X6, e6, st6⟩ := getS2 X3 hx hZ hown (host := "") (Or.inl (hw _ (List.mem_of_getElem? (i := 22) rfl))) Via.refl e3 (S2.ext O.2) (g := (mkF m 13 #[.val (.int i)] [])) rfl (hb hby d4_13)
      refine own_st st6 ?_
      show Fin1 p e below s (rmVQ Z i h0 n0) ({ frames := 3, cells := 1, slots := 1, locals := 38 } : Room).cells ({ frames := 3, cells := 1, slots := 1, locals := 38 } : Room).slots (T6.setTop (mkF m 16 #[.val (.int i)] [(.ref ca)]))
      refine own_st (fun wt wk => XS.iloadN X6.here hx rfl (hb hby d4_16) rfl (XS.sipush X6.here hx rfl (hb hby d4_17) (XS.iadd X6.here hx rfl (hb hby d4_20) rfl wk))) ?_
      show Fin1 p e below s (rmVQ Z i h0 n0) ({ frames := 3, cells := 1, slots := 1, locals := 38 } : Room).cells ({ frames := 3, cells := 1, slots := 1, locals := 38 } : Room).slots (T6.setTop (mkF m 21 #[.val (.int i)] [(.int (i + (128 : Int32))), (.ref ca)]))
      obtain ⟨x1, x2, x3⟩ := own_idx i c3 c10
      obtain ⟨A, S, -⟩ := B.ext O.2
      have hin := inb_of S ⟨x1, x2⟩
      obtain ⟨r, hat, Er, Fr0⟩ := B.2.2.2 (i + (128 : Int32)) hin
      simp only [x3] at Fr0
      refine own_st (X6.aaload hx (j := (i + (128 : Int32))) (v := .ref r) (by rw [e6]; exact A.1) (State.isArrayOf_alike hZ.alike A.2.1) rfl A.2.2 hin hat (g := (mkF m 21 #[.val (.int i)] [(.int (i + (128 : Int32))), (.ref ca)])) rfl rfl (hb hby d4_21)) ?_
      show Fin1 p e below s (rmVQ Z i h0 n0) ({ frames := 3, cells := 1, slots := 1, locals := 38 } : Room).cells ({ frames := 3, cells := 1, slots := 1, locals := 38 } : Room).slots (T6.setTop (mkF m 22 #[.val (.int i)] [(.ref r)]))
      exact own_retA X6 hx hlk hret rfl rfl (hb hby d4_22) (by rw [e6]; exact ⟨r, rfl, N0, K0, Er.ext O.2, Fr0.ext O.2⟩) (by decide) (by decide)
theorem d2_0 : decode prog_32_method_1_code 0 = .ok (.aload_n 0, 1) := by decide +kernel
theorem d2_1 : decode prog_32_method_1_code 1 = .ok (.invokespecial 1, 3) := by decide +kernel
theorem d2_4 : decode prog_32_method_1_code 4 = .ok (.return_, 1) := by decide +kernel
theorem pn_4 : plainName "com/example/listwright/listwright/Storage" = true := by first | (simp [plainName, overriddenIn]; done) | decide +kernel
def rmSQ (Z : State) (a1 : Addr) (h0 : Heap) (n0 : Nat) (v : Option Value) (h : Heap) (L : List Loc) : Prop := v = none ∧ Fr n0 L ∧ h = h0
set_option maxRecDepth 65536 in
set_option maxHeartbeats 40000000 in
theorem rmS (l : Launch) (Z : State) (a0 : Array Value) (hw : ∀ d ∈ tables_1, d.before a0 Z = true) (a1 : Addr) (h0 : Heap) (n0 : Nat) (Z0 : n0 ≤ h0.size) :
    Ct l Z [] (⟨"com/example/listwright/listwright/Storage", "<init>", "()V"⟩ : MethodName) prog_32_method_1_code 1 none ({ frames := 1, cells := 0, slots := 0, locals := 12 } : Room) #[(.ref a1)] h0 (rmSQ Z a1 h0 n0) := by
  refine own_enter (plainFor_of_name pn_4) ?_
  intro p e s m below meth c T0 X0 hx hby hml hZ hown hnm hret hlk e0
  have hown : s.vm.findClass "com/example/listwright/listwright/Storage" = some m.cls := hown
  have N0 := Fr.nil n0
  have K0 := Keep.refl h0 []
  refine own_st (fun wt wk => castTop (g' := mkF m 0 #[.val (.ref a1)] []) (by first | (simp [entryFrame, mkF, argsToLocals, Value.category]; done) | rfl) wk) ?_
  show Fin1 p e below s (rmSQ Z a1 h0 n0) ({ frames := 1, cells := 0, slots := 0, locals := 12 } : Room).cells ({ frames := 1, cells := 0, slots := 0, locals := 12 } : Room).slots (T0.setTop (mkF m 0 #[.val (.ref a1)] []))
  refine own_st (fun wt wk => XS.aloadN X0.here hx rfl (hb hby d2_0) rfl rfl wk) ?_
  show Fin1 p e below s (rmSQ Z a1 h0 n0) ({ frames := 1, cells := 0, slots := 0, locals := 12 } : Room).cells ({ frames := 1, cells := 0, slots := 0, locals := 12 } : Room).slots (T0.setTop (mkF m 1 #[.val (.ref a1)] [(.ref a1)]))
  obtain ⟨T1, X1, e1, st1⟩ := initO X0 hx hZ hown (hw _ (List.mem_of_getElem? (i := 13) rfl)) (hw _ (List.mem_of_getElem? (i := 14) rfl)) (hw _ (List.mem_of_getElem? (i := 15) rfl)) e0 (g := (mkF m 1 #[.val (.ref a1)] [(.ref a1)])) rfl (by rw [hml]; rfl) rfl (hb hby d2_1) (by decide) (W := 0) (by show 2 * 0 + _ ≤ _; exact Nat.le_of_eq rfl) (by decide)
  refine own_st st1 ?_
  show Fin1 p e below s (rmSQ Z a1 h0 n0) ({ frames := 1, cells := 0, slots := 0, locals := 12 } : Room).cells ({ frames := 1, cells := 0, slots := 0, locals := 12 } : Room).slots (T1.setTop (mkF m 4 #[.val (.ref a1)] []))
  exact own_retV X1 hx hlk hret (hb hby d2_4) (by rw [e1]; exact ⟨rfl, N0, rfl⟩) (by decide) (by decide)
theorem d1_0 : decode prog_19_method_1_code 0 = .ok (.aload_n 0, 1) := by decide +kernel
theorem d1_1 : decode prog_19_method_1_code 1 = .ok (.invokespecial 1, 3) := by decide +kernel
theorem d1_4 : decode prog_19_method_1_code 4 = .ok (.return_, 1) := by decide +kernel
theorem pn_5 : plainName "com/example/listwright/listwright/LinkedStorage" = true := by first | (simp [plainName, overriddenIn]; done) | decide +kernel
def rmCQ (Z : State) (a1 : Addr) (h0 : Heap) (n0 : Nat) (v : Option Value) (h : Heap) (L : List Loc) : Prop := v = none ∧ Fr n0 L ∧ h = h0
set_option maxRecDepth 65536 in
set_option maxHeartbeats 40000000 in
theorem rmC (l : Launch) (Z : State) (a0 : Array Value) (hw : ∀ d ∈ tables_1, d.before a0 Z = true) (a1 : Addr) (h0 : Heap) (n0 : Nat) (Z0 : n0 ≤ h0.size) :
    Ct l Z [] (⟨"com/example/listwright/listwright/LinkedStorage", "<init>", "()V"⟩ : MethodName) prog_19_method_1_code 1 none ({ frames := 2, cells := 0, slots := 0, locals := 24 } : Room) #[(.ref a1)] h0 (rmCQ Z a1 h0 n0) := by
  refine own_enter (plainFor_of_name pn_5) ?_
  intro p e s m below meth c T0 X0 hx hby hml hZ hown hnm hret hlk e0
  have hown : s.vm.findClass "com/example/listwright/listwright/LinkedStorage" = some m.cls := hown
  have N0 := Fr.nil n0
  have K0 := Keep.refl h0 []
  refine own_st (fun wt wk => castTop (g' := mkF m 0 #[.val (.ref a1)] []) (by first | (simp [entryFrame, mkF, argsToLocals, Value.category]; done) | rfl) wk) ?_
  show Fin1 p e below s (rmCQ Z a1 h0 n0) ({ frames := 2, cells := 0, slots := 0, locals := 24 } : Room).cells ({ frames := 2, cells := 0, slots := 0, locals := 24 } : Room).slots (T0.setTop (mkF m 0 #[.val (.ref a1)] []))
  refine own_st (fun wt wk => XS.aloadN X0.here hx rfl (hb hby d1_0) rfl rfl wk) ?_
  show Fin1 p e below s (rmCQ Z a1 h0 n0) ({ frames := 2, cells := 0, slots := 0, locals := 24 } : Room).cells ({ frames := 2, cells := 0, slots := 0, locals := 24 } : Room).slots (T0.setTop (mkF m 1 #[.val (.ref a1)] [(.ref a1)]))
  obtain ⟨v1, T1, h1, L1, X1, e1, hQ1, st1⟩ := own_special X0 hx hZ hown rfl (hw _ (List.mem_of_getElem? (i := 8) rfl)) (hw _ (List.mem_of_getElem? (i := 9) rfl)) (hw _ (List.mem_of_getElem? (i := 12) rfl)) (hw _ (List.mem_of_getElem? (i := 11) rfl)) (by decide) (a := a1) (rmS l Z a0 hw a1 h0 n0 Z0) e0 (g := (mkF m 1 #[.val (.ref a1)] [(.ref a1)])) rfl (by rw [hml]; rfl) (argsL := []) (rest := []) (lenOf pd_2 rfl) rfl (W := 0) (by show 2 * 0 + _ ≤ _; exact Nat.le_of_eq rfl) (hb hby d1_1) (by decide) (by decide) (by decide) (by decide)
  obtain ⟨rfl, N1q, hh1⟩ := hQ1
  have N1 := Fr.app N0 N1q
  rw [hh1] at e1
  refine own_st st1 ?_
  show Fin1 p e below s (rmCQ Z a1 h0 n0) ({ frames := 2, cells := 0, slots := 0, locals := 24 } : Room).cells ({ frames := 2, cells := 0, slots := 0, locals := 24 } : Room).slots (T1.setTop (mkF m 4 #[.val (.ref a1)] []))
  exact own_retV X1 hx hlk hret (hb hby d1_4) (by rw [e1]; exact ⟨rfl, N1, rfl⟩) (by decide) (by decide)
theorem d7_0 : decode prog_20_method_1_code 0 = .ok (.aload_n 0, 1) := by decide +kernel
theorem d7_1 : decode prog_20_method_1_code 1 = .ok (.invokespecial 1, 3) := by decide +kernel
theorem d7_4 : decode prog_20_method_1_code 4 = .ok (.aload_n 0, 1) := by decide +kernel
theorem d7_5 : decode prog_20_method_1_code 5 = .ok (.aload_n 1, 1) := by decide +kernel
theorem d7_6 : decode prog_20_method_1_code 6 = .ok (.putfield 7, 3) := by decide +kernel
theorem d7_9 : decode prog_20_method_1_code 9 = .ok (.return_, 1) := by decide +kernel
theorem pn_6 : plainName "com/example/listwright/listwright/LinkedStorage$Node" = true := by first | (simp [plainName, overriddenIn]; done) | decide +kernel
def rmNQ (Z : State) (b : Addr) (x : Addr) (h0 : Heap) (n0 : Nat) (v : Option Value) (h : Heap) (L : List Loc) : Prop := v = none ∧ Fr n0 L ∧ Keep h0 h [b] ∧ Fld Z h b "com/example/listwright/listwright/LinkedStorage$Node" "element" "Ljava/lang/Object;" (.ref x) ∧ Fld Z h b "com/example/listwright/listwright/LinkedStorage$Node" "previous" "Lcom/example/listwright/listwright/LinkedStorage$Node;" .null ∧ Fld Z h b "com/example/listwright/listwright/LinkedStorage$Node" "next" "Lcom/example/listwright/listwright/LinkedStorage$Node;" .null
set_option maxRecDepth 65536 in
set_option maxHeartbeats 40000000 in
theorem rmN (l : Launch) (Z : State) (a0 : Array Value) (hw : ∀ d ∈ tables_1, d.before a0 Z = true) (b : Addr) (x : Addr) (h0 : Heap) (n0 : Nat) (Z0 : n0 ≤ h0.size) (g_b : n0 ≤ b) (E_b : Exa Z h0 b "com/example/listwright/listwright/LinkedStorage$Node") (Eb : Fld Z h0 b "com/example/listwright/listwright/LinkedStorage$Node" "element" "Ljava/lang/Object;" .null) (Pb : Fld Z h0 b "com/example/listwright/listwright/LinkedStorage$Node" "previous" "Lcom/example/listwright/listwright/LinkedStorage$Node;" .null) (Nb : Fld Z h0 b "com/example/listwright/listwright/LinkedStorage$Node" "next" "Lcom/example/listwright/listwright/LinkedStorage$Node;" .null) :
    Ct l Z [] (⟨"com/example/listwright/listwright/LinkedStorage$Node", "<init>", "(Ljava/lang/Object;)V"⟩ : MethodName) prog_20_method_1_code 2 none ({ frames := 1, cells := 0, slots := 0, locals := 12 } : Room) #[(.ref b), (.ref x)] h0 (rmNQ Z b x h0 n0) := by
  refine own_enter (plainFor_of_name pn_6) ?_
  intro p e s m below meth c T0 X0 hx hby hml hZ hown hnm hret hlk e0
  have hown : s.vm.findClass "com/example/listwright/listwright/LinkedStorage$Node" = some m.cls := hown
  have N0 := Fr.nil n0
  have K0 := Keep.refl h0 [b]
  refine own_st (fun wt wk => castTop (g' := mkF m 0 #[.val (.ref b), .val (.ref x)] []) (by first | (simp [entryFrame, mkF, argsToLocals, Value.category]; done) | rfl) wk) ?_
  show Fin1 p e below s (rmNQ Z b x h0 n0) ({ frames := 1, cells := 0, slots := 0, locals := 12 } : Room).cells ({ frames := 1, cells := 0, slots := 0, locals := 12 } : Room).slots (T0.setTop (mkF m 0 #[.val (.ref b), .val (.ref x)] []))
  refine own_st (fun wt wk => XS.aloadN X0.here hx rfl (hb hby d7_0) rfl rfl wk) ?_
  show Fin1 p e below s (rmNQ Z b x h0 n0) ({ frames := 1, cells := 0, slots := 0, locals := 12 } : Room).cells ({ frames := 1, cells := 0, slots := 0, locals := 12 } : Room).slots (T0.setTop (mkF m 1 #[.val (.ref b), .val (.ref x)] [(.ref b)]))
  obtain ⟨T1, X1, e1, st1⟩ := initO X0 hx hZ hown (hw _ (List.mem_of_getElem? (i := 40) rfl)) (hw _ (List.mem_of_getElem? (i := 14) rfl)) (hw _ (List.mem_of_getElem? (i := 15) rfl)) e0 (g := (mkF m 1 #[.val (.ref b), .val (.ref x)] [(.ref b)])) rfl (by rw [hml]; rfl) rfl (hb hby d7_1) (by decide) (W := 0) (by show 2 * 0 + _ ≤ _; exact Nat.le_of_eq rfl) (by decide)
  refine own_st st1 ?_
  show Fin1 p e below s (rmNQ Z b x h0 n0) ({ frames := 1, cells := 0, slots := 0, locals := 12 } : Room).cells ({ frames := 1, cells := 0, slots := 0, locals := 12 } : Room).slots (T1.setTop (mkF m 4 #[.val (.ref b), .val (.ref x)] []))
  refine own_st (fun wt wk => XS.aloadN X1.here hx rfl (hb hby d7_4) rfl rfl (XS.aloadN X1.here hx rfl (hb hby d7_5) rfl rfl wk)) ?_
  show Fin1 p e below s (rmNQ Z b x h0 n0) ({ frames := 1, cells := 0, slots := 0, locals := 12 } : Room).cells ({ frames := 1, cells := 0, slots := 0, locals := 12 } : Room).slots (T1.setTop (mkF m 6 #[.val (.ref b), .val (.ref x)] [(.ref x), (.ref b)]))
  obtain ⟨T2, h2, X2, e2, W2, st2⟩ := putF X1 hx hZ hown (host := "") (Or.inl (hw _ (List.mem_of_getElem? (i := 41) rfl))) Via.refl e1 Eb E_b (Or.inl (hw _ (List.mem_of_getElem? (i := 42) rfl))) (hw _ (List.mem_of_getElem? (i := 35) rfl)) (ty := (.object "java/lang/Object")) (by decide) rfl rfl (g := (mkF m 6 #[.val (.ref b), .val (.ref x)] [(.ref x), (.ref b)])) rfl rfl (hb hby d7_6)
  refine own_st st2 ?_
  have N2 := Fr.snoc X2 N0 g_b
  have Z0 := Nat.le_trans Z0 (Nat.le_of_eq W2.size.symm)
  have K0 := K0.wr W2 (Or.inl (List.mem_of_getElem? (i := 0) rfl))
  have E_b := E_b.wr W2
  have Eb := Eb.same W2
  have Pb := Pb.other W2 (Or.inr (slot_ne (Or.inl (hw _ (List.mem_of_getElem? (i := 48) rfl))) (Or.inl (hw _ (List.mem_of_getElem? (i := 42) rfl))) (by decide) (t := (.object "com/example/listwright/listwright/LinkedStorage$Node")) (t' := (.object "java/lang/Object")) (by decide) (by decide)))
  have Nb := Nb.other W2 (Or.inr (slot_ne (Or.inl (hw _ (List.mem_of_getElem? (i := 50) rfl))) (Or.inl (hw _ (List.mem_of_getElem? (i := 42) rfl))) (by decide) (t := (.object "com/example/listwright/listwright/LinkedStorage$Node")) (t' := (.object "java/lang/Object")) (by decide) (by decide)))
  show Fin1 p e below s (rmNQ Z b x h0 n0) ({ frames := 1, cells := 0, slots := 0, locals := 12 } : Room).cells ({ frames := 1, cells := 0, slots := 0, locals := 12 } : Room).slots (T2.setTop (mkF m 9 #[.val (.ref b), .val (.ref x)] []))
  exact own_retV X2 hx hlk hret (hb hby d7_9) (by rw [e2]; exact ⟨rfl, N2, K0, Eb, Pb, Nb⟩) (by decide) (by decide)
theorem d8_0 : decode prog_19_method_20_code 0 = .ok (.aload_n 1, 1) := by decide +kernel
theorem d8_1 : decode prog_19_method_20_code 1 = .ok (.ifnonnull 11, 3) := by decide +kernel
theorem d8_4 : decode prog_19_method_20_code 4 = .ok (.aload_n 0, 1) := by decide +kernel
theorem d8_5 : decode prog_19_method_20_code 5 = .ok (.aload_n 2, 1) := by decide +kernel
theorem d8_6 : decode prog_19_method_20_code 6 = .ok (.putfield 48, 3) := by decide +kernel
theorem d8_9 : decode prog_19_method_20_code 9 = .ok (.goto 8, 3) := by decide +kernel
theorem d8_12 : decode prog_19_method_20_code 12 = .ok (.aload_n 1, 1) := by decide +kernel
theorem d8_13 : decode prog_19_method_20_code 13 = .ok (.aload_n 2, 1) := by decide +kernel
theorem d8_14 : decode prog_19_method_20_code 14 = .ok (.putfield 57, 3) := by decide +kernel
theorem d8_17 : decode prog_19_method_20_code 17 = .ok (.aload_n 2, 1) := by decide +kernel
theorem d8_18 : decode prog_19_method_20_code 18 = .ok (.ifnonnull 11, 3) := by decide +kernel
theorem d8_21 : decode prog_19_method_20_code 21 = .ok (.aload_n 0, 1) := by decide +kernel
theorem d8_22 : decode prog_19_method_20_code 22 = .ok (.aload_n 1, 1) := by decide +kernel
theorem d8_23 : decode prog_19_method_20_code 23 = .ok (.putfield 27, 3) := by decide +kernel
theorem d8_26 : decode prog_19_method_20_code 26 = .ok (.goto 8, 3) := by decide +kernel
theorem d8_29 : decode prog_19_method_20_code 29 = .ok (.aload_n 2, 1) := by decide +kernel
theorem d8_30 : decode prog_19_method_20_code 30 = .ok (.aload_n 1, 1) := by decide +kernel
theorem d8_31 : decode prog_19_method_20_code 31 = .ok (.putfield 37, 3) := by decide +kernel
theorem d8_34 : decode prog_19_method_20_code 34 = .ok (.return_, 1) := by decide +kernel
def rmJ0Q (Z : State) (a1 : Addr) (b : Addr) (x : Addr) (tv : Value) (z : Int32) (h0 : Heap) (n0 : Nat) (v : Option Value) (h : Heap) (L : List Loc) : Prop := v = none ∧ Fr n0 L ∧ Keep h0 h [a1, b] ∧ Fld Z h a1 "com/example/listwright/listwright/LinkedStorage" "head" "Lcom/example/listwright/listwright/LinkedStorage$Node;" (.ref b) ∧ Fld Z h a1 "com/example/listwright/listwright/LinkedStorage" "tail" "Lcom/example/listwright/listwright/LinkedStorage$Node;" tv ∧ Fld Z h a1 "com/example/listwright/listwright/LinkedStorage" "size" "I" (.int z) ∧ Fld Z h b "com/example/listwright/listwright/LinkedStorage$Node" "element" "Ljava/lang/Object;" (.ref x) ∧ Fld Z h b "com/example/listwright/listwright/LinkedStorage$Node" "previous" "Lcom/example/listwright/listwright/LinkedStorage$Node;" .null ∧ Fld Z h b "com/example/listwright/listwright/LinkedStorage$Node" "next" "Lcom/example/listwright/listwright/LinkedStorage$Node;" .null
set_option maxRecDepth 65536 in
set_option maxHeartbeats 40000000 in
theorem rmJ0 (l : Launch) (Z : State) (a0 : Array Value) (hw : ∀ d ∈ tables_1, d.before a0 Z = true) (a1 : Addr) (b : Addr) (x : Addr) (tv : Value) (z : Int32) (h0 : Heap) (n0 : Nat) (Z0 : n0 ≤ h0.size) (g_a1 : n0 ≤ a1) (g_b : n0 ≤ b) (E_a1 : Exa Z h0 a1 "com/example/listwright/listwright/LinkedStorage") (E_b : Exa Z h0 b "com/example/listwright/listwright/LinkedStorage$Node") (Ha1 : Fld Z h0 a1 "com/example/listwright/listwright/LinkedStorage" "head" "Lcom/example/listwright/listwright/LinkedStorage$Node;" .null) (Ta1 : Fld Z h0 a1 "com/example/listwright/listwright/LinkedStorage" "tail" "Lcom/example/listwright/listwright/LinkedStorage$Node;" tv) (Sa1 : Fld Z h0 a1 "com/example/listwright/listwright/LinkedStorage" "size" "I" (.int z)) (Eb : Fld Z h0 b "com/example/listwright/listwright/LinkedStorage$Node" "element" "Ljava/lang/Object;" (.ref x)) (Pb : Fld Z h0 b "com/example/listwright/listwright/LinkedStorage$Node" "previous" "Lcom/example/listwright/listwright/LinkedStorage$Node;" .null) (Nb : Fld Z h0 b "com/example/listwright/listwright/LinkedStorage$Node" "next" "Lcom/example/listwright/listwright/LinkedStorage$Node;" .null) (ne_a1_b : a1 ≠ b) :
    Ct l Z [] (⟨"com/example/listwright/listwright/LinkedStorage", "join", "(Lcom/example/listwright/listwright/LinkedStorage$Node;Lcom/example/listwright/listwright/LinkedStorage$Node;)V"⟩ : MethodName) prog_19_method_20_code 3 none ({ frames := 0, cells := 0, slots := 0, locals := 0 } : Room) #[(.ref a1), .null, (.ref b)] h0 (rmJ0Q Z a1 b x tv z h0 n0) := by
  refine own_enter (plainFor_of_name pn_5) ?_
  intro p e s m below meth c T0 X0 hx hby hml hZ hown hnm hret hlk e0
  have hown : s.vm.findClass "com/example/listwright/listwright/LinkedStorage" = some m.cls := hown
  have N0 := Fr.nil n0
  have K0 := Keep.refl h0 [a1, b]
  refine own_st (fun wt wk => castTop (g' := mkF m 0 #[.val (.ref a1), .val .null, .val (.ref b)] []) (by first | (simp [entryFrame, mkF, argsToLocals, Value.category]; done) | rfl) wk) ?_
  show Fin1 p e below s (rmJ0Q Z a1 b x tv z h0 n0) ({ frames := 0, cells := 0, slots := 0, locals := 0 } : Room).cells ({ frames := 0, cells := 0, slots := 0, locals := 0 } : Room).slots (T0.setTop (mkF m 0 #[.val (.ref a1), .val .null, .val (.ref b)] []))
  refine own_st (fun wt wk => XS.aloadN X0.here hx rfl (hb hby d8_0) rfl rfl wk) ?_
  show Fin1 p e below s (rmJ0Q Z a1 b x tv z h0 n0) ({ frames := 0, cells := 0, slots := 0, locals := 0 } : Room).cells ({ frames := 0, cells := 0, slots := 0, locals := 0 } : Room).slots (T0.setTop (mkF m 1 #[.val (.ref a1), .val .null, .val (.ref b)] [.null]))
  refine own_st (fun wt wk => XS.ifnonnullNo X0.here hx rfl (hb hby d8_1) rfl wk) ?_
  show Fin1 p e below s (rmJ0Q Z a1 b x tv z h0 n0) ({ frames := 0, cells := 0, slots := 0, locals := 0 } : Room).cells ({ frames := 0, cells := 0, slots := 0, locals := 0 } : Room).slots (T0.setTop (mkF m 4 #[.val (.ref a1), .val .null, .val (.ref b)] []))
  refine own_st (fun wt wk => XS.aloadN X0.here hx rfl (hb hby d8_4) rfl rfl (XS.aloadN X0.here hx rfl (hb hby d8_5) rfl rfl wk)) ?_
  show Fin1 p e below s (rmJ0Q Z a1 b x tv z h0 n0) ({ frames := 0, cells := 0, slots := 0, locals := 0 } : Room).cells ({ frames := 0, cells := 0, slots := 0, locals := 0 } : Room).slots (T0.setTop (mkF m 6 #[.val (.ref a1), .val .null, .val (.ref b)] [(.ref b), (.ref a1)]))
  obtain ⟨T1, h1, X1, e1, W1, st1⟩ := putF X0 hx hZ hown (host := "") (Or.inl (hw _ (List.mem_of_getElem? (i := 32) rfl))) Via.refl e0 Ha1 E_a1 (Or.inl (hw _ (List.mem_of_getElem? (i := 33) rfl))) (hw _ (List.mem_of_getElem? (i := 3) rfl)) (ty := (.object "com/example/listwright/listwright/LinkedStorage$Node")) (by decide) rfl rfl (g := (mkF m 6 #[.val (.ref a1), .val .null, .val (.ref b)] [(.ref b), (.ref a1)])) rfl rfl (hb hby d8_6)
  refine own_st st1 ?_
  have N1 := Fr.snoc X1 N0 g_a1
  have Z0 := Nat.le_trans Z0 (Nat.le_of_eq W1.size.symm)
  have K0 := K0.wr W1 (Or.inl (List.mem_of_getElem? (i := 0) rfl))
  have E_a1 := E_a1.wr W1
  have Ha1 := Ha1.same W1
  have Ta1 := Ta1.other W1 (Or.inr (slot_ne (Or.inl (hw _ (List.mem_of_getElem? (i := 52) rfl))) (Or.inl (hw _ (List.mem_of_getElem? (i := 33) rfl))) (by decide) (t := (.object "com/example/listwright/listwright/LinkedStorage$Node")) (t' := (.object "com/example/listwright/listwright/LinkedStorage$Node")) (by decide) (by decide)))
  have Sa1 := Sa1.other W1 (Or.inr (slot_ne (Or.inl (hw _ (List.mem_of_getElem? (i := 54) rfl))) (Or.inl (hw _ (List.mem_of_getElem? (i := 33) rfl))) (by decide) (t := .int) (t' := (.object "com/example/listwright/listwright/LinkedStorage$Node")) (by decide) (by decide)))
  have E_b := E_b.wr W1
  have Eb := Eb.other W1 (Or.inl (Ne.symm ne_a1_b))
  have Pb := Pb.other W1 (Or.inl (Ne.symm ne_a1_b))
  have Nb := Nb.other W1 (Or.inl (Ne.symm ne_a1_b))
  show Fin1 p e below s (rmJ0Q Z a1 b x tv z h0 n0) ({ frames := 0, cells := 0, slots := 0, locals := 0 } : Room).cells ({ frames := 0, cells := 0, slots := 0, locals := 0 } : Room).slots (T1.setTop (mkF m 9 #[.val (.ref a1), .val .null, .val (.ref b)] []))
  refine own_st (fun wt wk => XS.goto X1.here hx rfl (pc0 := 9) (pc' := 17) rfl (hb hby d8_9) (by decide) (by decide) (XS.aloadN X1.here hx rfl (hb hby d8_17) rfl rfl wk)) ?_
  show Fin1 p e below s (rmJ0Q Z a1 b x tv z h0 n0) ({ frames := 0, cells := 0, slots := 0, locals := 0 } : Room).cells ({ frames := 0, cells := 0, slots := 0, locals := 0 } : Room).slots (T1.setTop (mkF m 18 #[.val (.ref a1), .val .null, .val (.ref b)] [(.ref b)]))
  refine own_st (fun wt wk => XS.ifnonnullYes X1.here hx rfl (pc0 := 18) (pc' := 29) rfl (hb hby d8_18) rfl (by decide) (by decide) wk) ?_
  show Fin1 p e below s (rmJ0Q Z a1 b x tv z h0 n0) ({ frames := 0, cells := 0, slots := 0, locals := 0 } : Room).cells ({ frames := 0, cells := 0, slots := 0, locals := 0 } : Room).slots (T1.setTop (mkF m 29 #[.val (.ref a1), .val .null, .val (.ref b)] []))
  refine own_st (fun wt wk => XS.aloadN X1.here hx rfl (hb hby d8_29) rfl rfl (XS.aloadN X1.here hx rfl (hb hby d8_30) rfl rfl wk)) ?_
  show Fin1 p e below s (rmJ0Q Z a1 b x tv z h0 n0) ({ frames := 0, cells := 0, slots := 0, locals := 0 } : Room).cells ({ frames := 0, cells := 0, slots := 0, locals := 0 } : Room).slots (T1.setTop (mkF m 31 #[.val (.ref a1), .val .null, .val (.ref b)] [.null, (.ref b)]))
  obtain ⟨T2, h2, X2, e2, W2, st2⟩ := own_putRef X1 hx hZ hown (hw _ (List.mem_of_getElem? (i := 47) rfl)) e1 Pb E_b (hw _ (List.mem_of_getElem? (i := 48) rfl)) (hw _ (List.mem_of_getElem? (i := 35) rfl)) (ty := (.object "com/example/listwright/listwright/LinkedStorage$Node")) (by decide) rfl rfl (g := (mkF m 31 #[.val (.ref a1), .val .null, .val (.ref b)] [.null, (.ref b)])) rfl rfl (hb hby d8_31)
  refine own_st st2 ?_
  have N2 := Fr.snoc X2 N1 g_b
  have Z0 := Nat.le_trans Z0 (Nat.le_of_eq W2.size.symm)
  have K0 := K0.wr W2 (Or.inl (List.mem_of_getElem? (i := 1) rfl))
  have E_a1 := E_a1.wr W2
  have Ha1 := Ha1.other W2 (Or.inl ne_a1_b)
  have Ta1 := Ta1.other W2 (Or.inl ne_a1_b)
  have Sa1 := Sa1.other W2 (Or.inl ne_a1_b)
  have E_b := E_b.wr W2
  have Eb := Eb.other W2 (Or.inr (slot_ne (Or.inl (hw _ (List.mem_of_getElem? (i := 42) rfl))) (Or.inl (hw _ (List.mem_of_getElem? (i := 48) rfl))) (by decide) (t := (.object "java/lang/Object")) (t' := (.object "com/example/listwright/listwright/LinkedStorage$Node")) (by decide) (by decide)))
  have Pb := Pb.same W2
  have Nb := Nb.other W2 (Or.inr (slot_ne (Or.inl (hw _ (List.mem_of_getElem? (i := 50) rfl))) (Or.inl (hw _ (List.mem_of_getElem? (i := 48) rfl))) (by decide) (t := (.object "com/example/listwright/listwright/LinkedStorage$Node")) (t' := (.object "com/example/listwright/listwright/LinkedStorage$Node")) (by decide) (by decide)))
  show Fin1 p e below s (rmJ0Q Z a1 b x tv z h0 n0) ({ frames := 0, cells := 0, slots := 0, locals := 0 } : Room).cells ({ frames := 0, cells := 0, slots := 0, locals := 0 } : Room).slots (T2.setTop (mkF m 34 #[.val (.ref a1), .val .null, .val (.ref b)] []))
  exact own_retV X2 hx hlk hret (hb hby d8_34) (by rw [e2]; exact ⟨rfl, N2, K0, Ha1, Ta1, Sa1, Eb, Pb, Nb⟩) (by decide) (by decide)
def rmJ1Q (Z : State) (a1 : Addr) (q : Addr) (b : Addr) (x : Addr) (pe : Addr) (pv : Value) (h0 : Heap) (n0 : Nat) (v : Option Value) (h : Heap) (L : List Loc) : Prop := v = none ∧ Fr n0 L ∧ Keep h0 h [q, b] ∧ Fld Z h q "com/example/listwright/listwright/LinkedStorage$Node" "element" "Ljava/lang/Object;" (.ref pe) ∧ Fld Z h q "com/example/listwright/listwright/LinkedStorage$Node" "previous" "Lcom/example/listwright/listwright/LinkedStorage$Node;" pv ∧ Fld Z h q "com/example/listwright/listwright/LinkedStorage$Node" "next" "Lcom/example/listwright/listwright/LinkedStorage$Node;" (.ref b) ∧ Fld Z h b "com/example/listwright/listwright/LinkedStorage$Node" "element" "Ljava/lang/Object;" (.ref x) ∧ Fld Z h b "com/example/listwright/listwright/LinkedStorage$Node" "previous" "Lcom/example/listwright/listwright/LinkedStorage$Node;" (.ref q) ∧ Fld Z h b "com/example/listwright/listwright/LinkedStorage$Node" "next" "Lcom/example/listwright/listwright/LinkedStorage$Node;" .null
set_option maxRecDepth 65536 in
set_option maxHeartbeats 40000000 in
theorem rmJ1 (l : Launch) (Z : State) (a0 : Array Value) (hw : ∀ d ∈ tables_1, d.before a0 Z = true) (a1 : Addr) (q : Addr) (b : Addr) (x : Addr) (pe : Addr) (pv : Value) (h0 : Heap) (n0 : Nat) (Z0 : n0 ≤ h0.size) (g_q : n0 ≤ q) (g_b : n0 ≤ b) (E_q : Exa Z h0 q "com/example/listwright/listwright/LinkedStorage$Node") (E_b : Exa Z h0 b "com/example/listwright/listwright/LinkedStorage$Node") (Eq : Fld Z h0 q "com/example/listwright/listwright/LinkedStorage$Node" "element" "Ljava/lang/Object;" (.ref pe)) (Pq : Fld Z h0 q "com/example/listwright/listwright/LinkedStorage$Node" "previous" "Lcom/example/listwright/listwright/LinkedStorage$Node;" pv) (Nq : Fld Z h0 q "com/example/listwright/listwright/LinkedStorage$Node" "next" "Lcom/example/listwright/listwright/LinkedStorage$Node;" .null) (Eb : Fld Z h0 b "com/example/listwright/listwright/LinkedStorage$Node" "element" "Ljava/lang/Object;" (.ref x)) (Pb : Fld Z h0 b "com/example/listwright/listwright/LinkedStorage$Node" "previous" "Lcom/example/listwright/listwright/LinkedStorage$Node;" .null) (Nb : Fld Z h0 b "com/example/listwright/listwright/LinkedStorage$Node" "next" "Lcom/example/listwright/listwright/LinkedStorage$Node;" .null) (ne_q_b : q ≠ b) :
    Ct l Z [] (⟨"com/example/listwright/listwright/LinkedStorage", "join", "(Lcom/example/listwright/listwright/LinkedStorage$Node;Lcom/example/listwright/listwright/LinkedStorage$Node;)V"⟩ : MethodName) prog_19_method_20_code 3 none ({ frames := 0, cells := 0, slots := 0, locals := 0 } : Room) #[(.ref a1), (.ref q), (.ref b)] h0 (rmJ1Q Z a1 q b x pe pv h0 n0) := by
  refine own_enter (plainFor_of_name pn_5) ?_
  intro p e s m below meth c T0 X0 hx hby hml hZ hown hnm hret hlk e0
  have hown : s.vm.findClass "com/example/listwright/listwright/LinkedStorage" = some m.cls := hown
  have N0 := Fr.nil n0
  have K0 := Keep.refl h0 [q, b]
  refine own_st (fun wt wk => castTop (g' := mkF m 0 #[.val (.ref a1), .val (.ref q), .val (.ref b)] []) (by first | (simp [entryFrame, mkF, argsToLocals, Value.category]; done) | rfl) wk) ?_
  show Fin1 p e below s (rmJ1Q Z a1 q b x pe pv h0 n0) ({ frames := 0, cells := 0, slots := 0, locals := 0 } : Room).cells ({ frames := 0, cells := 0, slots := 0, locals := 0 } : Room).slots (T0.setTop (mkF m 0 #[.val (.ref a1), .val (.ref q), .val (.ref b)] []))
  refine own_st (fun wt wk => XS.aloadN X0.here hx rfl (hb hby d8_0) rfl rfl wk) ?_
  show Fin1 p e below s (rmJ1Q Z a1 q b x pe pv h0 n0) ({ frames := 0, cells := 0, slots := 0, locals := 0 } : Room).cells ({ frames := 0, cells := 0, slots := 0, locals := 0 } : Room).slots (T0.setTop (mkF m 1 #[.val (.ref a1), .val (.ref q), .val (.ref b)] [(.ref q)]))
  refine own_st (fun wt wk => XS.ifnonnullYes X0.here hx rfl (pc0 := 1) (pc' := 12) rfl (hb hby d8_1) rfl (by decide) (by decide) wk) ?_
  show Fin1 p e below s (rmJ1Q Z a1 q b x pe pv h0 n0) ({ frames := 0, cells := 0, slots := 0, locals := 0 } : Room).cells ({ frames := 0, cells := 0, slots := 0, locals := 0 } : Room).slots (T0.setTop (mkF m 12 #[.val (.ref a1), .val (.ref q), .val (.ref b)] []))
  refine own_st (fun wt wk => XS.aloadN X0.here hx rfl (hb hby d8_12) rfl rfl (XS.aloadN X0.here hx rfl (hb hby d8_13) rfl rfl wk)) ?_
  show Fin1 p e below s (rmJ1Q Z a1 q b x pe pv h0 n0) ({ frames := 0, cells := 0, slots := 0, locals := 0 } : Room).cells ({ frames := 0, cells := 0, slots := 0, locals := 0 } : Room).slots (T0.setTop (mkF m 14 #[.val (.ref a1), .val (.ref q), .val (.ref b)] [(.ref b), (.ref q)]))
  obtain ⟨T1, h1, X1, e1, W1, st1⟩ := own_putRef X0 hx hZ hown (hw _ (List.mem_of_getElem? (i := 49) rfl)) e0 Nq E_q (hw _ (List.mem_of_getElem? (i := 50) rfl)) (hw _ (List.mem_of_getElem? (i := 35) rfl)) (ty := (.object "com/example/listwright/listwright/LinkedStorage$Node")) (by decide) rfl rfl (g := (mkF m 14 #[.val (.ref a1), .val (.ref q), .val (.ref b)] [(.ref b), (.ref q)])) rfl rfl (hb hby d8_14)
  refine own_st st1 ?_
  have N1 := Fr.snoc X1 N0 g_q
  have Z0 := Nat.le_trans Z0 (Nat.le_of_eq W1.size.symm)
  have K0 := K0.wr W1 (Or.inl (List.mem_of_getElem? (i := 0) rfl))
  have E_q := E_q.wr W1
  have Eq := Eq.other W1 (Or.inr (slot_ne (Or.inl (hw _ (List.mem_of_getElem? (i := 42) rfl))) (Or.inl (hw _ (List.mem_of_getElem? (i := 50) rfl))) (by decide) (t := (.object "java/lang/Object")) (t' := (.object "com/example/listwright/listwright/LinkedStorage$Node")) (by decide) (by decide)))
  have Pq := Pq.other W1 (Or.inr (slot_ne (Or.inl (hw _ (List.mem_of_getElem? (i := 48) rfl))) (Or.inl (hw _ (List.mem_of_getElem? (i := 50) rfl))) (by decide) (t := (.object "com/example/listwright/listwright/LinkedStorage$Node")) (t' := (.object "com/example/listwright/listwright/LinkedStorage$Node")) (by decide) (by decide)))
  have Nq := Nq.same W1
  have E_b := E_b.wr W1
  have Eb := Eb.other W1 (Or.inl (Ne.symm ne_q_b))
  have Pb := Pb.other W1 (Or.inl (Ne.symm ne_q_b))
  have Nb := Nb.other W1 (Or.inl (Ne.symm ne_q_b))
  show Fin1 p e below s (rmJ1Q Z a1 q b x pe pv h0 n0) ({ frames := 0, cells := 0, slots := 0, locals := 0 } : Room).cells ({ frames := 0, cells := 0, slots := 0, locals := 0 } : Room).slots (T1.setTop (mkF m 17 #[.val (.ref a1), .val (.ref q), .val (.ref b)] []))
  refine own_st (fun wt wk => XS.aloadN X1.here hx rfl (hb hby d8_17) rfl rfl wk) ?_
  show Fin1 p e below s (rmJ1Q Z a1 q b x pe pv h0 n0) ({ frames := 0, cells := 0, slots := 0, locals := 0 } : Room).cells ({ frames := 0, cells := 0, slots := 0, locals := 0 } : Room).slots (T1.setTop (mkF m 18 #[.val (.ref a1), .val (.ref q), .val (.ref b)] [(.ref b)]))
  refine own_st (fun wt wk => XS.ifnonnullYes X1.here hx rfl (pc0 := 18) (pc' := 29) rfl (hb hby d8_18) rfl (by decide) (by decide) wk) ?_
  show Fin1 p e below s (rmJ1Q Z a1 q b x pe pv h0 n0) ({ frames := 0, cells := 0, slots := 0, locals := 0 } : Room).cells ({ frames := 0, cells := 0, slots := 0, locals := 0 } : Room).slots (T1.setTop (mkF m 29 #[.val (.ref a1), .val (.ref q), .val (.ref b)] []))
  refine own_st (fun wt wk => XS.aloadN X1.here hx rfl (hb hby d8_29) rfl rfl (XS.aloadN X1.here hx rfl (hb hby d8_30) rfl rfl wk)) ?_
  show Fin1 p e below s (rmJ1Q Z a1 q b x pe pv h0 n0) ({ frames := 0, cells := 0, slots := 0, locals := 0 } : Room).cells ({ frames := 0, cells := 0, slots := 0, locals := 0 } : Room).slots (T1.setTop (mkF m 31 #[.val (.ref a1), .val (.ref q), .val (.ref b)] [(.ref q), (.ref b)]))
  obtain ⟨T2, h2, X2, e2, W2, st2⟩ := own_putRef X1 hx hZ hown (hw _ (List.mem_of_getElem? (i := 47) rfl)) e1 Pb E_b (hw _ (List.mem_of_getElem? (i := 48) rfl)) (hw _ (List.mem_of_getElem? (i := 35) rfl)) (ty := (.object "com/example/listwright/listwright/LinkedStorage$Node")) (by decide) rfl rfl (g := (mkF m 31 #[.val (.ref a1), .val (.ref q), .val (.ref b)] [(.ref q), (.ref b)])) rfl rfl (hb hby d8_31)
  refine own_st st2 ?_
  have N2 := Fr.snoc X2 N1 g_b
  have Z0 := Nat.le_trans Z0 (Nat.le_of_eq W2.size.symm)
  have K0 := K0.wr W2 (Or.inl (List.mem_of_getElem? (i := 1) rfl))
  have E_q := E_q.wr W2
  have Eq := Eq.other W2 (Or.inl ne_q_b)
  have Pq := Pq.other W2 (Or.inl ne_q_b)
  have Nq := Nq.other W2 (Or.inl ne_q_b)
  have E_b := E_b.wr W2
  have Eb := Eb.other W2 (Or.inr (slot_ne (Or.inl (hw _ (List.mem_of_getElem? (i := 42) rfl))) (Or.inl (hw _ (List.mem_of_getElem? (i := 48) rfl))) (by decide) (t := (.object "java/lang/Object")) (t' := (.object "com/example/listwright/listwright/LinkedStorage$Node")) (by decide) (by decide)))
  have Pb := Pb.same W2
  have Nb := Nb.other W2 (Or.inr (slot_ne (Or.inl (hw _ (List.mem_of_getElem? (i := 50) rfl))) (Or.inl (hw _ (List.mem_of_getElem? (i := 48) rfl))) (by decide) (t := (.object "com/example/listwright/listwright/LinkedStorage$Node")) (t' := (.object "com/example/listwright/listwright/LinkedStorage$Node")) (by decide) (by decide)))
  show Fin1 p e below s (rmJ1Q Z a1 q b x pe pv h0 n0) ({ frames := 0, cells := 0, slots := 0, locals := 0 } : Room).cells ({ frames := 0, cells := 0, slots := 0, locals := 0 } : Room).slots (T2.setTop (mkF m 34 #[.val (.ref a1), .val (.ref q), .val (.ref b)] []))
  exact own_retV X2 hx hlk hret (hb hby d8_34) (by rw [e2]; exact ⟨rfl, N2, K0, Eq, Pq, Nq, Eb, Pb, Nb⟩) (by decide) (by decide)
def rmJ2Q (Z : State) (a1 : Addr) (b : Addr) (x : Addr) (pv : Value) (hv : Value) (tv : Value) (z : Int32) (h0 : Heap) (n0 : Nat) (v : Option Value) (h : Heap) (L : List Loc) : Prop := v = none ∧ Fr n0 L ∧ Keep h0 h [b, a1] ∧ Fld Z h b "com/example/listwright/listwright/LinkedStorage$Node" "element" "Ljava/lang/Object;" (.ref x) ∧ Fld Z h b "com/example/listwright/listwright/LinkedStorage$Node" "previous" "Lcom/example/listwright/listwright/LinkedStorage$Node;" pv ∧ Fld Z h b "com/example/listwright/listwright/LinkedStorage$Node" "next" "Lcom/example/listwright/listwright/LinkedStorage$Node;" .null ∧ Fld Z h a1 "com/example/listwright/listwright/LinkedStorage" "head" "Lcom/example/listwright/listwright/LinkedStorage$Node;" hv ∧ Fld Z h a1 "com/example/listwright/listwright/LinkedStorage" "tail" "Lcom/example/listwright/listwright/LinkedStorage$Node;" (.ref b) ∧ Fld Z h a1 "com/example/listwright/listwright/LinkedStorage" "size" "I" (.int z)
set_option maxRecDepth 65536 in
set_option maxHeartbeats 40000000 in
theorem rmJ2 (l : Launch) (Z : State) (a0 : Array Value) (hw : ∀ d ∈ tables_1, d.before a0 Z = true) (a1 : Addr) (b : Addr) (x : Addr) (pv : Value) (hv : Value) (tv : Value) (z : Int32) (h0 : Heap) (n0 : Nat) (Z0 : n0 ≤ h0.size) (g_a1 : n0 ≤ a1) (g_b : n0 ≤ b) (E_a1 : Exa Z h0 a1 "com/example/listwright/listwright/LinkedStorage") (E_b : Exa Z h0 b "com/example/listwright/listwright/LinkedStorage$Node") (Ha1 : Fld Z h0 a1 "com/example/listwright/listwright/LinkedStorage" "head" "Lcom/example/listwright/listwright/LinkedStorage$Node;" hv) (Ta1 : Fld Z h0 a1 "com/example/listwright/listwright/LinkedStorage" "tail" "Lcom/example/listwright/listwright/LinkedStorage$Node;" tv) (Sa1 : Fld Z h0 a1 "com/example/listwright/listwright/LinkedStorage" "size" "I" (.int z)) (Eb : Fld Z h0 b "com/example/listwright/listwright/LinkedStorage$Node" "element" "Ljava/lang/Object;" (.ref x)) (Pb : Fld Z h0 b "com/example/listwright/listwright/LinkedStorage$Node" "previous" "Lcom/example/listwright/listwright/LinkedStorage$Node;" pv) (Nb : Fld Z h0 b "com/example/listwright/listwright/LinkedStorage$Node" "next" "Lcom/example/listwright/listwright/LinkedStorage$Node;" .null) (ne_a1_b : a1 ≠ b) :
    Ct l Z [] (⟨"com/example/listwright/listwright/LinkedStorage", "join", "(Lcom/example/listwright/listwright/LinkedStorage$Node;Lcom/example/listwright/listwright/LinkedStorage$Node;)V"⟩ : MethodName) prog_19_method_20_code 3 none ({ frames := 0, cells := 0, slots := 0, locals := 0 } : Room) #[(.ref a1), (.ref b), .null] h0 (rmJ2Q Z a1 b x pv hv tv z h0 n0) := by
  refine own_enter (plainFor_of_name pn_5) ?_
  intro p e s m below meth c T0 X0 hx hby hml hZ hown hnm hret hlk e0
  have hown : s.vm.findClass "com/example/listwright/listwright/LinkedStorage" = some m.cls := hown
  have N0 := Fr.nil n0
  have K0 := Keep.refl h0 [b, a1]
  refine own_st (fun wt wk => castTop (g' := mkF m 0 #[.val (.ref a1), .val (.ref b), .val .null] []) (by first | (simp [entryFrame, mkF, argsToLocals, Value.category]; done) | rfl) wk) ?_
  show Fin1 p e below s (rmJ2Q Z a1 b x pv hv tv z h0 n0) ({ frames := 0, cells := 0, slots := 0, locals := 0 } : Room).cells ({ frames := 0, cells := 0, slots := 0, locals := 0 } : Room).slots (T0.setTop (mkF m 0 #[.val (.ref a1), .val (.ref b), .val .null] []))
  refine own_st (fun wt wk => XS.aloadN X0.here hx rfl (hb hby d8_0) rfl rfl wk) ?_
  show Fin1 p e below s (rmJ2Q Z a1 b x pv hv tv z h0 n0) ({ frames := 0, cells := 0, slots := 0, locals := 0 } : Room).cells ({ frames := 0, cells := 0, slots := 0, locals := 0 } : Room).slots (T0.setTop (mkF m 1 #[.val (.ref a1), .val (.ref b), .val .null] [(.ref b)]))
  refine own_st (fun wt wk => XS.ifnonnullYes X0.here hx rfl (pc0 := 1) (pc' := 12) rfl (hb hby d8_1) rfl (by decide) (by decide) wk) ?_
  show Fin1 p e below s (rmJ2Q Z a1 b x pv hv tv z h0 n0) ({ frames := 0, cells := 0, slots := 0, locals := 0 } : Room).cells ({ frames := 0, cells := 0, slots := 0, locals := 0 } : Room).slots (T0.setTop (mkF m 12 #[.val (.ref a1), .val (.ref b), .val .null] []))
  refine own_st (fun wt wk => XS.aloadN X0.here hx rfl (hb hby d8_12) rfl rfl (XS.aloadN X0.here hx rfl (hb hby d8_13) rfl rfl wk)) ?_
  show Fin1 p e below s (rmJ2Q Z a1 b x pv hv tv z h0 n0) ({ frames := 0, cells := 0, slots := 0, locals := 0 } : Room).cells ({ frames := 0, cells := 0, slots := 0, locals := 0 } : Room).slots (T0.setTop (mkF m 14 #[.val (.ref a1), .val (.ref b), .val .null] [.null, (.ref b)]))
  obtain ⟨T1, h1, X1, e1, W1, st1⟩ := own_putRef X0 hx hZ hown (hw _ (List.mem_of_getElem? (i := 49) rfl)) e0 Nb E_b (hw _ (List.mem_of_getElem? (i := 50) rfl)) (hw _ (List.mem_of_getElem? (i := 35) rfl)) (ty := (.object "com/example/listwright/listwright/LinkedStorage$Node")) (by decide) rfl rfl (g := (mkF m 14 #[.val (.ref a1), .val (.ref b), .val .null] [.null, (.ref b)])) rfl rfl (hb hby d8_14)
  refine own_st st1 ?_
  have N1 := Fr.snoc X1 N0 g_b
  have Z0 := Nat.le_trans Z0 (Nat.le_of_eq W1.size.symm)
  have K0 := K0.wr W1 (Or.inl (List.mem_of_getElem? (i := 0) rfl))
  have E_a1 := E_a1.wr W1
  have Ha1 := Ha1.other W1 (Or.inl ne_a1_b)
  have Ta1 := Ta1.other W1 (Or.inl ne_a1_b)
  have Sa1 := Sa1.other W1 (Or.inl ne_a1_b)
  have E_b := E_b.wr W1
  have Eb := Eb.other W1 (Or.inr (slot_ne (Or.inl (hw _ (List.mem_of_getElem? (i := 42) rfl))) (Or.inl (hw _ (List.mem_of_getElem? (i := 50) rfl))) (by decide) (t := (.object "java/lang/Object")) (t' := (.object "com/example/listwright/listwright/LinkedStorage$Node")) (by decide) (by decide)))
  have Pb := Pb.other W1 (Or.inr (slot_ne (Or.inl (hw _ (List.mem_of_getElem? (i := 48) rfl))) (Or.inl (hw _ (List.mem_of_getElem? (i := 50) rfl))) (by decide) (t := (.object "com/example/listwright/listwright/LinkedStorage$Node")) (t' := (.object "com/example/listwright/listwright/LinkedStorage$Node")) (by decide) (by decide)))
  have Nb := Nb.same W1
  show Fin1 p e below s (rmJ2Q Z a1 b x pv hv tv z h0 n0) ({ frames := 0, cells := 0, slots := 0, locals := 0 } : Room).cells ({ frames := 0, cells := 0, slots := 0, locals := 0 } : Room).slots (T1.setTop (mkF m 17 #[.val (.ref a1), .val (.ref b), .val .null] []))
  refine own_st (fun wt wk => XS.aloadN X1.here hx rfl (hb hby d8_17) rfl rfl wk) ?_
  show Fin1 p e below s (rmJ2Q Z a1 b x pv hv tv z h0 n0) ({ frames := 0, cells := 0, slots := 0, locals := 0 } : Room).cells ({ frames := 0, cells := 0, slots := 0, locals := 0 } : Room).slots (T1.setTop (mkF m 18 #[.val (.ref a1), .val (.ref b), .val .null] [.null]))
  refine own_st (fun wt wk => XS.ifnonnullNo X1.here hx rfl (hb hby d8_18) rfl wk) ?_
  show Fin1 p e below s (rmJ2Q Z a1 b x pv hv tv z h0 n0) ({ frames := 0, cells := 0, slots := 0, locals := 0 } : Room).cells ({ frames := 0, cells := 0, slots := 0, locals := 0 } : Room).slots (T1.setTop (mkF m 21 #[.val (.ref a1), .val (.ref b), .val .null] []))
  refine own_st (fun wt wk => XS.aloadN X1.here hx rfl (hb hby d8_21) rfl rfl (XS.aloadN X1.here hx rfl (hb hby d8_22) rfl rfl wk)) ?_
  show Fin1 p e below s (rmJ2Q Z a1 b x pv hv tv z h0 n0) ({ frames := 0, cells := 0, slots := 0, locals := 0 } : Room).cells ({ frames := 0, cells := 0, slots := 0, locals := 0 } : Room).slots (T1.setTop (mkF m 23 #[.val (.ref a1), .val (.ref b), .val .null] [(.ref b), (.ref a1)]))
  obtain ⟨T2, h2, X2, e2, W2, st2⟩ := putF X1 hx hZ hown (host := "") (Or.inl (hw _ (List.mem_of_getElem? (i := 51) rfl))) Via.refl e1 Ta1 E_a1 (Or.inl (hw _ (List.mem_of_getElem? (i := 52) rfl))) (hw _ (List.mem_of_getElem? (i := 3) rfl)) (ty := (.object "com/example/listwright/listwright/LinkedStorage$Node")) (by decide) rfl rfl (g := (mkF m 23 #[.val (.ref a1), .val (.ref b), .val .null] [(.ref b), (.ref a1)])) rfl rfl (hb hby d8_23)
  refine own_st st2 ?_
  have N2 := Fr.snoc X2 N1 g_a1
  have Z0 := Nat.le_trans Z0 (Nat.le_of_eq W2.size.symm)
  have K0 := K0.wr W2 (Or.inl (List.mem_of_getElem? (i := 1) rfl))
  have E_a1 := E_a1.wr W2
  have Ha1 := Ha1.other W2 (Or.inr (slot_ne (Or.inl (hw _ (List.mem_of_getElem? (i := 33) rfl))) (Or.inl (hw _ (List.mem_of_getElem? (i := 52) rfl))) (by decide) (t := (.object "com/example/listwright/listwright/LinkedStorage$Node")) (t' := (.object "com/example/listwright/listwright/LinkedStorage$Node")) (by decide) (by decide)))
  have Ta1 := Ta1.same W2
  have Sa1 := Sa1.other W2 (Or.inr (slot_ne (Or.inl (hw _ (List.mem_of_getElem? (i := 54) rfl))) (Or.inl (hw _ (List.mem_of_getElem? (i := 52) rfl))) (by decide) (t := .int) (t' := (.object "com/example/listwright/listwright/LinkedStorage$Node")) (by decide) (by decide)))
  have E_b := E_b.wr W2
  have Eb := Eb.other W2 (Or.inl (Ne.symm ne_a1_b))
  have Pb := Pb.other W2 (Or.inl (Ne.symm ne_a1_b))
  have Nb := Nb.other W2 (Or.inl (Ne.symm ne_a1_b))
  show Fin1 p e below s (rmJ2Q Z a1 b x pv hv tv z h0 n0) ({ frames := 0, cells := 0, slots := 0, locals := 0 } : Room).cells ({ frames := 0, cells := 0, slots := 0, locals := 0 } : Room).slots (T2.setTop (mkF m 26 #[.val (.ref a1), .val (.ref b), .val .null] []))
  refine own_st (fun wt wk => XS.goto X2.here hx rfl (pc0 := 26) (pc' := 34) rfl (hb hby d8_26) (by decide) (by decide) wk) ?_
  show Fin1 p e below s (rmJ2Q Z a1 b x pv hv tv z h0 n0) ({ frames := 0, cells := 0, slots := 0, locals := 0 } : Room).cells ({ frames := 0, cells := 0, slots := 0, locals := 0 } : Room).slots (T2.setTop (mkF m 34 #[.val (.ref a1), .val (.ref b), .val .null] []))
  exact own_retV X2 hx hlk hret (hb hby d8_34) (by rw [e2]; exact ⟨rfl, N2, K0, Eb, Pb, Nb, Ha1, Ta1, Sa1⟩) (by decide) (by decide)
theorem d6_0 : decode prog_19_method_18_code 0 = .ok (.aload_n 1, 1) := by decide +kernel
theorem d6_1 : decode prog_19_method_18_code 1 = .ok (.ifnonnull 10, 3) := by decide +kernel
theorem d6_4 : decode prog_19_method_18_code 4 = .ok (.aload_n 0, 1) := by decide +kernel
theorem d6_5 : decode prog_19_method_18_code 5 = .ok (.getfield 48, 3) := by decide +kernel
theorem d6_8 : decode prog_19_method_18_code 8 = .ok (.goto 7, 3) := by decide +kernel
theorem d6_11 : decode prog_19_method_18_code 11 = .ok (.aload_n 1, 1) := by decide +kernel
theorem d6_12 : decode prog_19_method_18_code 12 = .ok (.getfield 57, 3) := by decide +kernel
theorem d6_15 : decode prog_19_method_18_code 15 = .ok (.astore_n 3, 1) := by decide +kernel
theorem d6_16 : decode prog_19_method_18_code 16 = .ok (.new 18, 3) := by decide +kernel
theorem d6_19 : decode prog_19_method_18_code 19 = .ok (.dup, 1) := by decide +kernel
theorem d6_20 : decode prog_19_method_18_code 20 = .ok (.aload_n 2, 1) := by decide +kernel
theorem d6_21 : decode prog_19_method_18_code 21 = .ok (.invokespecial 75, 3) := by decide +kernel
theorem d6_24 : decode prog_19_method_18_code 24 = .ok (.astore 4, 2) := by decide +kernel
theorem d6_26 : decode prog_19_method_18_code 26 = .ok (.aload_n 0, 1) := by decide +kernel
theorem d6_27 : decode prog_19_method_18_code 27 = .ok (.aload_n 1, 1) := by decide +kernel
theorem d6_28 : decode prog_19_method_18_code 28 = .ok (.aload 4, 2) := by decide +kernel
theorem d6_30 : decode prog_19_method_18_code 30 = .ok (.invokevirtual 78, 3) := by decide +kernel
theorem d6_33 : decode prog_19_method_18_code 33 = .ok (.aload_n 0, 1) := by decide +kernel
theorem d6_34 : decode prog_19_method_18_code 34 = .ok (.aload 4, 2) := by decide +kernel
theorem d6_36 : decode prog_19_method_18_code 36 = .ok (.aload_n 3, 1) := by decide +kernel
theorem d6_37 : decode prog_19_method_18_code 37 = .ok (.invokevirtual 78, 3) := by decide +kernel
theorem d6_40 : decode prog_19_method_18_code 40 = .ok (.aload_n 0, 1) := by decide +kernel
theorem d6_41 : decode prog_19_method_18_code 41 = .ok (.dup, 1) := by decide +kernel
theorem d6_42 : decode prog_19_method_18_code 42 = .ok (.getfield 7, 3) := by decide +kernel
theorem d6_45 : decode prog_19_method_18_code 45 = .ok (.iconst 1, 1) := by decide +kernel
theorem d6_46 : decode prog_19_method_18_code 46 = .ok (.iadd, 1) := by decide +kernel
theorem d6_47 : decode prog_19_method_18_code 47 = .ok (.putfield 7, 3) := by decide +kernel
theorem d6_50 : decode prog_19_method_18_code 50 = .ok (.aload 4, 2) := by decide +kernel
theorem d6_52 : decode prog_19_method_18_code 52 = .ok (.areturn, 1) := by decide +kernel
theorem pd_7 : parseMethodDescriptor "(Ljava/lang/Object;)V" = some ⟨[(.object "java/lang/Object")], none⟩ := by decide +kernel
theorem pd_8 : parseMethodDescriptor "(Lcom/example/listwright/listwright/LinkedStorage$Node;Lcom/example/listwright/listwright/LinkedStorage$Node;)V" = some ⟨[(.object "com/example/listwright/listwright/LinkedStorage$Node"), (.object "com/example/listwright/listwright/LinkedStorage$Node")], none⟩ := by decide +kernel
def rmL0Q (Z : State) (a1 : Addr) (x : Addr) (h0 : Heap) (n0 : Nat) (v : Option Value) (h : Heap) (L : List Loc) : Prop := ∃ b : Addr, v = some (.ref b) ∧ Fr n0 L ∧ h0.size ≤ b ∧ Keep h0 h [a1] ∧ Exa Z h b "com/example/listwright/listwright/LinkedStorage$Node" ∧ Fld Z h a1 "com/example/listwright/listwright/LinkedStorage" "head" "Lcom/example/listwright/listwright/LinkedStorage$Node;" (.ref b) ∧ Fld Z h a1 "com/example/listwright/listwright/LinkedStorage" "tail" "Lcom/example/listwright/listwright/LinkedStorage$Node;" (.ref b) ∧ Fld Z h a1 "com/example/listwright/listwright/LinkedStorage" "size" "I" (.int (1 : Int32)) ∧ Fld Z h b "com/example/listwright/listwright/LinkedStorage$Node" "element" "Ljava/lang/Object;" (.ref x) ∧ Fld Z h b "com/example/listwright/listwright/LinkedStorage$Node" "previous" "Lcom/example/listwright/listwright/LinkedStorage$Node;" .null ∧ Fld Z h b "com/example/listwright/listwright/LinkedStorage$Node" "next" "Lcom/example/listwright/listwright/LinkedStorage$Node;" .null
set_option maxRecDepth 65536 in
set_option maxHeartbeats 40000000 in
theorem rmL0 (l : Launch) (Z : State) (a0 : Array Value) (hw : ∀ d ∈ tables_1, d.before a0 Z = true) (a1 : Addr) (x : Addr) (h0 : Heap) (n0 : Nat) (Z0 : n0 ≤ h0.size) (g_a1 : n0 ≤ a1) (E_a1 : Exa Z h0 a1 "com/example/listwright/listwright/LinkedStorage") (Ha1 : Fld Z h0 a1 "com/example/listwright/listwright/LinkedStorage" "head" "Lcom/example/listwright/listwright/LinkedStorage$Node;" .null) (Ta1 : Fld Z h0 a1 "com/example/listwright/listwright/LinkedStorage" "tail" "Lcom/example/listwright/listwright/LinkedStorage$Node;" .null) (Sa1 : Fld Z h0 a1 "com/example/listwright/listwright/LinkedStorage" "size" "I" (.int (0 : Int32))) :
    Ct l Z [] (⟨"com/example/listwright/listwright/LinkedStorage", "linkAfter", "(Lcom/example/listwright/listwright/LinkedStorage$Node;Ljava/lang/Object;)Lcom/example/listwright/listwright/LinkedStorage$Node;"⟩ : MethodName) prog_19_method_18_code 5 (some (.object "com/example/listwright/listwright/LinkedStorage$Node")) ({ frames := 2, cells := 1, slots := 3, locals := 26 } : Room) #[(.ref a1), .null, (.ref x)] h0 (rmL0Q Z a1 x h0 n0) := by
  refine own_enter (plainFor_of_name pn_5) ?_
  intro p e s m below meth c T0 X0 hx hby hml hZ hown hnm hret hlk e0
  have hown : s.vm.findClass "com/example/listwright/listwright/LinkedStorage" = some m.cls := hown
  have N0 := Fr.nil n0
  have K0 := Keep.refl h0 [a1]
  refine own_st (fun wt wk => castTop (g' := mkF m 0 #[.val (.ref a1), .val .null, .val (.ref x), .unset, .unset] []) (by first | (simp [entryFrame, mkF, argsToLocals, Value.category]; done) | rfl) wk) ?_
  show Fin1 p e below s (rmL0Q Z a1 x h0 n0) ({ frames := 2, cells := 1, slots := 3, locals := 26 } : Room).cells ({ frames := 2, cells := 1, slots := 3, locals := 26 } : Room).slots (T0.setTop (mkF m 0 #[.val (.ref a1), .val .null, .val (.ref x), .unset, .unset] []))
  refine own_st (fun wt wk => XS.aloadN X0.here hx rfl (hb hby d6_0) rfl rfl wk) ?_
  show Fin1 p e below s (rmL0Q Z a1 x h0 n0) ({ frames := 2, cells := 1, slots := 3, locals := 26 } : Room).cells ({ frames := 2, cells := 1, slots := 3, locals := 26 } : Room).slots (T0.setTop (mkF m 1 #[.val (.ref a1), .val .null, .val (.ref x), .unset, .unset] [.null]))
  refine own_st (fun wt wk => XS.ifnonnullNo X0.here hx rfl (hb hby d6_1) rfl wk) ?_
  show Fin1 p e below s (rmL0Q Z a1 x h0 n0) ({ frames := 2, cells := 1, slots := 3, locals := 26 } : Room).cells ({ frames := 2, cells := 1, slots := 3, locals := 26 } : Room).slots (T0.setTop (mkF m 4 #[.val (.ref a1), .val .null, .val (.ref x), .unset, .unset] []))
  refine own_st (fun wt wk => XS.aloadN X0.here hx rfl (hb hby d6_4) rfl rfl wk) ?_
  show Fin1 p e below s (rmL0Q Z a1 x h0 n0) ({ frames := 2, cells := 1, slots := 3, locals := 26 } : Room).cells ({ frames := 2, cells := 1, slots := 3, locals := 26 } : Room).slots (T0.setTop (mkF m 5 #[.val (.ref a1), .val .null, .val (.ref x), .unset, .unset] [(.ref a1)]))
  obtain ⟨T1, X1, e1, st1⟩ := getF X0 hx hZ hown (host := "") (Or.inl (hw _ (List.mem_of_getElem? (i := 32) rfl))) Via.refl e0 Ha1 (g := (mkF m 5 #[.val (.ref a1), .val .null, .val (.ref x), .unset, .unset] [(.ref a1)])) rfl rfl (hb hby d6_5)
  refine own_st st1 ?_
  show Fin1 p e below s (rmL0Q Z a1 x h0 n0) ({ frames := 2, cells := 1, slots := 3, locals := 26 } : Room).cells ({ frames := 2, cells := 1, slots := 3, locals := 26 } : Room).slots (T1.setTop (mkF m 8 #[.val (.ref a1), .val .null, .val (.ref x), .unset, .unset] [.null]))
  refine own_st (fun wt wk => XS.goto X1.here hx rfl (pc0 := 8) (pc' := 15) rfl (hb hby d6_8) (by decide) (by decide) (XS.astoreN X1.here hx rfl (hb hby d6_15) rfl rfl (l' := #[.val (.ref a1), .val .null, .val (.ref x), .val .null, .unset]) rfl wk)) ?_
  show Fin1 p e below s (rmL0Q Z a1 x h0 n0) ({ frames := 2, cells := 1, slots := 3, locals := 26 } : Room).cells ({ frames := 2, cells := 1, slots := 3, locals := 26 } : Room).slots (T1.setTop (mkF m 16 #[.val (.ref a1), .val .null, .val (.ref x), .val .null, .unset] []))
  obtain ⟨T2, h2, X2, e2, E2, A2, D2, -, st2⟩ := newO X1 hx hZ hown (hw _ (List.mem_of_getElem? (i := 34) rfl)) (hw _ (List.mem_of_getElem? (i := 35) rfl)) (hw _ (List.mem_of_getElem? (i := 36) rfl)) e1 (g := (mkF m 16 #[.val (.ref a1), .val .null, .val (.ref x), .val .null, .unset] [])) rfl (hb hby d6_16) (by decide) (by decide)
  obtain ⟨b, gz_b⟩ : ∃ z, z = h0.size := ⟨_, rfl⟩
  rw [← gz_b] at A2 D2 st2
  have ne_a1_b : a1 ≠ b := Nat.ne_of_lt (Nat.lt_of_lt_of_le E_a1.lt (Nat.le_of_eq gz_b.symm))
  have sz_b : h0.size ≤ b := Nat.le_trans K0.1 (Nat.le_of_eq gz_b.symm)
  have g_b : n0 ≤ b := Nat.le_trans Z0 (Nat.le_of_eq gz_b.symm)
  have Z0 := Nat.le_trans Z0 E2.1
  have K0 := K0.ext E2
  have E_a1 := E_a1.ext E2
  have Ha1 := Ha1.ext E2
  have Ta1 := Ta1.ext E2
  have Sa1 := Sa1.ext E2
  refine own_st st2 ?_
  have E_b := A2
  have F_element_b : Fld Z h2 b "com/example/listwright/listwright/LinkedStorage$Node" "element" "Ljava/lang/Object;" .null := D2 (Or.inl (hw _ (List.mem_of_getElem? (i := 42) rfl))) (ty := (.object "java/lang/Object")) (by decide)
  have F_previous_b : Fld Z h2 b "com/example/listwright/listwright/LinkedStorage$Node" "previous" "Lcom/example/listwright/listwright/LinkedStorage$Node;" .null := D2 (Or.inl (hw _ (List.mem_of_getElem? (i := 48) rfl))) (ty := (.object "com/example/listwright/listwright/LinkedStorage$Node")) (by decide)
  have F_next_b : Fld Z h2 b "com/example/listwright/listwright/LinkedStorage$Node" "next" "Lcom/example/listwright/listwright/LinkedStorage$Node;" .null := D2 (Or.inl (hw _ (List.mem_of_getElem? (i := 50) rfl))) (ty := (.object "com/example/listwright/listwright/LinkedStorage$Node")) (by decide)
  show Fin1 p e below s (rmL0Q Z a1 x h0 n0) ({ frames := 2, cells := 1, slots := 3, locals := 26 } : Room).cells ({ frames := 2, cells := 1, slots := 3, locals := 26 } : Room).slots (T2.setTop (mkF m 19 #[.val (.ref a1), .val .null, .val (.ref x), .val .null, .unset] [(.ref b)]))
  refine own_st (fun wt wk => XS.dup X2.here hx rfl (hb hby d6_19) rfl rfl (XS.aloadN X2.here hx rfl (hb hby d6_20) rfl rfl wk)) ?_
  show Fin1 p e below s (rmL0Q Z a1 x h0 n0) ({ frames := 2, cells := 1, slots := 3, locals := 26 } : Room).cells ({ frames := 2, cells := 1, slots := 3, locals := 26 } : Room).slots (T2.setTop (mkF m 21 #[.val (.ref a1), .val .null, .val (.ref x), .val .null, .unset] [(.ref x), (.ref b), (.ref b)]))
  obtain ⟨v3, T3, h3, L3, X3, e3, hQ3, st3⟩ := own_specialRef X2 hx hZ hown rfl (hw _ (List.mem_of_getElem? (i := 37) rfl)) (hw _ (List.mem_of_getElem? (i := 38) rfl)) (hw _ (List.mem_of_getElem? (i := 39) rfl)) (hw _ (List.mem_of_getElem? (i := 36) rfl)) (by decide) (a := b) (rmN l Z a0 hw b x h2 n0 Z0 g_b E_b F_element_b F_previous_b F_next_b) e2 (g := (mkF m 21 #[.val (.ref a1), .val .null, .val (.ref x), .val .null, .unset] [(.ref x), (.ref b), (.ref b)])) rfl (by rw [hml]; rfl) (argsL := [(.ref x)]) (rest := [(.ref b)]) (lenOf pd_7 rfl) rfl (W := 1) (by show 2 * 0 + _ ≤ _; exact Nat.le_of_eq rfl) (hb hby d6_21) (by decide) (by decide) (by decide) (by decide)
  obtain ⟨rfl, N3q, K3, Eb, Pb, Nb⟩ := hQ3
  have N3 := Fr.app N0 N3q
  have Z0 := Nat.le_trans Z0 K3.1
  have K0 := K0.trans K3 (allS (P := fun x => x ∈ [a1] ∨ h0.size ≤ x) (Or.inr sz_b) all0)
  have E_a1 := E_a1.keep K3
  have Ha1 := Ha1.keep K3 (ninS ne_a1_b nin0)
  have Ta1 := Ta1.keep K3 (ninS ne_a1_b nin0)
  have Sa1 := Sa1.keep K3 (ninS ne_a1_b nin0)
  have E_b := E_b.keep K3
  refine own_st st3 ?_
  show Fin1 p e below s (rmL0Q Z a1 x h0 n0) ({ frames := 2, cells := 1, slots := 3, locals := 26 } : Room).cells ({ frames := 2, cells := 1, slots := 3, locals := 26 } : Room).slots (T3.setTop (mkF m 24 #[.val (.ref a1), .val .null, .val (.ref x), .val .null, .unset] [(.ref b)]))
  refine own_st (fun wt wk => XS.astore X3.here hx rfl (hb hby d6_24) rfl rfl (l' := #[.val (.ref a1), .val .null, .val (.ref x), .val .null, .val (.ref b)]) rfl (XS.aloadN X3.here hx rfl (hb hby d6_26) rfl rfl (XS.aloadN X3.here hx rfl (hb hby d6_27) rfl rfl (XS.aload X3.here hx rfl (hb hby d6_28) rfl rfl wk)))) ?_
  show Fin1 p e below s (rmL0Q Z a1 x h0 n0) ({ frames := 2, cells := 1, slots := 3, locals := 26 } : Room).cells ({ frames := 2, cells := 1, slots := 3, locals := 26 } : Room).slots (T3.setTop (mkF m 30 #[.val (.ref a1), .val .null, .val (.ref x), .val .null, .val (.ref b)] [(.ref b), .null, (.ref a1)]))
  obtain ⟨v4, T4, h4, L4, X4, e4, hQ4, st4⟩ := own_private X3 hx hZ hown (hw _ (List.mem_of_getElem? (i := 43) rfl)) (hw _ (List.mem_of_getElem? (i := 44) rfl)) (hw _ (List.mem_of_getElem? (i := 3) rfl)) (hw _ (List.mem_of_getElem? (i := 45) rfl)) (hw _ (List.mem_of_getElem? (i := 46) rfl)) (hw _ (List.mem_of_getElem? (i := 4) rfl)) (by decide) (a := a1) E_a1 (rmJ0 l Z a0 hw a1 b x .null (0 : Int32) h3 n0 Z0 g_a1 g_b E_a1 E_b Ha1 Ta1 Sa1 Eb Pb Nb ne_a1_b) e3 (g := (mkF m 30 #[.val (.ref a1), .val .null, .val (.ref x), .val .null, .val (.ref b)] [(.ref b), .null, (.ref a1)])) rfl (by rw [hml]; rfl) (argsL := [.null, (.ref b)]) (rest := []) (lenOf pd_8 rfl) rfl (W := 0) (by show 2 * 0 + _ ≤ _; exact Nat.le_of_eq rfl) (hb hby d6_30) (by decide) (by decide) (by decide) (by decide)
  obtain ⟨rfl, N4q, K4, Ha1, Ta1, Sa1, Eb, Pb, Nb⟩ := hQ4
  have N4 := Fr.app N3 N4q
  have Z0 := Nat.le_trans Z0 K4.1
  have K0 := K0.trans K4 (allS (P := fun x => x ∈ [a1] ∨ h0.size ≤ x) (Or.inl (List.mem_of_getElem? (i := 0) rfl)) (allS (P := fun x => x ∈ [a1] ∨ h0.size ≤ x) (Or.inr sz_b) all0))
  have E_a1 := E_a1.keep K4
  have E_b := E_b.keep K4
  refine own_st st4 ?_
  show Fin1 p e below s (rmL0Q Z a1 x h0 n0) ({ frames := 2, cells := 1, slots := 3, locals := 26 } : Room).cells ({ frames := 2, cells := 1, slots := 3, locals := 26 } : Room).slots (T4.setTop (mkF m 33 #[.val (.ref a1), .val .null, .val (.ref x), .val .null, .val (.ref b)] []))
  refine own_st (fun wt wk => XS.aloadN X4.here hx rfl (hb hby d6_33) rfl rfl (XS.aload X4.here hx rfl (hb hby d6_34) rfl rfl (XS.aloadN X4.here hx rfl (hb hby d6_36) rfl rfl wk))) ?_
  show Fin1 p e below s (rmL0Q Z a1 x h0 n0) ({ frames := 2, cells := 1, slots := 3, locals := 26 } : Room).cells ({ frames := 2, cells := 1, slots := 3, locals := 26 } : Room).slots (T4.setTop (mkF m 37 #[.val (.ref a1), .val .null, .val (.ref x), .val .null, .val (.ref b)] [.null, (.ref b), (.ref a1)]))
  obtain ⟨v5, T5, h5, L5, X5, e5, hQ5, st5⟩ := own_private X4 hx hZ hown (hw _ (List.mem_of_getElem? (i := 43) rfl)) (hw _ (List.mem_of_getElem? (i := 44) rfl)) (hw _ (List.mem_of_getElem? (i := 3) rfl)) (hw _ (List.mem_of_getElem? (i := 45) rfl)) (hw _ (List.mem_of_getElem? (i := 46) rfl)) (hw _ (List.mem_of_getElem? (i := 4) rfl)) (by decide) (a := a1) E_a1 (rmJ2 l Z a0 hw a1 b x .null (.ref b) .null (0 : Int32) h4 n0 Z0 g_a1 g_b E_a1 E_b Ha1 Ta1 Sa1 Eb Pb Nb ne_a1_b) e4 (g := (mkF m 37 #[.val (.ref a1), .val .null, .val (.ref x), .val .null, .val (.ref b)] [.null, (.ref b), (.ref a1)])) rfl (by rw [hml]; rfl) (argsL := [(.ref b), .null]) (rest := []) (lenOf pd_8 rfl) rfl (W := 0) (by show 2 * 0 + _ ≤ _; exact Nat.le_of_eq rfl) (hb hby d6_37) (by decide) (by decide) (by decide) (by decide)
  obtain ⟨rfl, N5q, K5, Eb, Pb, Nb, Ha1, Ta1, Sa1⟩ := hQ5
  have N5 := Fr.app N4 N5q
  have Z0 := Nat.le_trans Z0 K5.1
  have K0 := K0.trans K5 (allS (P := fun x => x ∈ [a1] ∨ h0.size ≤ x) (Or.inr sz_b) (allS (P := fun x => x ∈ [a1] ∨ h0.size ≤ x) (Or.inl (List.mem_of_getElem? (i := 0) rfl)) all0))
  have E_a1 := E_a1.keep K5
  have E_b := E_b.keep K5
  refine own_st st5 ?_
  show Fin1 p e below s (rmL0Q Z a1 x h0 n0) ({ frames := 2, cells := 1, slots := 3, locals := 26 } : Room).cells ({ frames := 2, cells := 1, slots := 3, locals := 26 } : Room).slots (T5.setTop (mkF m 40 #[.val (.ref a1), .val .null, .val (.ref x), .val .null, .val (.ref b)] []))
  refine own_st (fun wt wk => XS.aloadN X5.here hx rfl (hb hby d6_40) rfl rfl (XS.dup X5.here hx rfl (hb hby d6_41) rfl rfl wk)) ?_
  show Fin1 p e below s (rmL0Q Z a1 x h0 n0) ({ frames := 2, cells := 1, slots := 3, locals := 26 } : Room).cells ({ frames := 2, cells := 1, slots := 3, locals := 26 } : Room).slots (T5.setTop (mkF m 42 #[.val (.ref a1), .val .null, .val (.ref x), .val .null, .val (.ref b)] [(.ref a1), (.ref a1)]))
  obtain ⟨T6, X6, e6, st6⟩ := getF X5 hx hZ hown (host := "") (Or.inl (hw _ (List.mem_of_getElem? (i := 53) rfl))) Via.refl e5 Sa1 (g := (mkF m 42 #[.val (.ref a1), .val .null, .val (.ref x), .val .null, .val (.ref b)] [(.ref a1), (.ref a1)])) rfl rfl (hb hby d6_42)
  refine own_st st6 ?_
  show Fin1 p e below s (rmL0Q Z a1 x h0 n0) ({ frames := 2, cells := 1, slots := 3, locals := 26 } : Room).cells ({ frames := 2, cells := 1, slots := 3, locals := 26 } : Room).slots (T6.setTop (mkF m 45 #[.val (.ref a1), .val .null, .val (.ref x), .val .null, .val (.ref b)] [(.int (0 : Int32)), (.ref a1)]))
  refine own_st (fun wt wk => XS.iconst X6.here hx rfl (hb hby d6_45) (XS.iadd X6.here hx rfl (hb hby d6_46) rfl wk)) ?_
  show Fin1 p e below s (rmL0Q Z a1 x h0 n0) ({ frames := 2, cells := 1, slots := 3, locals := 26 } : Room).cells ({ frames := 2, cells := 1, slots := 3, locals := 26 } : Room).slots (T6.setTop (mkF m 47 #[.val (.ref a1), .val .null, .val (.ref x), .val .null, .val (.ref b)] [(.int ((0 : Int32) + (1 : Int32))), (.ref a1)]))
  rw [show ((0 : Int32) + (1 : Int32)) = (1 : Int32) from by decide]
  show Fin1 p e below s (rmL0Q Z a1 x h0 n0) ({ frames := 2, cells := 1, slots := 3, locals := 26 } : Room).cells ({ frames := 2, cells := 1, slots := 3, locals := 26 } : Room).slots (T6.setTop (mkF m 47 #[.val (.ref a1), .val .null, .val (.ref x), .val .null, .val (.ref b)] [(.int (1 : Int32)), (.ref a1)]))
  obtain ⟨T7, h7, X7, e7, W7, st7⟩ := putF X6 hx hZ hown (host := "") (Or.inl (hw _ (List.mem_of_getElem? (i := 53) rfl))) Via.refl e6 Sa1 E_a1 (Or.inl (hw _ (List.mem_of_getElem? (i := 54) rfl))) (hw _ (List.mem_of_getElem? (i := 3) rfl)) (ty := .int) (by decide) rfl rfl (g := (mkF m 47 #[.val (.ref a1), .val .null, .val (.ref x), .val .null, .val (.ref b)] [(.int (1 : Int32)), (.ref a1)])) rfl rfl (hb hby d6_47)
  refine own_st st7 ?_
  have N7 := Fr.snoc X7 N5 g_a1
  have Z0 := Nat.le_trans Z0 (Nat.le_of_eq W7.size.symm)
  have K0 := K0.wr W7 (Or.inl (List.mem_of_getElem? (i := 0) rfl))
  have E_a1 := E_a1.wr W7
  have E_b := E_b.wr W7
  have Eb := Eb.other W7 (Or.inl (Ne.symm ne_a1_b))
  have Pb := Pb.other W7 (Or.inl (Ne.symm ne_a1_b))
  have Nb := Nb.other W7 (Or.inl (Ne.symm ne_a1_b))
  have Ha1 := Ha1.other W7 (Or.inr (slot_ne (Or.inl (hw _ (List.mem_of_getElem? (i := 33) rfl))) (Or.inl (hw _ (List.mem_of_getElem? (i := 54) rfl))) (by decide) (t := (.object "com/example/listwright/listwright/LinkedStorage$Node")) (t' := .int) (by decide) (by decide)))
  have Ta1 := Ta1.other W7 (Or.inr (slot_ne (Or.inl (hw _ (List.mem_of_getElem? (i := 52) rfl))) (Or.inl (hw _ (List.mem_of_getElem? (i := 54) rfl))) (by decide) (t := (.object "com/example/listwright/listwright/LinkedStorage$Node")) (t' := .int) (by decide) (by decide)))
  have Sa1 := Sa1.same W7
  show Fin1 p e below s (rmL0Q Z a1 x h0 n0) ({ frames := 2, cells := 1, slots := 3, locals := 26 } : Room).cells ({ frames := 2, cells := 1, slots := 3, locals := 26 } : Room).slots (T7.setTop (mkF m 50 #[.val (.ref a1), .val .null, .val (.ref x), .val .null, .val (.ref b)] []))
  refine own_st (fun wt wk => XS.aload X7.here hx rfl (hb hby d6_50) rfl rfl wk) ?_
  show Fin1 p e below s (rmL0Q Z a1 x h0 n0) ({ frames := 2, cells := 1, slots := 3, locals := 26 } : Room).cells ({ frames := 2, cells := 1, slots := 3, locals := 26 } : Room).slots (T7.setTop (mkF m 52 #[.val (.ref a1), .val .null, .val (.ref x), .val .null, .val (.ref b)] [(.ref b)]))
  exact own_retA X7 hx hlk hret rfl rfl (hb hby d6_52) (by rw [e7]; exact ⟨b, rfl, N7, sz_b, K0, E_b, Ha1, Ta1, Sa1, Eb, Pb, Nb⟩) (by decide) (by decide)
def rmL1Q (Z : State) (a1 : Addr) (q : Addr) (x : Addr) (hd : Addr) (pe : Addr) (pv : Value) (h0 : Heap) (n0 : Nat) (v : Option Value) (h : Heap) (L : List Loc) : Prop := ∃ b : Addr, v = some (.ref b) ∧ Fr n0 L ∧ h0.size ≤ b ∧ Keep h0 h [a1, q] ∧ Exa Z h b "com/example/listwright/listwright/LinkedStorage$Node" ∧ Fld Z h a1 "com/example/listwright/listwright/LinkedStorage" "head" "Lcom/example/listwright/listwright/LinkedStorage$Node;" (.ref hd) ∧ Fld Z h a1 "com/example/listwright/listwright/LinkedStorage" "tail" "Lcom/example/listwright/listwright/LinkedStorage$Node;" (.ref b) ∧ Fld Z h a1 "com/example/listwright/listwright/LinkedStorage" "size" "I" (.int (2 : Int32)) ∧ Fld Z h q "com/example/listwright/listwright/LinkedStorage$Node" "element" "Ljava/lang/Object;" (.ref pe) ∧ Fld Z h q "com/example/listwright/listwright/LinkedStorage$Node" "previous" "Lcom/example/listwright/listwright/LinkedStorage$Node;" pv ∧ Fld Z h q "com/example/listwright/listwright/LinkedStorage$Node" "next" "Lcom/example/listwright/listwright/LinkedStorage$Node;" (.ref b) ∧ Fld Z h b "com/example/listwright/listwright/LinkedStorage$Node" "element" "Ljava/lang/Object;" (.ref x) ∧ Fld Z h b "com/example/listwright/listwright/LinkedStorage$Node" "previous" "Lcom/example/listwright/listwright/LinkedStorage$Node;" (.ref q) ∧ Fld Z h b "com/example/listwright/listwright/LinkedStorage$Node" "next" "Lcom/example/listwright/listwright/LinkedStorage$Node;" .null
set_option maxRecDepth 65536 in
set_option maxHeartbeats 40000000 in
theorem rmL1 (l : Launch) (Z : State) (a0 : Array Value) (hw : ∀ d ∈ tables_1, d.before a0 Z = true) (a1 : Addr) (q : Addr) (x : Addr) (hd : Addr) (pe : Addr) (pv : Value) (h0 : Heap) (n0 : Nat) (Z0 : n0 ≤ h0.size) (g_a1 : n0 ≤ a1) (g_q : n0 ≤ q) (E_a1 : Exa Z h0 a1 "com/example/listwright/listwright/LinkedStorage") (E_q : Exa Z h0 q "com/example/listwright/listwright/LinkedStorage$Node") (Ha1 : Fld Z h0 a1 "com/example/listwright/listwright/LinkedStorage" "head" "Lcom/example/listwright/listwright/LinkedStorage$Node;" (.ref hd)) (Ta1 : Fld Z h0 a1 "com/example/listwright/listwright/LinkedStorage" "tail" "Lcom/example/listwright/listwright/LinkedStorage$Node;" (.ref q)) (Sa1 : Fld Z h0 a1 "com/example/listwright/listwright/LinkedStorage" "size" "I" (.int (1 : Int32))) (Eq : Fld Z h0 q "com/example/listwright/listwright/LinkedStorage$Node" "element" "Ljava/lang/Object;" (.ref pe)) (Pq : Fld Z h0 q "com/example/listwright/listwright/LinkedStorage$Node" "previous" "Lcom/example/listwright/listwright/LinkedStorage$Node;" pv) (Nq : Fld Z h0 q "com/example/listwright/listwright/LinkedStorage$Node" "next" "Lcom/example/listwright/listwright/LinkedStorage$Node;" .null) (ne_a1_q : a1 ≠ q) :
    Ct l Z [] (⟨"com/example/listwright/listwright/LinkedStorage", "linkAfter", "(Lcom/example/listwright/listwright/LinkedStorage$Node;Ljava/lang/Object;)Lcom/example/listwright/listwright/LinkedStorage$Node;"⟩ : MethodName) prog_19_method_18_code 5 (some (.object "com/example/listwright/listwright/LinkedStorage$Node")) ({ frames := 2, cells := 1, slots := 3, locals := 26 } : Room) #[(.ref a1), (.ref q), (.ref x)] h0 (rmL1Q Z a1 q x hd pe pv h0 n0) := by
  refine own_enter (plainFor_of_name pn_5) ?_
  intro p e s m below meth c T0 X0 hx hby hml hZ hown hnm hret hlk e0
  have hown : s.vm.findClass "com/example/listwright/listwright/LinkedStorage" = some m.cls := hown
  have N0 := Fr.nil n0
  have K0 := Keep.refl h0 [a1, q]
  refine own_st (fun wt wk => castTop (g' := mkF m 0 #[.val (.ref a1), .val (.ref q), .val (.ref x), .unset, .unset] []) (by first | (simp [entryFrame, mkF, argsToLocals, Value.category]; done) | rfl) wk) ?_
  show Fin1 p e below s (rmL1Q Z a1 q x hd pe pv h0 n0) ({ frames := 2, cells := 1, slots := 3, locals := 26 } : Room).cells ({ frames := 2, cells := 1, slots := 3, locals := 26 } : Room).slots (T0.setTop (mkF m 0 #[.val (.ref a1), .val (.ref q), .val (.ref x), .unset, .unset] []))
  refine own_st (fun wt wk => XS.aloadN X0.here hx rfl (hb hby d6_0) rfl rfl wk) ?_
  show Fin1 p e below s (rmL1Q Z a1 q x hd pe pv h0 n0) ({ frames := 2, cells := 1, slots := 3, locals := 26 } : Room).cells ({ frames := 2, cells := 1, slots := 3, locals := 26 } : Room).slots (T0.setTop (mkF m 1 #[.val (.ref a1), .val (.ref q), .val (.ref x), .unset, .unset] [(.ref q)]))
  refine own_st (fun wt wk => XS.ifnonnullYes X0.here hx rfl (pc0 := 1) (pc' := 11) rfl (hb hby d6_1) rfl (by decide) (by decide) wk) ?_
  show Fin1 p e below s (rmL1Q Z a1 q x hd pe pv h0 n0) ({ frames := 2, cells := 1, slots := 3, locals := 26 } : Room).cells ({ frames := 2, cells := 1, slots := 3, locals := 26 } : Room).slots (T0.setTop (mkF m 11 #[.val (.ref a1), .val (.ref q), .val (.ref x), .unset, .unset] []))
  refine own_st (fun wt wk => XS.aloadN X0.here hx rfl (hb hby d6_11) rfl rfl wk) ?_
  show Fin1 p e below s (rmL1Q Z a1 q x hd pe pv h0 n0) ({ frames := 2, cells := 1, slots := 3, locals := 26 } : Room).cells ({ frames := 2, cells := 1, slots := 3, locals := 26 } : Room).slots (T0.setTop (mkF m 12 #[.val (.ref a1), .val (.ref q), .val (.ref x), .unset, .unset] [(.ref q)]))
  obtain ⟨T1, X1, e1, st1⟩ := own_getRef X0 hx hZ hown (hw _ (List.mem_of_getElem? (i := 49) rfl)) e0 Nq (g := (mkF m 12 #[.val (.ref a1), .val (.ref q), .val (.ref x), .unset, .unset] [(.ref q)])) rfl rfl (hb hby d6_12)
  refine own_st st1 ?_
  show Fin1 p e below s (rmL1Q Z a1 q x hd pe pv h0 n0) ({ frames := 2, cells := 1, slots := 3, locals := 26 } : Room).cells ({ frames := 2, cells := 1, slots := 3, locals := 26 } : Room).slots (T1.setTop (mkF m 15 #[.val (.ref a1), .val (.ref q), .val (.ref x), .unset, .unset] [.null]))
  refine own_st (fun wt wk => XS.astoreN X1.here hx rfl (hb hby d6_15) rfl rfl (l' := #[.val (.ref a1), .val (.ref q), .val (.ref x), .val .null, .unset]) rfl wk) ?_
  show Fin1 p e below s (rmL1Q Z a1 q x hd pe pv h0 n0) ({ frames := 2, cells := 1, slots := 3, locals := 26 } : Room).cells ({ frames := 2, cells := 1, slots := 3, locals := 26 } : Room).slots (T1.setTop (mkF m 16 #[.val (.ref a1), .val (.ref q), .val (.ref x), .val .null, .unset] []))
  obtain ⟨T2, h2, X2, e2, E2, A2, D2, -, st2⟩ := newO X1 hx hZ hown (hw _ (List.mem_of_getElem? (i := 34) rfl)) (hw _ (List.mem_of_getElem? (i := 35) rfl)) (hw _ (List.mem_of_getElem? (i := 36) rfl)) e1 (g := (mkF m 16 #[.val (.ref a1), .val (.ref q), .val (.ref x), .val .null, .unset] [])) rfl (hb hby d6_16) (by decide) (by decide)
  obtain ⟨b, gz_b⟩ : ∃ z, z = h0.size := ⟨_, rfl⟩
  rw [← gz_b] at A2 D2 st2
  have ne_a1_b : a1 ≠ b := Nat.ne_of_lt (Nat.lt_of_lt_of_le E_a1.lt (Nat.le_of_eq gz_b.symm))
  have ne_q_b : q ≠ b := Nat.ne_of_lt (Nat.lt_of_lt_of_le E_q.lt (Nat.le_of_eq gz_b.symm))
  have sz_b : h0.size ≤ b := Nat.le_trans K0.1 (Nat.le_of_eq gz_b.symm)
  have g_b : n0 ≤ b := Nat.le_trans Z0 (Nat.le_of_eq gz_b.symm)
  have Z0 := Nat.le_trans Z0 E2.1
  have K0 := K0.ext E2
  have E_a1 := E_a1.ext E2
  have Ha1 := Ha1.ext E2
  have Ta1 := Ta1.ext E2
  have Sa1 := Sa1.ext E2
  have E_q := E_q.ext E2
  have Eq := Eq.ext E2
  have Pq := Pq.ext E2
  have Nq := Nq.ext E2
  refine own_st st2 ?_
  have E_b := A2
  have F_element_b : Fld Z h2 b "com/example/listwright/listwright/LinkedStorage$Node" "element" "Ljava/lang/Object;" .null := D2 (Or.inl (hw _ (List.mem_of_getElem? (i := 42) rfl))) (ty := (.object "java/lang/Object")) (by decide)
  have F_previous_b : Fld Z h2 b "com/example/listwright/listwright/LinkedStorage$Node" "previous" "Lcom/example/listwright/listwright/LinkedStorage$Node;" .null := D2 (Or.inl (hw _ (List.mem_of_getElem? (i := 48) rfl))) (ty := (.object "com/example/listwright/listwright/LinkedStorage$Node")) (by decide)
  have F_next_b : Fld Z h2 b "com/example/listwright/listwright/LinkedStorage$Node" "next" "Lcom/example/listwright/listwright/LinkedStorage$Node;" .null := D2 (Or.inl (hw _ (List.mem_of_getElem? (i := 50) rfl))) (ty := (.object "com/example/listwright/listwright/LinkedStorage$Node")) (by decide)
  show Fin1 p e below s (rmL1Q Z a1 q x hd pe pv h0 n0) ({ frames := 2, cells := 1, slots := 3, locals := 26 } : Room).cells ({ frames := 2, cells := 1, slots := 3, locals := 26 } : Room).slots (T2.setTop (mkF m 19 #[.val (.ref a1), .val (.ref q), .val (.ref x), .val .null, .unset] [(.ref b)]))
  refine own_st (fun wt wk => XS.dup X2.here hx rfl (hb hby d6_19) rfl rfl (XS.aloadN X2.here hx rfl (hb hby d6_20) rfl rfl wk)) ?_
  show Fin1 p e below s (rmL1Q Z a1 q x hd pe pv h0 n0) ({ frames := 2, cells := 1, slots := 3, locals := 26 } : Room).cells ({ frames := 2, cells := 1, slots := 3, locals := 26 } : Room).slots (T2.setTop (mkF m 21 #[.val (.ref a1), .val (.ref q), .val (.ref x), .val .null, .unset] [(.ref x), (.ref b), (.ref b)]))
  obtain ⟨v3, T3, h3, L3, X3, e3, hQ3, st3⟩ := own_specialRef X2 hx hZ hown rfl (hw _ (List.mem_of_getElem? (i := 37) rfl)) (hw _ (List.mem_of_getElem? (i := 38) rfl)) (hw _ (List.mem_of_getElem? (i := 39) rfl)) (hw _ (List.mem_of_getElem? (i := 36) rfl)) (by decide) (a := b) (rmN l Z a0 hw b x h2 n0 Z0 g_b E_b F_element_b F_previous_b F_next_b) e2 (g := (mkF m 21 #[.val (.ref a1), .val (.ref q), .val (.ref x), .val .null, .unset] [(.ref x), (.ref b), (.ref b)])) rfl (by rw [hml]; rfl) (argsL := [(.ref x)]) (rest := [(.ref b)]) (lenOf pd_7 rfl) rfl (W := 1) (by show 2 * 0 + _ ≤ _; exact Nat.le_of_eq rfl) (hb hby d6_21) (by decide) (by decide) (by decide) (by decide)
  obtain ⟨rfl, N3q, K3, Eb, Pb, Nb⟩ := hQ3
  have N3 := Fr.app N0 N3q
  have Z0 := Nat.le_trans Z0 K3.1
  have K0 := K0.trans K3 (allS (P := fun x => x ∈ [a1, q] ∨ h0.size ≤ x) (Or.inr sz_b) all0)
  have E_a1 := E_a1.keep K3
  have Ha1 := Ha1.keep K3 (ninS ne_a1_b nin0)
  have Ta1 := Ta1.keep K3 (ninS ne_a1_b nin0)
  have Sa1 := Sa1.keep K3 (ninS ne_a1_b nin0)
  have E_q := E_q.keep K3
  have Eq := Eq.keep K3 (ninS ne_q_b nin0)
  have Pq := Pq.keep K3 (ninS ne_q_b nin0)
  have Nq := Nq.keep K3 (ninS ne_q_b nin0)
  have E_b := E_b.keep K3
  refine own_st st3 ?_
  show Fin1 p e below s (rmL1Q Z a1 q x hd pe pv h0 n0) ({ frames := 2, cells := 1, slots := 3, locals := 26 } : Room).cells ({ frames := 2, cells := 1, slots := 3, locals := 26 } : Room).slots (T3.setTop (mkF m 24 #[.val (.ref a1), .val (.ref q), .val (.ref x), .val .null, .unset] [(.ref b)]))
  refine own_st (fun wt wk => XS.astore X3.here hx rfl (hb hby d6_24) rfl rfl (l' := #[.val (.ref a1), .val (.ref q), .val (.ref x), .val .null, .val (.ref b)]) rfl (XS.aloadN X3.here hx rfl (hb hby d6_26) rfl rfl (XS.aloadN X3.here hx rfl (hb hby d6_27) rfl rfl (XS.aload X3.here hx rfl (hb hby d6_28) rfl rfl wk)))) ?_
  show Fin1 p e below s (rmL1Q Z a1 q x hd pe pv h0 n0) ({ frames := 2, cells := 1, slots := 3, locals := 26 } : Room).cells ({ frames := 2, cells := 1, slots := 3, locals := 26 } : Room).slots (T3.setTop (mkF m 30 #[.val (.ref a1), .val (.ref q), .val (.ref x), .val .null, .val (.ref b)] [(.ref b), (.ref q), (.ref a1)]))
  obtain ⟨v4, T4, h4, L4, X4, e4, hQ4, st4⟩ := own_private X3 hx hZ hown (hw _ (List.mem_of_getElem? (i := 43) rfl)) (hw _ (List.mem_of_getElem? (i := 44) rfl)) (hw _ (List.mem_of_getElem? (i := 3) rfl)) (hw _ (List.mem_of_getElem? (i := 45) rfl)) (hw _ (List.mem_of_getElem? (i := 46) rfl)) (hw _ (List.mem_of_getElem? (i := 4) rfl)) (by decide) (a := a1) E_a1 (rmJ1 l Z a0 hw a1 q b x pe pv h3 n0 Z0 g_q g_b E_q E_b Eq Pq Nq Eb Pb Nb ne_q_b) e3 (g := (mkF m 30 #[.val (.ref a1), .val (.ref q), .val (.ref x), .val .null, .val (.ref b)] [(.ref b), (.ref q), (.ref a1)])) rfl (by rw [hml]; rfl) (argsL := [(.ref q), (.ref b)]) (rest := []) (lenOf pd_8 rfl) rfl (W := 0) (by show 2 * 0 + _ ≤ _; exact Nat.le_of_eq rfl) (hb hby d6_30) (by decide) (by decide) (by decide) (by decide)
  obtain ⟨rfl, N4q, K4, Eq, Pq, Nq, Eb, Pb, Nb⟩ := hQ4
  have N4 := Fr.app N3 N4q
  have Z0 := Nat.le_trans Z0 K4.1
  have K0 := K0.trans K4 (allS (P := fun x => x ∈ [a1, q] ∨ h0.size ≤ x) (Or.inl (List.mem_of_getElem? (i := 1) rfl)) (allS (P := fun x => x ∈ [a1, q] ∨ h0.size ≤ x) (Or.inr sz_b) all0))
  have E_a1 := E_a1.keep K4
  have Ha1 := Ha1.keep K4 (ninS ne_a1_q (ninS ne_a1_b nin0))
  have Ta1 := Ta1.keep K4 (ninS ne_a1_q (ninS ne_a1_b nin0))
  have Sa1 := Sa1.keep K4 (ninS ne_a1_q (ninS ne_a1_b nin0))
  have E_q := E_q.keep K4
  have E_b := E_b.keep K4
  refine own_st st4 ?_
  show Fin1 p e below s (rmL1Q Z a1 q x hd pe pv h0 n0) ({ frames := 2, cells := 1, slots := 3, locals := 26 } : Room).cells ({ frames := 2, cells := 1, slots := 3, locals := 26 } : Room).slots (T4.setTop (mkF m 33 #[.val (.ref a1), .val (.ref q), .val (.ref x), .val .null, .val (.ref b)] []))
  refine own_st (fun wt wk => XS.aloadN X4.here hx rfl (hb hby d6_33) rfl rfl (XS.aload X4.here hx rfl (hb hby d6_34) rfl rfl (XS.aloadN X4.here hx rfl (hb hby d6_36) rfl rfl wk))) ?_
  show Fin1 p e below s (rmL1Q Z a1 q x hd pe pv h0 n0) ({ frames := 2, cells := 1, slots := 3, locals := 26 } : Room).cells ({ frames := 2, cells := 1, slots := 3, locals := 26 } : Room).slots (T4.setTop (mkF m 37 #[.val (.ref a1), .val (.ref q), .val (.ref x), .val .null, .val (.ref b)] [.null, (.ref b), (.ref a1)]))
  obtain ⟨v5, T5, h5, L5, X5, e5, hQ5, st5⟩ := own_private X4 hx hZ hown (hw _ (List.mem_of_getElem? (i := 43) rfl)) (hw _ (List.mem_of_getElem? (i := 44) rfl)) (hw _ (List.mem_of_getElem? (i := 3) rfl)) (hw _ (List.mem_of_getElem? (i := 45) rfl)) (hw _ (List.mem_of_getElem? (i := 46) rfl)) (hw _ (List.mem_of_getElem? (i := 4) rfl)) (by decide) (a := a1) E_a1 (rmJ2 l Z a0 hw a1 b x (.ref q) (.ref hd) (.ref q) (1 : Int32) h4 n0 Z0 g_a1 g_b E_a1 E_b Ha1 Ta1 Sa1 Eb Pb Nb ne_a1_b) e4 (g := (mkF m 37 #[.val (.ref a1), .val (.ref q), .val (.ref x), .val .null, .val (.ref b)] [.null, (.ref b), (.ref a1)])) rfl (by rw [hml]; rfl) (argsL := [(.ref b), .null]) (rest := []) (lenOf pd_8 rfl) rfl (W := 0) (by show 2 * 0 + _ ≤ _; exact Nat.le_of_eq rfl) (hb hby d6_37) (by decide) (by decide) (by decide) (by decide)
  obtain ⟨rfl, N5q, K5, Eb, Pb, Nb, Ha1, Ta1, Sa1⟩ := hQ5
  have N5 := Fr.app N4 N5q
  have Z0 := Nat.le_trans Z0 K5.1
  have K0 := K0.trans K5 (allS (P := fun x => x ∈ [a1, q] ∨ h0.size ≤ x) (Or.inr sz_b) (allS (P := fun x => x ∈ [a1, q] ∨ h0.size ≤ x) (Or.inl (List.mem_of_getElem? (i := 0) rfl)) all0))
  have E_a1 := E_a1.keep K5
  have E_q := E_q.keep K5
  have E_b := E_b.keep K5
  have Eq := Eq.keep K5 (ninS ne_q_b (ninS (Ne.symm ne_a1_q) nin0))
  have Pq := Pq.keep K5 (ninS ne_q_b (ninS (Ne.symm ne_a1_q) nin0))
  have Nq := Nq.keep K5 (ninS ne_q_b (ninS (Ne.symm ne_a1_q) nin0))
  refine own_st st5 ?_
  show Fin1 p e below s (rmL1Q Z a1 q x hd pe pv h0 n0) ({ frames := 2, cells := 1, slots := 3, locals := 26 } : Room).cells ({ frames := 2, cells := 1, slots := 3, locals := 26 } : Room).slots (T5.setTop (mkF m 40 #[.val (.ref a1), .val (.ref q), .val (.ref x), .val .null, .val (.ref b)] []))
  refine own_st (fun wt wk => XS.aloadN X5.here hx rfl (hb hby d6_40) rfl rfl (XS.dup X5.here hx rfl (hb hby d6_41) rfl rfl wk)) ?_
  show Fin1 p e below s (rmL1Q Z a1 q x hd pe pv h0 n0) ({ frames := 2, cells := 1, slots := 3, locals := 26 } : Room).cells ({ frames := 2, cells := 1, slots := 3, locals := 26 } : Room).slots (T5.setTop (mkF m 42 #[.val (.ref a1), .val (.ref q), .val (.ref x), .val .null, .val (.ref b)] [(.ref a1), (.ref a1)]))
  obtain ⟨T6, X6, e6, st6⟩ := getF X5 hx hZ hown (host := "") (Or.inl (hw _ (List.mem_of_getElem? (i := 53) rfl))) Via.refl e5 Sa1 (g := (mkF m 42 #[.val (.ref a1), .val (.ref q), .val (.ref x), .val .null, .val (.ref b)] [(.ref a1), (.ref a1)])) rfl rfl (hb hby d6_42)
  refine own_st st6 ?_
  show Fin1 p e below s (rmL1Q Z a1 q x hd pe pv h0 n0) ({ frames := 2, cells := 1, slots := 3, locals := 26 } : Room).cells ({ frames := 2, cells := 1, slots := 3, locals := 26 } : Room).slots (T6.setTop (mkF m 45 #[.val (.ref a1), .val (.ref q), .val (.ref x), .val .null, .val (.ref b)] [(.int (1 : Int32)), (.ref a1)]))
  refine own_st (fun wt wk => XS.iconst X6.here hx rfl (hb hby d6_45) (XS.iadd X6.here hx rfl (hb hby d6_46) rfl wk)) ?_
  show Fin1 p e below s (rmL1Q Z a1 q x hd pe pv h0 n0) ({ frames := 2, cells := 1, slots := 3, locals := 26 } : Room).cells ({ frames := 2, cells := 1, slots := 3, locals := 26 } : Room).slots (T6.setTop (mkF m 47 #[.val (.ref a1), .val (.ref q), .val (.ref x), .val .null, .val (.ref b)] [(.int ((1 : Int32) + (1 : Int32))), (.ref a1)]))
  rw [show ((1 : Int32) + (1 : Int32)) = (2 : Int32) from by decide]
  show Fin1 p e below s (rmL1Q Z a1 q x hd pe pv h0 n0) ({ frames := 2, cells := 1, slots := 3, locals := 26 } : Room).cells ({ frames := 2, cells := 1, slots := 3, locals := 26 } : Room).slots (T6.setTop (mkF m 47 #[.val (.ref a1), .val (.ref q), .val (.ref x), .val .null, .val (.ref b)] [(.int (2 : Int32)), (.ref a1)]))
  obtain ⟨T7, h7, X7, e7, W7, st7⟩ := putF X6 hx hZ hown (host := "") (Or.inl (hw _ (List.mem_of_getElem? (i := 53) rfl))) Via.refl e6 Sa1 E_a1 (Or.inl (hw _ (List.mem_of_getElem? (i := 54) rfl))) (hw _ (List.mem_of_getElem? (i := 3) rfl)) (ty := .int) (by decide) rfl rfl (g := (mkF m 47 #[.val (.ref a1), .val (.ref q), .val (.ref x), .val .null, .val (.ref b)] [(.int (2 : Int32)), (.ref a1)])) rfl rfl (hb hby d6_47)
  refine own_st st7 ?_
  have N7 := Fr.snoc X7 N5 g_a1
  have Z0 := Nat.le_trans Z0 (Nat.le_of_eq W7.size.symm)
  have K0 := K0.wr W7 (Or.inl (List.mem_of_getElem? (i := 0) rfl))
  have E_a1 := E_a1.wr W7
  have E_q := E_q.wr W7
  have E_b := E_b.wr W7
  have Eq := Eq.other W7 (Or.inl (Ne.symm ne_a1_q))
  have Pq := Pq.other W7 (Or.inl (Ne.symm ne_a1_q))
  have Nq := Nq.other W7 (Or.inl (Ne.symm ne_a1_q))
  have Eb := Eb.other W7 (Or.inl (Ne.symm ne_a1_b))
  have Pb := Pb.other W7 (Or.inl (Ne.symm ne_a1_b))
  have Nb := Nb.other W7 (Or.inl (Ne.symm ne_a1_b))
  have Ha1 := Ha1.other W7 (Or.inr (slot_ne (Or.inl (hw _ (List.mem_of_getElem? (i := 33) rfl))) (Or.inl (hw _ (List.mem_of_getElem? (i := 54) rfl))) (by decide) (t := (.object "com/example/listwright/listwright/LinkedStorage$Node")) (t' := .int) (by decide) (by decide)))
  have Ta1 := Ta1.other W7 (Or.inr (slot_ne (Or.inl (hw _ (List.mem_of_getElem? (i := 52) rfl))) (Or.inl (hw _ (List.mem_of_getElem? (i := 54) rfl))) (by decide) (t := (.object "com/example/listwright/listwright/LinkedStorage$Node")) (t' := .int) (by decide) (by decide)))
  have Sa1 := Sa1.same W7
  show Fin1 p e below s (rmL1Q Z a1 q x hd pe pv h0 n0) ({ frames := 2, cells := 1, slots := 3, locals := 26 } : Room).cells ({ frames := 2, cells := 1, slots := 3, locals := 26 } : Room).slots (T7.setTop (mkF m 50 #[.val (.ref a1), .val (.ref q), .val (.ref x), .val .null, .val (.ref b)] []))
  refine own_st (fun wt wk => XS.aload X7.here hx rfl (hb hby d6_50) rfl rfl wk) ?_
  show Fin1 p e below s (rmL1Q Z a1 q x hd pe pv h0 n0) ({ frames := 2, cells := 1, slots := 3, locals := 26 } : Room).cells ({ frames := 2, cells := 1, slots := 3, locals := 26 } : Room).slots (T7.setTop (mkF m 52 #[.val (.ref a1), .val (.ref q), .val (.ref x), .val .null, .val (.ref b)] [(.ref b)]))
  exact own_retA X7 hx hlk hret rfl rfl (hb hby d6_52) (by rw [e7]; exact ⟨b, rfl, N7, sz_b, K0, E_b, Ha1, Ta1, Sa1, Eq, Pq, Nq, Eb, Pb, Nb⟩) (by decide) (by decide)
def rmL2Q (Z : State) (a1 : Addr) (q : Addr) (x : Addr) (hd : Addr) (pe : Addr) (pv : Value) (h0 : Heap) (n0 : Nat) (v : Option Value) (h : Heap) (L : List Loc) : Prop := ∃ b : Addr, v = some (.ref b) ∧ Fr n0 L ∧ h0.size ≤ b ∧ Keep h0 h [a1, q] ∧ Exa Z h b "com/example/listwright/listwright/LinkedStorage$Node" ∧ Fld Z h a1 "com/example/listwright/listwright/LinkedStorage" "head" "Lcom/example/listwright/listwright/LinkedStorage$Node;" (.ref hd) ∧ Fld Z h a1 "com/example/listwright/listwright/LinkedStorage" "tail" "Lcom/example/listwright/listwright/LinkedStorage$Node;" (.ref b) ∧ Fld Z h a1 "com/example/listwright/listwright/LinkedStorage" "size" "I" (.int (3 : Int32)) ∧ Fld Z h q "com/example/listwright/listwright/LinkedStorage$Node" "element" "Ljava/lang/Object;" (.ref pe) ∧ Fld Z h q "com/example/listwright/listwright/LinkedStorage$Node" "previous" "Lcom/example/listwright/listwright/LinkedStorage$Node;" pv ∧ Fld Z h q "com/example/listwright/listwright/LinkedStorage$Node" "next" "Lcom/example/listwright/listwright/LinkedStorage$Node;" (.ref b) ∧ Fld Z h b "com/example/listwright/listwright/LinkedStorage$Node" "element" "Ljava/lang/Object;" (.ref x) ∧ Fld Z h b "com/example/listwright/listwright/LinkedStorage$Node" "previous" "Lcom/example/listwright/listwright/LinkedStorage$Node;" (.ref q) ∧ Fld Z h b "com/example/listwright/listwright/LinkedStorage$Node" "next" "Lcom/example/listwright/listwright/LinkedStorage$Node;" .null
set_option maxRecDepth 65536 in
set_option maxHeartbeats 40000000 in
theorem rmL2 (l : Launch) (Z : State) (a0 : Array Value) (hw : ∀ d ∈ tables_1, d.before a0 Z = true) (a1 : Addr) (q : Addr) (x : Addr) (hd : Addr) (pe : Addr) (pv : Value) (h0 : Heap) (n0 : Nat) (Z0 : n0 ≤ h0.size) (g_a1 : n0 ≤ a1) (g_q : n0 ≤ q) (E_a1 : Exa Z h0 a1 "com/example/listwright/listwright/LinkedStorage") (E_q : Exa Z h0 q "com/example/listwright/listwright/LinkedStorage$Node") (Ha1 : Fld Z h0 a1 "com/example/listwright/listwright/LinkedStorage" "head" "Lcom/example/listwright/listwright/LinkedStorage$Node;" (.ref hd)) (Ta1 : Fld Z h0 a1 "com/example/listwright/listwright/LinkedStorage" "tail" "Lcom/example/listwright/listwright/LinkedStorage$Node;" (.ref q)) (Sa1 : Fld Z h0 a1 "com/example/listwright/listwright/LinkedStorage" "size" "I" (.int (2 : Int32))) (Eq : Fld Z h0 q "com/example/listwright/listwright/LinkedStorage$Node" "element" "Ljava/lang/Object;" (.ref pe)) (Pq : Fld Z h0 q "com/example/listwright/listwright/LinkedStorage$Node" "previous" "Lcom/example/listwright/listwright/LinkedStorage$Node;" pv) (Nq : Fld Z h0 q "com/example/listwright/listwright/LinkedStorage$Node" "next" "Lcom/example/listwright/listwright/LinkedStorage$Node;" .null) (ne_a1_q : a1 ≠ q) :
    Ct l Z [] (⟨"com/example/listwright/listwright/LinkedStorage", "linkAfter", "(Lcom/example/listwright/listwright/LinkedStorage$Node;Ljava/lang/Object;)Lcom/example/listwright/listwright/LinkedStorage$Node;"⟩ : MethodName) prog_19_method_18_code 5 (some (.object "com/example/listwright/listwright/LinkedStorage$Node")) ({ frames := 2, cells := 1, slots := 3, locals := 26 } : Room) #[(.ref a1), (.ref q), (.ref x)] h0 (rmL2Q Z a1 q x hd pe pv h0 n0) := by
  refine own_enter (plainFor_of_name pn_5) ?_
  intro p e s m below meth c T0 X0 hx hby hml hZ hown hnm hret hlk e0
  have hown : s.vm.findClass "com/example/listwright/listwright/LinkedStorage" = some m.cls := hown
  have N0 := Fr.nil n0
  have K0 := Keep.refl h0 [a1, q]
  refine own_st (fun wt wk => castTop (g' := mkF m 0 #[.val (.ref a1), .val (.ref q), .val (.ref x), .unset, .unset] []) (by first | (simp [entryFrame, mkF, argsToLocals, Value.category]; done) | rfl) wk) ?_
  show Fin1 p e below s (rmL2Q Z a1 q x hd pe pv h0 n0) ({ frames := 2, cells := 1, slots := 3, locals := 26 } : Room).cells ({ frames := 2, cells := 1, slots := 3, locals := 26 } : Room).slots (T0.setTop (mkF m 0 #[.val (.ref a1), .val (.ref q), .val (.ref x), .unset, .unset] []))
  refine own_st (fun wt wk => XS.aloadN X0.here hx rfl (hb hby d6_0) rfl rfl wk) ?_
  show Fin1 p e below s (rmL2Q Z a1 q x hd pe pv h0 n0) ({ frames := 2, cells := 1, slots := 3, locals := 26 } : Room).cells ({ frames := 2, cells := 1, slots := 3, locals := 26 } : Room).slots (T0.setTop (mkF m 1 #[.val (.ref a1), .val (.ref q), .val (.ref x), .unset, .unset] [(.ref q)]))
  refine own_st (fun wt wk => XS.ifnonnullYes X0.here hx rfl (pc0 := 1) (pc' := 11) rfl (hb hby d6_1) rfl (by decide) (by decide) wk) ?_
  show Fin1 p e below s (rmL2Q Z a1 q x hd pe pv h0 n0) ({ frames := 2, cells := 1, slots := 3, locals := 26 } : Room).cells ({ frames := 2, cells := 1, slots := 3, locals := 26 } : Room).slots (T0.setTop (mkF m 11 #[.val (.ref a1), .val (.ref q), .val (.ref x), .unset, .unset] []))
  refine own_st (fun wt wk => XS.aloadN X0.here hx rfl (hb hby d6_11) rfl rfl wk) ?_
  show Fin1 p e below s (rmL2Q Z a1 q x hd pe pv h0 n0) ({ frames := 2, cells := 1, slots := 3, locals := 26 } : Room).cells ({ frames := 2, cells := 1, slots := 3, locals := 26 } : Room).slots (T0.setTop (mkF m 12 #[.val (.ref a1), .val (.ref q), .val (.ref x), .unset, .unset] [(.ref q)]))
  obtain ⟨T1, X1, e1, st1⟩ := own_getRef X0 hx hZ hown (hw _ (List.mem_of_getElem? (i := 49) rfl)) e0 Nq (g := (mkF m 12 #[.val (.ref a1), .val (.ref q), .val (.ref x), .unset, .unset] [(.ref q)])) rfl rfl (hb hby d6_12)
  refine own_st st1 ?_
  show Fin1 p e below s (rmL2Q Z a1 q x hd pe pv h0 n0) ({ frames := 2, cells := 1, slots := 3, locals := 26 } : Room).cells ({ frames := 2, cells := 1, slots := 3, locals := 26 } : Room).slots (T1.setTop (mkF m 15 #[.val (.ref a1), .val (.ref q), .val (.ref x), .unset, .unset] [.null]))
  refine own_st (fun wt wk => XS.astoreN X1.here hx rfl (hb hby d6_15) rfl rfl (l' := #[.val (.ref a1), .val (.ref q), .val (.ref x), .val .null, .unset]) rfl wk) ?_
  show Fin1 p e below s (rmL2Q Z a1 q x hd pe pv h0 n0) ({ frames := 2, cells := 1, slots := 3, locals := 26 } : Room).cells ({ frames := 2, cells := 1, slots := 3, locals := 26 } : Room).slots (T1.setTop (mkF m 16 #[.val (.ref a1), .val (.ref q), .val (.ref x), .val .null, .unset] []))
  obtain ⟨T2, h2, X2, e2, E2, A2, D2, -, st2⟩ := newO X1 hx hZ hown (hw _ (List.mem_of_getElem? (i := 34) rfl)) (hw _ (List.mem_of_getElem? (i := 35) rfl)) (hw _ (List.mem_of_getElem? (i := 36) rfl)) e1 (g := (mkF m 16 #[.val (.ref a1), .val (.ref q), .val (.ref x), .val .null, .unset] [])) rfl (hb hby d6_16) (by decide) (by decide)
  obtain ⟨b, gz_b⟩ : ∃ z, z = h0.size := ⟨_, rfl⟩
  rw [← gz_b] at A2 D2 st2
  have ne_a1_b : a1 ≠ b := Nat.ne_of_lt (Nat.lt_of_lt_of_le E_a1.lt (Nat.le_of_eq gz_b.symm))
  have ne_q_b : q ≠ b := Nat.ne_of_lt (Nat.lt_of_lt_of_le E_q.lt (Nat.le_of_eq gz_b.symm))
  have sz_b : h0.size ≤ b := Nat.le_trans K0.1 (Nat.le_of_eq gz_b.symm)
  have g_b : n0 ≤ b := Nat.le_trans Z0 (Nat.le_of_eq gz_b.symm)
  have Z0 := Nat.le_trans Z0 E2.1
  have K0 := K0.ext E2
  have E_a1 := E_a1.ext E2
  have Ha1 := Ha1.ext E2
  have Ta1 := Ta1.ext E2
  have Sa1 := Sa1.ext E2
  have E_q := E_q.ext E2
  have Eq := Eq.ext E2
  have Pq := Pq.ext E2
  have Nq := Nq.ext E2
  refine own_st st2 ?_
  have E_b := A2
  have F_element_b : Fld Z h2 b "com/example/listwright/listwright/LinkedStorage$Node" "element" "Ljava/lang/Object;" .null := D2 (Or.inl (hw _ (List.mem_of_getElem? (i := 42) rfl))) (ty := (.object "java/lang/Object")) (by decide)
  have F_previous_b : Fld Z h2 b "com/example/listwright/listwright/LinkedStorage$Node" "previous" "Lcom/example/listwright/listwright/LinkedStorage$Node;" .null := D2 (Or.inl (hw _ (List.mem_of_getElem? (i := 48) rfl))) (ty := (.object "com/example/listwright/listwright/LinkedStorage$Node")) (by decide)
  have F_next_b : Fld Z h2 b "com/example/listwright/listwright/LinkedStorage$Node" "next" "Lcom/example/listwright/listwright/LinkedStorage$Node;" .null := D2 (Or.inl (hw _ (List.mem_of_getElem? (i := 50) rfl))) (ty := (.object "com/example/listwright/listwright/LinkedStorage$Node")) (by decide)
  show Fin1 p e below s (rmL2Q Z a1 q x hd pe pv h0 n0) ({ frames := 2, cells := 1, slots := 3, locals := 26 } : Room).cells ({ frames := 2, cells := 1, slots := 3, locals := 26 } : Room).slots (T2.setTop (mkF m 19 #[.val (.ref a1), .val (.ref q), .val (.ref x), .val .null, .unset] [(.ref b)]))
  refine own_st (fun wt wk => XS.dup X2.here hx rfl (hb hby d6_19) rfl rfl (XS.aloadN X2.here hx rfl (hb hby d6_20) rfl rfl wk)) ?_
  show Fin1 p e below s (rmL2Q Z a1 q x hd pe pv h0 n0) ({ frames := 2, cells := 1, slots := 3, locals := 26 } : Room).cells ({ frames := 2, cells := 1, slots := 3, locals := 26 } : Room).slots (T2.setTop (mkF m 21 #[.val (.ref a1), .val (.ref q), .val (.ref x), .val .null, .unset] [(.ref x), (.ref b), (.ref b)]))
  obtain ⟨v3, T3, h3, L3, X3, e3, hQ3, st3⟩ := own_specialRef X2 hx hZ hown rfl (hw _ (List.mem_of_getElem? (i := 37) rfl)) (hw _ (List.mem_of_getElem? (i := 38) rfl)) (hw _ (List.mem_of_getElem? (i := 39) rfl)) (hw _ (List.mem_of_getElem? (i := 36) rfl)) (by decide) (a := b) (rmN l Z a0 hw b x h2 n0 Z0 g_b E_b F_element_b F_previous_b F_next_b) e2 (g := (mkF m 21 #[.val (.ref a1), .val (.ref q), .val (.ref x), .val .null, .unset] [(.ref x), (.ref b), (.ref b)])) rfl (by rw [hml]; rfl) (argsL := [(.ref x)]) (rest := [(.ref b)]) (lenOf pd_7 rfl) rfl (W := 1) (by show 2 * 0 + _ ≤ _; exact Nat.le_of_eq rfl) (hb hby d6_21) (by decide) (by decide) (by decide) (by decide)
  obtain ⟨rfl, N3q, K3, Eb, Pb, Nb⟩ := hQ3
  have N3 := Fr.app N0 N3q
  have Z0 := Nat.le_trans Z0 K3.1
  have K0 := K0.trans K3 (allS (P := fun x => x ∈ [a1, q] ∨ h0.size ≤ x) (Or.inr sz_b) all0)
  have E_a1 := E_a1.keep K3
  have Ha1 := Ha1.keep K3 (ninS ne_a1_b nin0)
  have Ta1 := Ta1.keep K3 (ninS ne_a1_b nin0)
  have Sa1 := Sa1.keep K3 (ninS ne_a1_b nin0)
  have E_q := E_q.keep K3
  have Eq := Eq.keep K3 (ninS ne_q_b nin0)
  have Pq := Pq.keep K3 (ninS ne_q_b nin0)
  have Nq := Nq.keep K3 (ninS ne_q_b nin0)
  have E_b := E_b.keep K3
  refine own_st st3 ?_
  show Fin1 p e below s (rmL2Q Z a1 q x hd pe pv h0 n0) ({ frames := 2, cells := 1, slots := 3, locals := 26 } : Room).cells ({ frames := 2, cells := 1, slots := 3, locals := 26 } : Room).slots (T3.setTop (mkF m 24 #[.val (.ref a1), .val (.ref q), .val (.ref x), .val .null, .unset] [(.ref b)]))
  refine own_st (fun wt wk => XS.astore X3.here hx rfl (hb hby d6_24) rfl rfl (l' := #[.val (.ref a1), .val (.ref q), .val (.ref x), .val .null, .val (.ref b)]) rfl (XS.aloadN X3.here hx rfl (hb hby d6_26) rfl rfl (XS.aloadN X3.here hx rfl (hb hby d6_27) rfl rfl (XS.aload X3.here hx rfl (hb hby d6_28) rfl rfl wk)))) ?_
  show Fin1 p e below s (rmL2Q Z a1 q x hd pe pv h0 n0) ({ frames := 2, cells := 1, slots := 3, locals := 26 } : Room).cells ({ frames := 2, cells := 1, slots := 3, locals := 26 } : Room).slots (T3.setTop (mkF m 30 #[.val (.ref a1), .val (.ref q), .val (.ref x), .val .null, .val (.ref b)] [(.ref b), (.ref q), (.ref a1)]))
  obtain ⟨v4, T4, h4, L4, X4, e4, hQ4, st4⟩ := own_private X3 hx hZ hown (hw _ (List.mem_of_getElem? (i := 43) rfl)) (hw _ (List.mem_of_getElem? (i := 44) rfl)) (hw _ (List.mem_of_getElem? (i := 3) rfl)) (hw _ (List.mem_of_getElem? (i := 45) rfl)) (hw _ (List.mem_of_getElem? (i := 46) rfl)) (hw _ (List.mem_of_getElem? (i := 4) rfl)) (by decide) (a := a1) E_a1 (rmJ1 l Z a0 hw a1 q b x pe pv h3 n0 Z0 g_q g_b E_q E_b Eq Pq Nq Eb Pb Nb ne_q_b) e3 (g := (mkF m 30 #[.val (.ref a1), .val (.ref q), .val (.ref x), .val .null, .val (.ref b)] [(.ref b), (.ref q), (.ref a1)])) rfl (by rw [hml]; rfl) (argsL := [(.ref q), (.ref b)]) (rest := []) (lenOf pd_8 rfl) rfl (W := 0) (by show 2 * 0 + _ ≤ _; exact Nat.le_of_eq rfl) (hb hby d6_30) (by decide) (by decide) (by decide) (by decide)
  obtain ⟨rfl, N4q, K4, Eq, Pq, Nq, Eb, Pb, Nb⟩ := hQ4
  have N4 := Fr.app N3 N4q
  have Z0 := Nat.le_trans Z0 K4.1
  have K0 := K0.trans K4 (allS (P := fun x => x ∈ [a1, q] ∨ h0.size ≤ x) (Or.inl (List.mem_of_getElem? (i := 1) rfl)) (allS (P := fun x => x ∈ [a1, q] ∨ h0.size ≤ x) (Or.inr sz_b) all0))
  have E_a1 := E_a1.keep K4
  have Ha1 := Ha1.keep K4 (ninS ne_a1_q (ninS ne_a1_b nin0))
  have Ta1 := Ta1.keep K4 (ninS ne_a1_q (ninS ne_a1_b nin0))
  have Sa1 := Sa1.keep K4 (ninS ne_a1_q (ninS ne_a1_b nin0))
  have E_q := E_q.keep K4
  have E_b := E_b.keep K4
  refine own_st st4 ?_
  show Fin1 p e below s (rmL2Q Z a1 q x hd pe pv h0 n0) ({ frames := 2, cells := 1, slots := 3, locals := 26 } : Room).cells ({ frames := 2, cells := 1, slots := 3, locals := 26 } : Room).slots (T4.setTop (mkF m 33 #[.val (.ref a1), .val (.ref q), .val (.ref x), .val .null, .val (.ref b)] []))
  refine own_st (fun wt wk => XS.aloadN X4.here hx rfl (hb hby d6_33) rfl rfl (XS.aload X4.here hx rfl (hb hby d6_34) rfl rfl (XS.aloadN X4.here hx rfl (hb hby d6_36) rfl rfl wk))) ?_
  show Fin1 p e below s (rmL2Q Z a1 q x hd pe pv h0 n0) ({ frames := 2, cells := 1, slots := 3, locals := 26 } : Room).cells ({ frames := 2, cells := 1, slots := 3, locals := 26 } : Room).slots (T4.setTop (mkF m 37 #[.val (.ref a1), .val (.ref q), .val (.ref x), .val .null, .val (.ref b)] [.null, (.ref b), (.ref a1)]))
  obtain ⟨v5, T5, h5, L5, X5, e5, hQ5, st5⟩ := own_private X4 hx hZ hown (hw _ (List.mem_of_getElem? (i := 43) rfl)) (hw _ (List.mem_of_getElem? (i := 44) rfl)) (hw _ (List.mem_of_getElem? (i := 3) rfl)) (hw _ (List.mem_of_getElem? (i := 45) rfl)) (hw _ (List.mem_of_getElem? (i := 46) rfl)) (hw _ (List.mem_of_getElem? (i := 4) rfl)) (by decide) (a := a1) E_a1 (rmJ2 l Z a0 hw a1 b x (.ref q) (.ref hd) (.ref q) (2 : Int32) h4 n0 Z0 g_a1 g_b E_a1 E_b Ha1 Ta1 Sa1 Eb Pb Nb ne_a1_b) e4 (g := (mkF m 37 #[.val (.ref a1), .val (.ref q), .val (.ref x), .val .null, .val (.ref b)] [.null, (.ref b), (.ref a1)])) rfl (by rw [hml]; rfl) (argsL := [(.ref b), .null]) (rest := []) (lenOf pd_8 rfl) rfl (W := 0) (by show 2 * 0 + _ ≤ _; exact Nat.le_of_eq rfl) (hb hby d6_37) (by decide) (by decide) (by decide) (by decide)
  obtain ⟨rfl, N5q, K5, Eb, Pb, Nb, Ha1, Ta1, Sa1⟩ := hQ5
  have N5 := Fr.app N4 N5q
  have Z0 := Nat.le_trans Z0 K5.1
  have K0 := K0.trans K5 (allS (P := fun x => x ∈ [a1, q] ∨ h0.size ≤ x) (Or.inr sz_b) (allS (P := fun x => x ∈ [a1, q] ∨ h0.size ≤ x) (Or.inl (List.mem_of_getElem? (i := 0) rfl)) all0))
  have E_a1 := E_a1.keep K5
  have E_q := E_q.keep K5
  have E_b := E_b.keep K5
  have Eq := Eq.keep K5 (ninS ne_q_b (ninS (Ne.symm ne_a1_q) nin0))
  have Pq := Pq.keep K5 (ninS ne_q_b (ninS (Ne.symm ne_a1_q) nin0))
  have Nq := Nq.keep K5 (ninS ne_q_b (ninS (Ne.symm ne_a1_q) nin0))
  refine own_st st5 ?_
  show Fin1 p e below s (rmL2Q Z a1 q x hd pe pv h0 n0) ({ frames := 2, cells := 1, slots := 3, locals := 26 } : Room).cells ({ frames := 2, cells := 1, slots := 3, locals := 26 } : Room).slots (T5.setTop (mkF m 40 #[.val (.ref a1), .val (.ref q), .val (.ref x), .val .null, .val (.ref b)] []))
  refine own_st (fun wt wk => XS.aloadN X5.here hx rfl (hb hby d6_40) rfl rfl (XS.dup X5.here hx rfl (hb hby d6_41) rfl rfl wk)) ?_
  show Fin1 p e below s (rmL2Q Z a1 q x hd pe pv h0 n0) ({ frames := 2, cells := 1, slots := 3, locals := 26 } : Room).cells ({ frames := 2, cells := 1, slots := 3, locals := 26 } : Room).slots (T5.setTop (mkF m 42 #[.val (.ref a1), .val (.ref q), .val (.ref x), .val .null, .val (.ref b)] [(.ref a1), (.ref a1)]))
  obtain ⟨T6, X6, e6, st6⟩ := getF X5 hx hZ hown (host := "") (Or.inl (hw _ (List.mem_of_getElem? (i := 53) rfl))) Via.refl e5 Sa1 (g := (mkF m 42 #[.val (.ref a1), .val (.ref q), .val (.ref x), .val .null, .val (.ref b)] [(.ref a1), (.ref a1)])) rfl rfl (hb hby d6_42)
  refine own_st st6 ?_
  show Fin1 p e below s (rmL2Q Z a1 q x hd pe pv h0 n0) ({ frames := 2, cells := 1, slots := 3, locals := 26 } : Room).cells ({ frames := 2, cells := 1, slots := 3, locals := 26 } : Room).slots (T6.setTop (mkF m 45 #[.val (.ref a1), .val (.ref q), .val (.ref x), .val .null, .val (.ref b)] [(.int (2 : Int32)), (.ref a1)]))
  refine own_st (fun wt wk => XS.iconst X6.here hx rfl (hb hby d6_45) (XS.iadd X6.here hx rfl (hb hby d6_46) rfl wk)) ?_
  show Fin1 p e below s (rmL2Q Z a1 q x hd pe pv h0 n0) ({ frames := 2, cells := 1, slots := 3, locals := 26 } : Room).cells ({ frames := 2, cells := 1, slots := 3, locals := 26 } : Room).slots (T6.setTop (mkF m 47 #[.val (.ref a1), .val (.ref q), .val (.ref x), .val .null, .val (.ref b)] [(.int ((2 : Int32) + (1 : Int32))), (.ref a1)]))
  rw [show ((2 : Int32) + (1 : Int32)) = (3 : Int32) from by decide]
  show Fin1 p e below s (rmL2Q Z a1 q x hd pe pv h0 n0) ({ frames := 2, cells := 1, slots := 3, locals := 26 } : Room).cells ({ frames := 2, cells := 1, slots := 3, locals := 26 } : Room).slots (T6.setTop (mkF m 47 #[.val (.ref a1), .val (.ref q), .val (.ref x), .val .null, .val (.ref b)] [(.int (3 : Int32)), (.ref a1)]))
  obtain ⟨T7, h7, X7, e7, W7, st7⟩ := putF X6 hx hZ hown (host := "") (Or.inl (hw _ (List.mem_of_getElem? (i := 53) rfl))) Via.refl e6 Sa1 E_a1 (Or.inl (hw _ (List.mem_of_getElem? (i := 54) rfl))) (hw _ (List.mem_of_getElem? (i := 3) rfl)) (ty := .int) (by decide) rfl rfl (g := (mkF m 47 #[.val (.ref a1), .val (.ref q), .val (.ref x), .val .null, .val (.ref b)] [(.int (3 : Int32)), (.ref a1)])) rfl rfl (hb hby d6_47)
  refine own_st st7 ?_
  have N7 := Fr.snoc X7 N5 g_a1
  have Z0 := Nat.le_trans Z0 (Nat.le_of_eq W7.size.symm)
  have K0 := K0.wr W7 (Or.inl (List.mem_of_getElem? (i := 0) rfl))
  have E_a1 := E_a1.wr W7
  have E_q := E_q.wr W7
  have E_b := E_b.wr W7
  have Eq := Eq.other W7 (Or.inl (Ne.symm ne_a1_q))
  have Pq := Pq.other W7 (Or.inl (Ne.symm ne_a1_q))
  have Nq := Nq.other W7 (Or.inl (Ne.symm ne_a1_q))
  have Eb := Eb.other W7 (Or.inl (Ne.symm ne_a1_b))
  have Pb := Pb.other W7 (Or.inl (Ne.symm ne_a1_b))
  have Nb := Nb.other W7 (Or.inl (Ne.symm ne_a1_b))
  have Ha1 := Ha1.other W7 (Or.inr (slot_ne (Or.inl (hw _ (List.mem_of_getElem? (i := 33) rfl))) (Or.inl (hw _ (List.mem_of_getElem? (i := 54) rfl))) (by decide) (t := (.object "com/example/listwright/listwright/LinkedStorage$Node")) (t' := .int) (by decide) (by decide)))
  have Ta1 := Ta1.other W7 (Or.inr (slot_ne (Or.inl (hw _ (List.mem_of_getElem? (i := 52) rfl))) (Or.inl (hw _ (List.mem_of_getElem? (i := 54) rfl))) (by decide) (t := (.object "com/example/listwright/listwright/LinkedStorage$Node")) (t' := .int) (by decide) (by decide)))
  have Sa1 := Sa1.same W7
  show Fin1 p e below s (rmL2Q Z a1 q x hd pe pv h0 n0) ({ frames := 2, cells := 1, slots := 3, locals := 26 } : Room).cells ({ frames := 2, cells := 1, slots := 3, locals := 26 } : Room).slots (T7.setTop (mkF m 50 #[.val (.ref a1), .val (.ref q), .val (.ref x), .val .null, .val (.ref b)] []))
  refine own_st (fun wt wk => XS.aload X7.here hx rfl (hb hby d6_50) rfl rfl wk) ?_
  show Fin1 p e below s (rmL2Q Z a1 q x hd pe pv h0 n0) ({ frames := 2, cells := 1, slots := 3, locals := 26 } : Room).cells ({ frames := 2, cells := 1, slots := 3, locals := 26 } : Room).slots (T7.setTop (mkF m 52 #[.val (.ref a1), .val (.ref q), .val (.ref x), .val .null, .val (.ref b)] [(.ref b)]))
  exact own_retA X7 hx hlk hret rfl rfl (hb hby d6_52) (by rw [e7]; exact ⟨b, rfl, N7, sz_b, K0, E_b, Ha1, Ta1, Sa1, Eq, Pq, Nq, Eb, Pb, Nb⟩) (by decide) (by decide)
def rmL3Q (Z : State) (a1 : Addr) (q : Addr) (x : Addr) (hd : Addr) (pe : Addr) (pv : Value) (h0 : Heap) (n0 : Nat) (v : Option Value) (h : Heap) (L : List Loc) : Prop := ∃ b : Addr, v = some (.ref b) ∧ Fr n0 L ∧ h0.size ≤ b ∧ Keep h0 h [a1, q] ∧ Exa Z h b "com/example/listwright/listwright/LinkedStorage$Node" ∧ Fld Z h a1 "com/example/listwright/listwright/LinkedStorage" "head" "Lcom/example/listwright/listwright/LinkedStorage$Node;" (.ref hd) ∧ Fld Z h a1 "com/example/listwright/listwright/LinkedStorage" "tail" "Lcom/example/listwright/listwright/LinkedStorage$Node;" (.ref b) ∧ Fld Z h a1 "com/example/listwright/listwright/LinkedStorage" "size" "I" (.int (4 : Int32)) ∧ Fld Z h q "com/example/listwright/listwright/LinkedStorage$Node" "element" "Ljava/lang/Object;" (.ref pe) ∧ Fld Z h q "com/example/listwright/listwright/LinkedStorage$Node" "previous" "Lcom/example/listwright/listwright/LinkedStorage$Node;" pv ∧ Fld Z h q "com/example/listwright/listwright/LinkedStorage$Node" "next" "Lcom/example/listwright/listwright/LinkedStorage$Node;" (.ref b) ∧ Fld Z h b "com/example/listwright/listwright/LinkedStorage$Node" "element" "Ljava/lang/Object;" (.ref x) ∧ Fld Z h b "com/example/listwright/listwright/LinkedStorage$Node" "previous" "Lcom/example/listwright/listwright/LinkedStorage$Node;" (.ref q) ∧ Fld Z h b "com/example/listwright/listwright/LinkedStorage$Node" "next" "Lcom/example/listwright/listwright/LinkedStorage$Node;" .null
set_option maxRecDepth 65536 in
set_option maxHeartbeats 40000000 in
theorem rmL3 (l : Launch) (Z : State) (a0 : Array Value) (hw : ∀ d ∈ tables_1, d.before a0 Z = true) (a1 : Addr) (q : Addr) (x : Addr) (hd : Addr) (pe : Addr) (pv : Value) (h0 : Heap) (n0 : Nat) (Z0 : n0 ≤ h0.size) (g_a1 : n0 ≤ a1) (g_q : n0 ≤ q) (E_a1 : Exa Z h0 a1 "com/example/listwright/listwright/LinkedStorage") (E_q : Exa Z h0 q "com/example/listwright/listwright/LinkedStorage$Node") (Ha1 : Fld Z h0 a1 "com/example/listwright/listwright/LinkedStorage" "head" "Lcom/example/listwright/listwright/LinkedStorage$Node;" (.ref hd)) (Ta1 : Fld Z h0 a1 "com/example/listwright/listwright/LinkedStorage" "tail" "Lcom/example/listwright/listwright/LinkedStorage$Node;" (.ref q)) (Sa1 : Fld Z h0 a1 "com/example/listwright/listwright/LinkedStorage" "size" "I" (.int (3 : Int32))) (Eq : Fld Z h0 q "com/example/listwright/listwright/LinkedStorage$Node" "element" "Ljava/lang/Object;" (.ref pe)) (Pq : Fld Z h0 q "com/example/listwright/listwright/LinkedStorage$Node" "previous" "Lcom/example/listwright/listwright/LinkedStorage$Node;" pv) (Nq : Fld Z h0 q "com/example/listwright/listwright/LinkedStorage$Node" "next" "Lcom/example/listwright/listwright/LinkedStorage$Node;" .null) (ne_a1_q : a1 ≠ q) :
    Ct l Z [] (⟨"com/example/listwright/listwright/LinkedStorage", "linkAfter", "(Lcom/example/listwright/listwright/LinkedStorage$Node;Ljava/lang/Object;)Lcom/example/listwright/listwright/LinkedStorage$Node;"⟩ : MethodName) prog_19_method_18_code 5 (some (.object "com/example/listwright/listwright/LinkedStorage$Node")) ({ frames := 2, cells := 1, slots := 3, locals := 26 } : Room) #[(.ref a1), (.ref q), (.ref x)] h0 (rmL3Q Z a1 q x hd pe pv h0 n0) := by
  refine own_enter (plainFor_of_name pn_5) ?_
  intro p e s m below meth c T0 X0 hx hby hml hZ hown hnm hret hlk e0
  have hown : s.vm.findClass "com/example/listwright/listwright/LinkedStorage" = some m.cls := hown
  have N0 := Fr.nil n0
  have K0 := Keep.refl h0 [a1, q]
  refine own_st (fun wt wk => castTop (g' := mkF m 0 #[.val (.ref a1), .val (.ref q), .val (.ref x), .unset, .unset] []) (by first | (simp [entryFrame, mkF, argsToLocals, Value.category]; done) | rfl) wk) ?_
  show Fin1 p e below s (rmL3Q Z a1 q x hd pe pv h0 n0) ({ frames := 2, cells := 1, slots := 3, locals := 26 } : Room).cells ({ frames := 2, cells := 1, slots := 3, locals := 26 } : Room).slots (T0.setTop (mkF m 0 #[.val (.ref a1), .val (.ref q), .val (.ref x), .unset, .unset] []))
  refine own_st (fun wt wk => XS.aloadN X0.here hx rfl (hb hby d6_0) rfl rfl wk) ?_
  show Fin1 p e below s (rmL3Q Z a1 q x hd pe pv h0 n0) ({ frames := 2, cells := 1, slots := 3, locals := 26 } : Room).cells ({ frames := 2, cells := 1, slots := 3, locals := 26 } : Room).slots (T0.setTop (mkF m 1 #[.val (.ref a1), .val (.ref q), .val (.ref x), .unset, .unset] [(.ref q)]))
  refine own_st (fun wt wk => XS.ifnonnullYes X0.here hx rfl (pc0 := 1) (pc' := 11) rfl (hb hby d6_1) rfl (by decide) (by decide) wk) ?_
  show Fin1 p e below s (rmL3Q Z a1 q x hd pe pv h0 n0) ({ frames := 2, cells := 1, slots := 3, locals := 26 } : Room).cells ({ frames := 2, cells := 1, slots := 3, locals := 26 } : Room).slots (T0.setTop (mkF m 11 #[.val (.ref a1), .val (.ref q), .val (.ref x), .unset, .unset] []))
  refine own_st (fun wt wk => XS.aloadN X0.here hx rfl (hb hby d6_11) rfl rfl wk) ?_
  show Fin1 p e below s (rmL3Q Z a1 q x hd pe pv h0 n0) ({ frames := 2, cells := 1, slots := 3, locals := 26 } : Room).cells ({ frames := 2, cells := 1, slots := 3, locals := 26 } : Room).slots (T0.setTop (mkF m 12 #[.val (.ref a1), .val (.ref q), .val (.ref x), .unset, .unset] [(.ref q)]))
  obtain ⟨T1, X1, e1, st1⟩ := own_getRef X0 hx hZ hown (hw _ (List.mem_of_getElem? (i := 49) rfl)) e0 Nq (g := (mkF m 12 #[.val (.ref a1), .val (.ref q), .val (.ref x), .unset, .unset] [(.ref q)])) rfl rfl (hb hby d6_12)
  refine own_st st1 ?_
  show Fin1 p e below s (rmL3Q Z a1 q x hd pe pv h0 n0) ({ frames := 2, cells := 1, slots := 3, locals := 26 } : Room).cells ({ frames := 2, cells := 1, slots := 3, locals := 26 } : Room).slots (T1.setTop (mkF m 15 #[.val (.ref a1), .val (.ref q), .val (.ref x), .unset, .unset] [.null]))
  refine own_st (fun wt wk => XS.astoreN X1.here hx rfl (hb hby d6_15) rfl rfl (l' := #[.val (.ref a1), .val (.ref q), .val (.ref x), .val .null, .unset]) rfl wk) ?_
  show Fin1 p e below s (rmL3Q Z a1 q x hd pe pv h0 n0) ({ frames := 2, cells := 1, slots := 3, locals := 26 } : Room).cells ({ frames := 2, cells := 1, slots := 3, locals := 26 } : Room).slots (T1.setTop (mkF m 16 #[.val (.ref a1), .val (.ref q), .val (.ref x), .val .null, .unset] []))
  obtain ⟨T2, h2, X2, e2, E2, A2, D2, -, st2⟩ := newO X1 hx hZ hown (hw _ (List.mem_of_getElem? (i := 34) rfl)) (hw _ (List.mem_of_getElem? (i := 35) rfl)) (hw _ (List.mem_of_getElem? (i := 36) rfl)) e1 (g := (mkF m 16 #[.val (.ref a1), .val (.ref q), .val (.ref x), .val .null, .unset] [])) rfl (hb hby d6_16) (by decide) (by decide)
  obtain ⟨b, gz_b⟩ : ∃ z, z = h0.size := ⟨_, rfl⟩
  rw [← gz_b] at A2 D2 st2
  have ne_a1_b : a1 ≠ b := Nat.ne_of_lt (Nat.lt_of_lt_of_le E_a1.lt (Nat.le_of_eq gz_b.symm))
  have ne_q_b : q ≠ b := Nat.ne_of_lt (Nat.lt_of_lt_of_le E_q.lt (Nat.le_of_eq gz_b.symm))
  have sz_b : h0.size ≤ b := Nat.le_trans K0.1 (Nat.le_of_eq gz_b.symm)
  have g_b : n0 ≤ b := Nat.le_trans Z0 (Nat.le_of_eq gz_b.symm)
  have Z0 := Nat.le_trans Z0 E2.1
  have K0 := K0.ext E2
  have E_a1 := E_a1.ext E2
  have Ha1 := Ha1.ext E2
  have Ta1 := Ta1.ext E2
  have Sa1 := Sa1.ext E2
  have E_q := E_q.ext E2
  have Eq := Eq.ext E2
  have Pq := Pq.ext E2
  have Nq := Nq.ext E2
  refine own_st st2 ?_
  have E_b := A2
  have F_element_b : Fld Z h2 b "com/example/listwright/listwright/LinkedStorage$Node" "element" "Ljava/lang/Object;" .null := D2 (Or.inl (hw _ (List.mem_of_getElem? (i := 42) rfl))) (ty := (.object "java/lang/Object")) (by decide)
  have F_previous_b : Fld Z h2 b "com/example/listwright/listwright/LinkedStorage$Node" "previous" "Lcom/example/listwright/listwright/LinkedStorage$Node;" .null := D2 (Or.inl (hw _ (List.mem_of_getElem? (i := 48) rfl))) (ty := (.object "com/example/listwright/listwright/LinkedStorage$Node")) (by decide)
  have F_next_b : Fld Z h2 b "com/example/listwright/listwright/LinkedStorage$Node" "next" "Lcom/example/listwright/listwright/LinkedStorage$Node;" .null := D2 (Or.inl (hw _ (List.mem_of_getElem? (i := 50) rfl))) (ty := (.object "com/example/listwright/listwright/LinkedStorage$Node")) (by decide)
  show Fin1 p e below s (rmL3Q Z a1 q x hd pe pv h0 n0) ({ frames := 2, cells := 1, slots := 3, locals := 26 } : Room).cells ({ frames := 2, cells := 1, slots := 3, locals := 26 } : Room).slots (T2.setTop (mkF m 19 #[.val (.ref a1), .val (.ref q), .val (.ref x), .val .null, .unset] [(.ref b)]))
  refine own_st (fun wt wk => XS.dup X2.here hx rfl (hb hby d6_19) rfl rfl (XS.aloadN X2.here hx rfl (hb hby d6_20) rfl rfl wk)) ?_
  show Fin1 p e below s (rmL3Q Z a1 q x hd pe pv h0 n0) ({ frames := 2, cells := 1, slots := 3, locals := 26 } : Room).cells ({ frames := 2, cells := 1, slots := 3, locals := 26 } : Room).slots (T2.setTop (mkF m 21 #[.val (.ref a1), .val (.ref q), .val (.ref x), .val .null, .unset] [(.ref x), (.ref b), (.ref b)]))
  obtain ⟨v3, T3, h3, L3, X3, e3, hQ3, st3⟩ := own_specialRef X2 hx hZ hown rfl (hw _ (List.mem_of_getElem? (i := 37) rfl)) (hw _ (List.mem_of_getElem? (i := 38) rfl)) (hw _ (List.mem_of_getElem? (i := 39) rfl)) (hw _ (List.mem_of_getElem? (i := 36) rfl)) (by decide) (a := b) (rmN l Z a0 hw b x h2 n0 Z0 g_b E_b F_element_b F_previous_b F_next_b) e2 (g := (mkF m 21 #[.val (.ref a1), .val (.ref q), .val (.ref x), .val .null, .unset] [(.ref x), (.ref b), (.ref b)])) rfl (by rw [hml]; rfl) (argsL := [(.ref x)]) (rest := [(.ref b)]) (lenOf pd_7 rfl) rfl (W := 1) (by show 2 * 0 + _ ≤ _; exact Nat.le_of_eq rfl) (hb hby d6_21) (by decide) (by decide) (by decide) (by decide)
  obtain ⟨rfl, N3q, K3, Eb, Pb, Nb⟩ := hQ3
  have N3 := Fr.app N0 N3q
  have Z0 := Nat.le_trans Z0 K3.1
  have K0 := K0.trans K3 (allS (P := fun x => x ∈ [a1, q] ∨ h0.size ≤ x) (Or.inr sz_b) all0)
  have E_a1 := E_a1.keep K3
  have Ha1 := Ha1.keep K3 (ninS ne_a1_b nin0)
  have Ta1 := Ta1.keep K3 (ninS ne_a1_b nin0)
  have Sa1 := Sa1.keep K3 (ninS ne_a1_b nin0)
  have E_q := E_q.keep K3
  have Eq := Eq.keep K3 (ninS ne_q_b nin0)
  have Pq := Pq.keep K3 (ninS ne_q_b nin0)
  have Nq := Nq.keep K3 (ninS ne_q_b nin0)
  have E_b := E_b.keep K3
  refine own_st st3 ?_
  show Fin1 p e below s (rmL3Q Z a1 q x hd pe pv h0 n0) ({ frames := 2, cells := 1, slots := 3, locals := 26 } : Room).cells ({ frames := 2, cells := 1, slots := 3, locals := 26 } : Room).slots (T3.setTop (mkF m 24 #[.val (.ref a1), .val (.ref q), .val (.ref x), .val .null, .unset] [(.ref b)]))
  refine own_st (fun wt wk => XS.astore X3.here hx rfl (hb hby d6_24) rfl rfl (l' := #[.val (.ref a1), .val (.ref q), .val (.ref x), .val .null, .val (.ref b)]) rfl (XS.aloadN X3.here hx rfl (hb hby d6_26) rfl rfl (XS.aloadN X3.here hx rfl (hb hby d6_27) rfl rfl (XS.aload X3.here hx rfl (hb hby d6_28) rfl rfl wk)))) ?_
  show Fin1 p e below s (rmL3Q Z a1 q x hd pe pv h0 n0) ({ frames := 2, cells := 1, slots := 3, locals := 26 } : Room).cells ({ frames := 2, cells := 1, slots := 3, locals := 26 } : Room).slots (T3.setTop (mkF m 30 #[.val (.ref a1), .val (.ref q), .val (.ref x), .val .null, .val (.ref b)] [(.ref b), (.ref q), (.ref a1)]))
  obtain ⟨v4, T4, h4, L4, X4, e4, hQ4, st4⟩ := own_private X3 hx hZ hown (hw _ (List.mem_of_getElem? (i := 43) rfl)) (hw _ (List.mem_of_getElem? (i := 44) rfl)) (hw _ (List.mem_of_getElem? (i := 3) rfl)) (hw _ (List.mem_of_getElem? (i := 45) rfl)) (hw _ (List.mem_of_getElem? (i := 46) rfl)) (hw _ (List.mem_of_getElem? (i := 4) rfl)) (by decide) (a := a1) E_a1 (rmJ1 l Z a0 hw a1 q b x pe pv h3 n0 Z0 g_q g_b E_q E_b Eq Pq Nq Eb Pb Nb ne_q_b) e3 (g := (mkF m 30 #[.val (.ref a1), .val (.ref q), .val (.ref x), .val .null, .val (.ref b)] [(.ref b), (.ref q), (.ref a1)])) rfl (by rw [hml]; rfl) (argsL := [(.ref q), (.ref b)]) (rest := []) (lenOf pd_8 rfl) rfl (W := 0) (by show 2 * 0 + _ ≤ _; exact Nat.le_of_eq rfl) (hb hby d6_30) (by decide) (by decide) (by decide) (by decide)
  obtain ⟨rfl, N4q, K4, Eq, Pq, Nq, Eb, Pb, Nb⟩ := hQ4
  have N4 := Fr.app N3 N4q
  have Z0 := Nat.le_trans Z0 K4.1
  have K0 := K0.trans K4 (allS (P := fun x => x ∈ [a1, q] ∨ h0.size ≤ x) (Or.inl (List.mem_of_getElem? (i := 1) rfl)) (allS (P := fun x => x ∈ [a1, q] ∨ h0.size ≤ x) (Or.inr sz_b) all0))
  have E_a1 := E_a1.keep K4
  have Ha1 := Ha1.keep K4 (ninS ne_a1_q (ninS ne_a1_b nin0))
  have Ta1 := Ta1.keep K4 (ninS ne_a1_q (ninS ne_a1_b nin0))
  have Sa1 := Sa1.keep K4 (ninS ne_a1_q (ninS ne_a1_b nin0))
  have E_q := E_q.keep K4
  have E_b := E_b.keep K4
  refine own_st st4 ?_
  show Fin1 p e below s (rmL3Q Z a1 q x hd pe pv h0 n0) ({ frames := 2, cells := 1, slots := 3, locals := 26 } : Room).cells ({ frames := 2, cells := 1, slots := 3, locals := 26 } : Room).slots (T4.setTop (mkF m 33 #[.val (.ref a1), .val (.ref q), .val (.ref x), .val .null, .val (.ref b)] []))
  refine own_st (fun wt wk => XS.aloadN X4.here hx rfl (hb hby d6_33) rfl rfl (XS.aload X4.here hx rfl (hb hby d6_34) rfl rfl (XS.aloadN X4.here hx rfl (hb hby d6_36) rfl rfl wk))) ?_
  show Fin1 p e below s (rmL3Q Z a1 q x hd pe pv h0 n0) ({ frames := 2, cells := 1, slots := 3, locals := 26 } : Room).cells ({ frames := 2, cells := 1, slots := 3, locals := 26 } : Room).slots (T4.setTop (mkF m 37 #[.val (.ref a1), .val (.ref q), .val (.ref x), .val .null, .val (.ref b)] [.null, (.ref b), (.ref a1)]))
  obtain ⟨v5, T5, h5, L5, X5, e5, hQ5, st5⟩ := own_private X4 hx hZ hown (hw _ (List.mem_of_getElem? (i := 43) rfl)) (hw _ (List.mem_of_getElem? (i := 44) rfl)) (hw _ (List.mem_of_getElem? (i := 3) rfl)) (hw _ (List.mem_of_getElem? (i := 45) rfl)) (hw _ (List.mem_of_getElem? (i := 46) rfl)) (hw _ (List.mem_of_getElem? (i := 4) rfl)) (by decide) (a := a1) E_a1 (rmJ2 l Z a0 hw a1 b x (.ref q) (.ref hd) (.ref q) (3 : Int32) h4 n0 Z0 g_a1 g_b E_a1 E_b Ha1 Ta1 Sa1 Eb Pb Nb ne_a1_b) e4 (g := (mkF m 37 #[.val (.ref a1), .val (.ref q), .val (.ref x), .val .null, .val (.ref b)] [.null, (.ref b), (.ref a1)])) rfl (by rw [hml]; rfl) (argsL := [(.ref b), .null]) (rest := []) (lenOf pd_8 rfl) rfl (W := 0) (by show 2 * 0 + _ ≤ _; exact Nat.le_of_eq rfl) (hb hby d6_37) (by decide) (by decide) (by decide) (by decide)
  obtain ⟨rfl, N5q, K5, Eb, Pb, Nb, Ha1, Ta1, Sa1⟩ := hQ5
  have N5 := Fr.app N4 N5q
  have Z0 := Nat.le_trans Z0 K5.1
  have K0 := K0.trans K5 (allS (P := fun x => x ∈ [a1, q] ∨ h0.size ≤ x) (Or.inr sz_b) (allS (P := fun x => x ∈ [a1, q] ∨ h0.size ≤ x) (Or.inl (List.mem_of_getElem? (i := 0) rfl)) all0))
  have E_a1 := E_a1.keep K5
  have E_q := E_q.keep K5
  have E_b := E_b.keep K5
  have Eq := Eq.keep K5 (ninS ne_q_b (ninS (Ne.symm ne_a1_q) nin0))
  have Pq := Pq.keep K5 (ninS ne_q_b (ninS (Ne.symm ne_a1_q) nin0))
  have Nq := Nq.keep K5 (ninS ne_q_b (ninS (Ne.symm ne_a1_q) nin0))
  refine own_st st5 ?_
  show Fin1 p e below s (rmL3Q Z a1 q x hd pe pv h0 n0) ({ frames := 2, cells := 1, slots := 3, locals := 26 } : Room).cells ({ frames := 2, cells := 1, slots := 3, locals := 26 } : Room).slots (T5.setTop (mkF m 40 #[.val (.ref a1), .val (.ref q), .val (.ref x), .val .null, .val (.ref b)] []))
  refine own_st (fun wt wk => XS.aloadN X5.here hx rfl (hb hby d6_40) rfl rfl (XS.dup X5.here hx rfl (hb hby d6_41) rfl rfl wk)) ?_
  show Fin1 p e below s (rmL3Q Z a1 q x hd pe pv h0 n0) ({ frames := 2, cells := 1, slots := 3, locals := 26 } : Room).cells ({ frames := 2, cells := 1, slots := 3, locals := 26 } : Room).slots (T5.setTop (mkF m 42 #[.val (.ref a1), .val (.ref q), .val (.ref x), .val .null, .val (.ref b)] [(.ref a1), (.ref a1)]))
  obtain ⟨T6, X6, e6, st6⟩ := getF X5 hx hZ hown (host := "") (Or.inl (hw _ (List.mem_of_getElem? (i := 53) rfl))) Via.refl e5 Sa1 (g := (mkF m 42 #[.val (.ref a1), .val (.ref q), .val (.ref x), .val .null, .val (.ref b)] [(.ref a1), (.ref a1)])) rfl rfl (hb hby d6_42)
  refine own_st st6 ?_
  show Fin1 p e below s (rmL3Q Z a1 q x hd pe pv h0 n0) ({ frames := 2, cells := 1, slots := 3, locals := 26 } : Room).cells ({ frames := 2, cells := 1, slots := 3, locals := 26 } : Room).slots (T6.setTop (mkF m 45 #[.val (.ref a1), .val (.ref q), .val (.ref x), .val .null, .val (.ref b)] [(.int (3 : Int32)), (.ref a1)]))
  refine own_st (fun wt wk => XS.iconst X6.here hx rfl (hb hby d6_45) (XS.iadd X6.here hx rfl (hb hby d6_46) rfl wk)) ?_
  show Fin1 p e below s (rmL3Q Z a1 q x hd pe pv h0 n0) ({ frames := 2, cells := 1, slots := 3, locals := 26 } : Room).cells ({ frames := 2, cells := 1, slots := 3, locals := 26 } : Room).slots (T6.setTop (mkF m 47 #[.val (.ref a1), .val (.ref q), .val (.ref x), .val .null, .val (.ref b)] [(.int ((3 : Int32) + (1 : Int32))), (.ref a1)]))
  rw [show ((3 : Int32) + (1 : Int32)) = (4 : Int32) from by decide]
  show Fin1 p e below s (rmL3Q Z a1 q x hd pe pv h0 n0) ({ frames := 2, cells := 1, slots := 3, locals := 26 } : Room).cells ({ frames := 2, cells := 1, slots := 3, locals := 26 } : Room).slots (T6.setTop (mkF m 47 #[.val (.ref a1), .val (.ref q), .val (.ref x), .val .null, .val (.ref b)] [(.int (4 : Int32)), (.ref a1)]))
  obtain ⟨T7, h7, X7, e7, W7, st7⟩ := putF X6 hx hZ hown (host := "") (Or.inl (hw _ (List.mem_of_getElem? (i := 53) rfl))) Via.refl e6 Sa1 E_a1 (Or.inl (hw _ (List.mem_of_getElem? (i := 54) rfl))) (hw _ (List.mem_of_getElem? (i := 3) rfl)) (ty := .int) (by decide) rfl rfl (g := (mkF m 47 #[.val (.ref a1), .val (.ref q), .val (.ref x), .val .null, .val (.ref b)] [(.int (4 : Int32)), (.ref a1)])) rfl rfl (hb hby d6_47)
  refine own_st st7 ?_
  have N7 := Fr.snoc X7 N5 g_a1
  have Z0 := Nat.le_trans Z0 (Nat.le_of_eq W7.size.symm)
  have K0 := K0.wr W7 (Or.inl (List.mem_of_getElem? (i := 0) rfl))
  have E_a1 := E_a1.wr W7
  have E_q := E_q.wr W7
  have E_b := E_b.wr W7
  have Eq := Eq.other W7 (Or.inl (Ne.symm ne_a1_q))
  have Pq := Pq.other W7 (Or.inl (Ne.symm ne_a1_q))
  have Nq := Nq.other W7 (Or.inl (Ne.symm ne_a1_q))
  have Eb := Eb.other W7 (Or.inl (Ne.symm ne_a1_b))
  have Pb := Pb.other W7 (Or.inl (Ne.symm ne_a1_b))
  have Nb := Nb.other W7 (Or.inl (Ne.symm ne_a1_b))
  have Ha1 := Ha1.other W7 (Or.inr (slot_ne (Or.inl (hw _ (List.mem_of_getElem? (i := 33) rfl))) (Or.inl (hw _ (List.mem_of_getElem? (i := 54) rfl))) (by decide) (t := (.object "com/example/listwright/listwright/LinkedStorage$Node")) (t' := .int) (by decide) (by decide)))
  have Ta1 := Ta1.other W7 (Or.inr (slot_ne (Or.inl (hw _ (List.mem_of_getElem? (i := 52) rfl))) (Or.inl (hw _ (List.mem_of_getElem? (i := 54) rfl))) (by decide) (t := (.object "com/example/listwright/listwright/LinkedStorage$Node")) (t' := .int) (by decide) (by decide)))
  have Sa1 := Sa1.same W7
  show Fin1 p e below s (rmL3Q Z a1 q x hd pe pv h0 n0) ({ frames := 2, cells := 1, slots := 3, locals := 26 } : Room).cells ({ frames := 2, cells := 1, slots := 3, locals := 26 } : Room).slots (T7.setTop (mkF m 50 #[.val (.ref a1), .val (.ref q), .val (.ref x), .val .null, .val (.ref b)] []))
  refine own_st (fun wt wk => XS.aload X7.here hx rfl (hb hby d6_50) rfl rfl wk) ?_
  show Fin1 p e below s (rmL3Q Z a1 q x hd pe pv h0 n0) ({ frames := 2, cells := 1, slots := 3, locals := 26 } : Room).cells ({ frames := 2, cells := 1, slots := 3, locals := 26 } : Room).slots (T7.setTop (mkF m 52 #[.val (.ref a1), .val (.ref q), .val (.ref x), .val .null, .val (.ref b)] [(.ref b)]))
  exact own_retA X7 hx hlk hret rfl rfl (hb hby d6_52) (by rw [e7]; exact ⟨b, rfl, N7, sz_b, K0, E_b, Ha1, Ta1, Sa1, Eq, Pq, Nq, Eb, Pb, Nb⟩) (by decide) (by decide)
theorem d9_0 : decode prog_19_method_16_code 0 = .ok (.iload_n 1, 1) := by decide +kernel
theorem d9_1 : decode prog_19_method_16_code 1 = .ok (.aload_n 0, 1) := by decide +kernel
theorem d9_2 : decode prog_19_method_16_code 2 = .ok (.getfield 7, 3) := by decide +kernel
theorem d9_5 : decode prog_19_method_16_code 5 = .ok (.iconst 2, 1) := by decide +kernel
theorem d9_6 : decode prog_19_method_16_code 6 = .ok (.idiv, 1) := by decide +kernel
theorem d9_7 : decode prog_19_method_16_code 7 = .ok (.if_icmp .ge 29, 3) := by decide +kernel
theorem d9_10 : decode prog_19_method_16_code 10 = .ok (.aload_n 0, 1) := by decide +kernel
theorem d9_11 : decode prog_19_method_16_code 11 = .ok (.getfield 48, 3) := by decide +kernel
theorem d9_14 : decode prog_19_method_16_code 14 = .ok (.astore_n 2, 1) := by decide +kernel
theorem d9_15 : decode prog_19_method_16_code 15 = .ok (.iconst 0, 1) := by decide +kernel
theorem d9_16 : decode prog_19_method_16_code 16 = .ok (.istore_n 3, 1) := by decide +kernel
theorem d9_17 : decode prog_19_method_16_code 17 = .ok (.iload_n 3, 1) := by decide +kernel
theorem d9_18 : decode prog_19_method_16_code 18 = .ok (.iload_n 1, 1) := by decide +kernel
theorem d9_19 : decode prog_19_method_16_code 19 = .ok (.if_icmp .ge 14, 3) := by decide +kernel
theorem d9_22 : decode prog_19_method_16_code 22 = .ok (.aload_n 2, 1) := by decide +kernel
theorem d9_23 : decode prog_19_method_16_code 23 = .ok (.getfield 57, 3) := by decide +kernel
theorem d9_26 : decode prog_19_method_16_code 26 = .ok (.astore_n 2, 1) := by decide +kernel
theorem d9_27 : decode prog_19_method_16_code 27 = .ok (.iinc 3 1, 3) := by decide +kernel
theorem d9_30 : decode prog_19_method_16_code 30 = .ok (.goto (-13), 3) := by decide +kernel
theorem d9_33 : decode prog_19_method_16_code 33 = .ok (.goto 31, 3) := by decide +kernel
theorem d9_36 : decode prog_19_method_16_code 36 = .ok (.aload_n 0, 1) := by decide +kernel
theorem d9_37 : decode prog_19_method_16_code 37 = .ok (.getfield 27, 3) := by decide +kernel
theorem d9_40 : decode prog_19_method_16_code 40 = .ok (.astore_n 2, 1) := by decide +kernel
theorem d9_41 : decode prog_19_method_16_code 41 = .ok (.aload_n 0, 1) := by decide +kernel
theorem d9_42 : decode prog_19_method_16_code 42 = .ok (.getfield 7, 3) := by decide +kernel
theorem d9_45 : decode prog_19_method_16_code 45 = .ok (.iconst 1, 1) := by decide +kernel
theorem d9_46 : decode prog_19_method_16_code 46 = .ok (.isub, 1) := by decide +kernel
theorem d9_47 : decode prog_19_method_16_code 47 = .ok (.istore_n 3, 1) := by decide +kernel
theorem d9_48 : decode prog_19_method_16_code 48 = .ok (.iload_n 3, 1) := by decide +kernel
theorem d9_49 : decode prog_19_method_16_code 49 = .ok (.iload_n 1, 1) := by decide +kernel
theorem d9_50 : decode prog_19_method_16_code 50 = .ok (.if_icmp .le 14, 3) := by decide +kernel
theorem d9_53 : decode prog_19_method_16_code 53 = .ok (.aload_n 2, 1) := by decide +kernel
theorem d9_54 : decode prog_19_method_16_code 54 = .ok (.getfield 37, 3) := by decide +kernel
theorem d9_57 : decode prog_19_method_16_code 57 = .ok (.astore_n 2, 1) := by decide +kernel
theorem d9_58 : decode prog_19_method_16_code 58 = .ok (.iinc 3 (-1), 3) := by decide +kernel
theorem d9_61 : decode prog_19_method_16_code 61 = .ok (.goto (-13), 3) := by decide +kernel
theorem d9_64 : decode prog_19_method_16_code 64 = .ok (.aload_n 2, 1) := by decide +kernel
theorem d9_65 : decode prog_19_method_16_code 65 = .ok (.areturn, 1) := by decide +kernel
def rmA10Q (Z : State) (a1 : Addr) (q0 : Addr) (h0 : Heap) (n0 : Nat) (v : Option Value) (h : Heap) (L : List Loc) : Prop := v = some (.ref q0) ∧ Fr n0 L ∧ h = h0
set_option maxRecDepth 65536 in
set_option maxHeartbeats 40000000 in
theorem rmA10 (l : Launch) (Z : State) (a0 : Array Value) (hw : ∀ d ∈ tables_1, d.before a0 Z = true) (a1 : Addr) (q0 : Addr) (h0 : Heap) (n0 : Nat) (Z0 : n0 ≤ h0.size) (Z_a1 : Fld Z h0 a1 "com/example/listwright/listwright/LinkedStorage" "size" "I" (.int (1 : Int32))) (C0 : Fld Z h0 a1 "com/example/listwright/listwright/LinkedStorage" "tail" "Lcom/example/listwright/listwright/LinkedStorage$Node;" (.ref q0)) :
    Ct l Z [] (⟨"com/example/listwright/listwright/LinkedStorage", "nodeAt", "(I)Lcom/example/listwright/listwright/LinkedStorage$Node;"⟩ : MethodName) prog_19_method_16_code 4 (some (.object "com/example/listwright/listwright/LinkedStorage$Node")) ({ frames := 0, cells := 0, slots := 0, locals := 0 } : Room) #[(.ref a1), (.int (0 : Int32))] h0 (rmA10Q Z a1 q0 h0 n0) := by
  refine own_enter (plainFor_of_name pn_5) ?_
  intro p e s m below meth c T0 X0 hx hby hml hZ hown hnm hret hlk e0
  have hown : s.vm.findClass "com/example/listwright/listwright/LinkedStorage" = some m.cls := hown
  have N0 := Fr.nil n0
  have K0 := Keep.refl h0 []
  refine own_st (fun wt wk => castTop (g' := mkF m 0 #[.val (.ref a1), .val (.int (0 : Int32)), .unset, .unset] []) (by first | (simp [entryFrame, mkF, argsToLocals, Value.category]; done) | rfl) wk) ?_
  show Fin1 p e below s (rmA10Q Z a1 q0 h0 n0) ({ frames := 0, cells := 0, slots := 0, locals := 0 } : Room).cells ({ frames := 0, cells := 0, slots := 0, locals := 0 } : Room).slots (T0.setTop (mkF m 0 #[.val (.ref a1), .val (.int (0 : Int32)), .unset, .unset] []))
  refine own_st (fun wt wk => XS.iloadN X0.here hx rfl (hb hby d9_0) rfl (XS.aloadN X0.here hx rfl (hb hby d9_1) rfl rfl wk)) ?_
  show Fin1 p e below s (rmA10Q Z a1 q0 h0 n0) ({ frames := 0, cells := 0, slots := 0, locals := 0 } : Room).cells ({ frames := 0, cells := 0, slots := 0, locals := 0 } : Room).slots (T0.setTop (mkF m 2 #[.val (.ref a1), .val (.int (0 : Int32)), .unset, .unset] [(.ref a1), (.int (0 : Int32))]))
  obtain ⟨T1, X1, e1, st1⟩ := getF X0 hx hZ hown (host := "") (Or.inl (hw _ (List.mem_of_getElem? (i := 53) rfl))) Via.refl e0 Z_a1 (g := (mkF m 2 #[.val (.ref a1), .val (.int (0 : Int32)), .unset, .unset] [(.ref a1), (.int (0 : Int32))])) rfl rfl (hb hby d9_2)
  refine own_st st1 ?_
  show Fin1 p e below s (rmA10Q Z a1 q0 h0 n0) ({ frames := 0, cells := 0, slots := 0, locals := 0 } : Room).cells ({ frames := 0, cells := 0, slots := 0, locals := 0 } : Room).slots (T1.setTop (mkF m 5 #[.val (.ref a1), .val (.int (0 : Int32)), .unset, .unset] [(.int (1 : Int32)), (.int (0 : Int32))]))
  refine own_st (fun wt wk => XS.iconst X1.here hx rfl (hb hby d9_5) wk) ?_
  show Fin1 p e below s (rmA10Q Z a1 q0 h0 n0) ({ frames := 0, cells := 0, slots := 0, locals := 0 } : Room).cells ({ frames := 0, cells := 0, slots := 0, locals := 0 } : Room).slots (T1.setTop (mkF m 6 #[.val (.ref a1), .val (.int (0 : Int32)), .unset, .unset] [(.int (2 : Int32)), (.int (1 : Int32)), (.int (0 : Int32))]))
  refine own_st (fun wt wk => XS.idiv X1.here hx rfl (hb hby d9_6) rfl (by decide) wk) ?_
  show Fin1 p e below s (rmA10Q Z a1 q0 h0 n0) ({ frames := 0, cells := 0, slots := 0, locals := 0 } : Room).cells ({ frames := 0, cells := 0, slots := 0, locals := 0 } : Room).slots (T1.setTop (mkF m 7 #[.val (.ref a1), .val (.int (0 : Int32)), .unset, .unset] [(.int ((1 : Int32) / (2 : Int32))), (.int (0 : Int32))]))
  rw [show ((1 : Int32) / (2 : Int32)) = (0 : Int32) from by decide]
  show Fin1 p e below s (rmA10Q Z a1 q0 h0 n0) ({ frames := 0, cells := 0, slots := 0, locals := 0 } : Room).cells ({ frames := 0, cells := 0, slots := 0, locals := 0 } : Room).slots (T1.setTop (mkF m 7 #[.val (.ref a1), .val (.int (0 : Int32)), .unset, .unset] [(.int (0 : Int32)), (.int (0 : Int32))]))
  refine own_st (fun wt wk => XS.icmpYes X1.here hx rfl (pc0 := 7) (pc' := 36) rfl (hb hby d9_7) rfl (flt (by decide)).2.1 (by decide) (by decide) wk) ?_
  show Fin1 p e below s (rmA10Q Z a1 q0 h0 n0) ({ frames := 0, cells := 0, slots := 0, locals := 0 } : Room).cells ({ frames := 0, cells := 0, slots := 0, locals := 0 } : Room).slots (T1.setTop (mkF m 36 #[.val (.ref a1), .val (.int (0 : Int32)), .unset, .unset] []))
  refine own_st (fun wt wk => XS.aloadN X1.here hx rfl (hb hby d9_36) rfl rfl wk) ?_
  show Fin1 p e below s (rmA10Q Z a1 q0 h0 n0) ({ frames := 0, cells := 0, slots := 0, locals := 0 } : Room).cells ({ frames := 0, cells := 0, slots := 0, locals := 0 } : Room).slots (T1.setTop (mkF m 37 #[.val (.ref a1), .val (.int (0 : Int32)), .unset, .unset] [(.ref a1)]))
  obtain ⟨T2, X2, e2, st2⟩ := getF X1 hx hZ hown (host := "") (Or.inl (hw _ (List.mem_of_getElem? (i := 51) rfl))) Via.refl e1 C0 (g := (mkF m 37 #[.val (.ref a1), .val (.int (0 : Int32)), .unset, .unset] [(.ref a1)])) rfl rfl (hb hby d9_37)
  refine own_st st2 ?_
  show Fin1 p e below s (rmA10Q Z a1 q0 h0 n0) ({ frames := 0, cells := 0, slots := 0, locals := 0 } : Room).cells ({ frames := 0, cells := 0, slots := 0, locals := 0 } : Room).slots (T2.setTop (mkF m 40 #[.val (.ref a1), .val (.int (0 : Int32)), .unset, .unset] [(.ref q0)]))
  refine own_st (fun wt wk => XS.astoreN X2.here hx rfl (hb hby d9_40) rfl rfl (l' := #[.val (.ref a1), .val (.int (0 : Int32)), .val (.ref q0), .unset]) rfl (XS.aloadN X2.here hx rfl (hb hby d9_41) rfl rfl wk)) ?_
  show Fin1 p e below s (rmA10Q Z a1 q0 h0 n0) ({ frames := 0, cells := 0, slots := 0, locals := 0 } : Room).cells ({ frames := 0, cells := 0, slots := 0, locals := 0 } : Room).slots (T2.setTop (mkF m 42 #[.val (.ref a1), .val (.int (0 : Int32)), .val (.ref q0), .unset] [(.ref a1)]))
  obtain ⟨T3, X3, e3, st3⟩ := getF X2 hx hZ hown (host := "") (Or.inl (hw _ (List.mem_of_getElem? (i := 53) rfl))) Via.refl e2 Z_a1 (g := (mkF m 42 #[.val (.ref a1), .val (.int (0 : Int32)), .val (.ref q0), .unset] [(.ref a1)])) rfl rfl (hb hby d9_42)
  refine own_st st3 ?_
  show Fin1 p e below s (rmA10Q Z a1 q0 h0 n0) ({ frames := 0, cells := 0, slots := 0, locals := 0 } : Room).cells ({ frames := 0, cells := 0, slots := 0, locals := 0 } : Room).slots (T3.setTop (mkF m 45 #[.val (.ref a1), .val (.int (0 : Int32)), .val (.ref q0), .unset] [(.int (1 : Int32))]))
  refine own_st (fun wt wk => XS.iconst X3.here hx rfl (hb hby d9_45) (XS.isub X3.here hx rfl (hb hby d9_46) rfl wk)) ?_
  show Fin1 p e below s (rmA10Q Z a1 q0 h0 n0) ({ frames := 0, cells := 0, slots := 0, locals := 0 } : Room).cells ({ frames := 0, cells := 0, slots := 0, locals := 0 } : Room).slots (T3.setTop (mkF m 47 #[.val (.ref a1), .val (.int (0 : Int32)), .val (.ref q0), .unset] [(.int ((1 : Int32) - (1 : Int32)))]))
  rw [show ((1 : Int32) - (1 : Int32)) = (0 : Int32) from by decide]
  show Fin1 p e below s (rmA10Q Z a1 q0 h0 n0) ({ frames := 0, cells := 0, slots := 0, locals := 0 } : Room).cells ({ frames := 0, cells := 0, slots := 0, locals := 0 } : Room).slots (T3.setTop (mkF m 47 #[.val (.ref a1), .val (.int (0 : Int32)), .val (.ref q0), .unset] [(.int (0 : Int32))]))
  refine own_st (fun wt wk => XS.istoreN X3.here hx rfl (hb hby d9_47) rfl (l' := #[.val (.ref a1), .val (.int (0 : Int32)), .val (.ref q0), .val (.int (0 : Int32))]) rfl (XS.iloadN X3.here hx rfl (hb hby d9_48) rfl (XS.iloadN X3.here hx rfl (hb hby d9_49) rfl wk))) ?_
  show Fin1 p e below s (rmA10Q Z a1 q0 h0 n0) ({ frames := 0, cells := 0, slots := 0, locals := 0 } : Room).cells ({ frames := 0, cells := 0, slots := 0, locals := 0 } : Room).slots (T3.setTop (mkF m 50 #[.val (.ref a1), .val (.int (0 : Int32)), .val (.ref q0), .val (.int (0 : Int32))] [(.int (0 : Int32)), (.int (0 : Int32))]))
  refine own_st (fun wt wk => XS.icmpYes X3.here hx rfl (pc0 := 50) (pc' := 64) rfl (hb hby d9_50) rfl (flt (by decide)).2.2.2 (by decide) (by decide) wk) ?_
  show Fin1 p e below s (rmA10Q Z a1 q0 h0 n0) ({ frames := 0, cells := 0, slots := 0, locals := 0 } : Room).cells ({ frames := 0, cells := 0, slots := 0, locals := 0 } : Room).slots (T3.setTop (mkF m 64 #[.val (.ref a1), .val (.int (0 : Int32)), .val (.ref q0), .val (.int (0 : Int32))] []))
  refine own_st (fun wt wk => XS.aloadN X3.here hx rfl (hb hby d9_64) rfl rfl wk) ?_
  show Fin1 p e below s (rmA10Q Z a1 q0 h0 n0) ({ frames := 0, cells := 0, slots := 0, locals := 0 } : Room).cells ({ frames := 0, cells := 0, slots := 0, locals := 0 } : Room).slots (T3.setTop (mkF m 65 #[.val (.ref a1), .val (.int (0 : Int32)), .val (.ref q0), .val (.int (0 : Int32))] [(.ref q0)]))
  exact own_retA X3 hx hlk hret rfl rfl (hb hby d9_65) (by rw [e3]; exact ⟨rfl, N0, rfl⟩) (by decide) (by decide)
theorem d14_0 : decode prog_19_method_3_code 0 = .ok (.aload_n 0, 1) := by decide +kernel
theorem d14_1 : decode prog_19_method_3_code 1 = .ok (.iload_n 1, 1) := by decide +kernel
theorem d14_2 : decode prog_19_method_3_code 2 = .ok (.invokevirtual 13, 3) := by decide +kernel
theorem d14_5 : decode prog_19_method_3_code 5 = .ok (.getfield 17, 3) := by decide +kernel
theorem d14_8 : decode prog_19_method_3_code 8 = .ok (.areturn, 1) := by decide +kernel
theorem pd_9 : parseMethodDescriptor "(I)Lcom/example/listwright/listwright/LinkedStorage$Node;" = some ⟨[.int], some (.object "com/example/listwright/listwright/LinkedStorage$Node")⟩ := by decide +kernel
def rmG10Q (Z : State) (a1 : Addr) (q0 : Addr) (x : Addr) (h0 : Heap) (n0 : Nat) (v : Option Value) (h : Heap) (L : List Loc) : Prop := v = some (.ref x) ∧ Fr n0 L ∧ h = h0
set_option maxRecDepth 65536 in
set_option maxHeartbeats 40000000 in
theorem rmG10 (l : Launch) (Z : State) (a0 : Array Value) (hw : ∀ d ∈ tables_1, d.before a0 Z = true) (a1 : Addr) (q0 : Addr) (x : Addr) (h0 : Heap) (n0 : Nat) (Z0 : n0 ≤ h0.size) (E_a1 : Exa Z h0 a1 "com/example/listwright/listwright/LinkedStorage") (Z_a1 : Fld Z h0 a1 "com/example/listwright/listwright/LinkedStorage" "size" "I" (.int (1 : Int32))) (C0 : Fld Z h0 a1 "com/example/listwright/listwright/LinkedStorage" "tail" "Lcom/example/listwright/listwright/LinkedStorage$Node;" (.ref q0)) (El : Fld Z h0 q0 "com/example/listwright/listwright/LinkedStorage$Node" "element" "Ljava/lang/Object;" (.ref x)) :
    Ct l Z [] (⟨"com/example/listwright/listwright/LinkedStorage", "get", "(I)Ljava/lang/Object;"⟩ : MethodName) prog_19_method_3_code 2 (some (.object "java/lang/Object")) ({ frames := 1, cells := 0, slots := 0, locals := 15 } : Room) #[(.ref a1), (.int (0 : Int32))] h0 (rmG10Q Z a1 q0 x h0 n0) := by
  refine own_enter (plainFor_of_name pn_5) ?_
  intro p e s m below meth c T0 X0 hx hby hml hZ hown hnm hret hlk e0
  have hown : s.vm.findClass "com/example/listwright/listwright/LinkedStorage" = some m.cls := hown
  have N0 := Fr.nil n0
  have K0 := Keep.refl h0 []
  refine own_st (fun wt wk => castTop (g' := mkF m 0 #[.val (.ref a1), .val (.int (0 : Int32))] []) (by first | (simp [entryFrame, mkF, argsToLocals, Value.category]; done) | rfl) wk) ?_
  show Fin1 p e below s (rmG10Q Z a1 q0 x h0 n0) ({ frames := 1, cells := 0, slots := 0, locals := 15 } : Room).cells ({ frames := 1, cells := 0, slots := 0, locals := 15 } : Room).slots (T0.setTop (mkF m 0 #[.val (.ref a1), .val (.int (0 : Int32))] []))
  refine own_st (fun wt wk => XS.aloadN X0.here hx rfl (hb hby d14_0) rfl rfl (XS.iloadN X0.here hx rfl (hb hby d14_1) rfl wk)) ?_
  show Fin1 p e below s (rmG10Q Z a1 q0 x h0 n0) ({ frames := 1, cells := 0, slots := 0, locals := 15 } : Room).cells ({ frames := 1, cells := 0, slots := 0, locals := 15 } : Room).slots (T0.setTop (mkF m 2 #[.val (.ref a1), .val (.int (0 : Int32))] [(.int (0 : Int32)), (.ref a1)]))
  obtain ⟨v1, T1, h1, L1, X1, e1, hQ1, st1⟩ := own_private X0 hx hZ hown (hw _ (List.mem_of_getElem? (i := 55) rfl)) (hw _ (List.mem_of_getElem? (i := 56) rfl)) (hw _ (List.mem_of_getElem? (i := 3) rfl)) (hw _ (List.mem_of_getElem? (i := 57) rfl)) (hw _ (List.mem_of_getElem? (i := 58) rfl)) (hw _ (List.mem_of_getElem? (i := 4) rfl)) (by decide) (a := a1) E_a1 (rmA10 l Z a0 hw a1 q0 h0 n0 Z0 Z_a1 C0) e0 (g := (mkF m 2 #[.val (.ref a1), .val (.int (0 : Int32))] [(.int (0 : Int32)), (.ref a1)])) rfl (by rw [hml]; rfl) (argsL := [(.int (0 : Int32))]) (rest := []) (lenOf pd_9 rfl) rfl (W := 0) (by show 2 * 0 + _ ≤ _; exact Nat.le_of_eq rfl) (hb hby d14_2) (by decide) (by decide) (by decide) (by decide)
  obtain ⟨rfl, N1q, hh1⟩ := hQ1
  have N1 := Fr.app N0 N1q
  rw [hh1] at e1
  refine own_st st1 ?_
  show Fin1 p e below s (rmG10Q Z a1 q0 x h0 n0) ({ frames := 1, cells := 0, slots := 0, locals := 15 } : Room).cells ({ frames := 1, cells := 0, slots := 0, locals := 15 } : Room).slots (T1.setTop (mkF m 5 #[.val (.ref a1), .val (.int (0 : Int32))] [(.ref q0)]))
  obtain ⟨T2, X2, e2, st2⟩ := own_getRef X1 hx hZ hown (hw _ (List.mem_of_getElem? (i := 64) rfl)) e1 El (g := (mkF m 5 #[.val (.ref a1), .val (.int (0 : Int32))] [(.ref q0)])) rfl rfl (hb hby d14_5)
  refine own_st st2 ?_
  show Fin1 p e below s (rmG10Q Z a1 q0 x h0 n0) ({ frames := 1, cells := 0, slots := 0, locals := 15 } : Room).cells ({ frames := 1, cells := 0, slots := 0, locals := 15 } : Room).slots (T2.setTop (mkF m 8 #[.val (.ref a1), .val (.int (0 : Int32))] [(.ref x)]))
  exact own_retA X2 hx hlk hret rfl rfl (hb hby d14_8) (by rw [e2]; exact ⟨rfl, N1, rfl⟩) (by decide) (by decide)
theorem d10_0 : decode prog_19_method_4_code 0 = .ok (.aload_n 0, 1) := by decide +kernel
theorem d10_1 : decode prog_19_method_4_code 1 = .ok (.iload_n 1, 1) := by decide +kernel
theorem d10_2 : decode prog_19_method_4_code 2 = .ok (.invokevirtual 13, 3) := by decide +kernel
theorem d10_5 : decode prog_19_method_4_code 5 = .ok (.astore_n 3, 1) := by decide +kernel
theorem d10_6 : decode prog_19_method_4_code 6 = .ok (.aload_n 3, 1) := by decide +kernel
theorem d10_7 : decode prog_19_method_4_code 7 = .ok (.getfield 17, 3) := by decide +kernel
theorem d10_10 : decode prog_19_method_4_code 10 = .ok (.astore 4, 2) := by decide +kernel
theorem d10_12 : decode prog_19_method_4_code 12 = .ok (.aload_n 3, 1) := by decide +kernel
theorem d10_13 : decode prog_19_method_4_code 13 = .ok (.aload_n 2, 1) := by decide +kernel
theorem d10_14 : decode prog_19_method_4_code 14 = .ok (.putfield 17, 3) := by decide +kernel
theorem d10_17 : decode prog_19_method_4_code 17 = .ok (.aload 4, 2) := by decide +kernel
theorem d10_19 : decode prog_19_method_4_code 19 = .ok (.areturn, 1) := by decide +kernel
def rmT10Q (Z : State) (a1 : Addr) (x : Addr) (q0 : Addr) (old : Addr) (pv : Value) (nv : Value) (h0 : Heap) (n0 : Nat) (v : Option Value) (h : Heap) (L : List Loc) : Prop := v = some (.ref old) ∧ Fr n0 L ∧ Keep h0 h [q0] ∧ Fld Z h q0 "com/example/listwright/listwright/LinkedStorage$Node" "element" "Ljava/lang/Object;" (.ref x) ∧ Fld Z h q0 "com/example/listwright/listwright/LinkedStorage$Node" "previous" "Lcom/example/listwright/listwright/LinkedStorage$Node;" pv ∧ Fld Z h q0 "com/example/listwright/listwright/LinkedStorage$Node" "next" "Lcom/example/listwright/listwright/LinkedStorage$Node;" nv
set_option maxRecDepth 65536 in
set_option maxHeartbeats 40000000 in
theorem rmT10 (l : Launch) (Z : State) (a0 : Array Value) (hw : ∀ d ∈ tables_1, d.before a0 Z = true) (a1 : Addr) (x : Addr) (q0 : Addr) (old : Addr) (pv : Value) (nv : Value) (h0 : Heap) (n0 : Nat) (Z0 : n0 ≤ h0.size) (g_q0 : n0 ≤ q0) (E_a1 : Exa Z h0 a1 "com/example/listwright/listwright/LinkedStorage") (E_q0 : Exa Z h0 q0 "com/example/listwright/listwright/LinkedStorage$Node") (Z_a1 : Fld Z h0 a1 "com/example/listwright/listwright/LinkedStorage" "size" "I" (.int (1 : Int32))) (C0 : Fld Z h0 a1 "com/example/listwright/listwright/LinkedStorage" "tail" "Lcom/example/listwright/listwright/LinkedStorage$Node;" (.ref q0)) (Eq0 : Fld Z h0 q0 "com/example/listwright/listwright/LinkedStorage$Node" "element" "Ljava/lang/Object;" (.ref old)) (Pq0 : Fld Z h0 q0 "com/example/listwright/listwright/LinkedStorage$Node" "previous" "Lcom/example/listwright/listwright/LinkedStorage$Node;" pv) (Nq0 : Fld Z h0 q0 "com/example/listwright/listwright/LinkedStorage$Node" "next" "Lcom/example/listwright/listwright/LinkedStorage$Node;" nv) :
    Ct l Z [] (⟨"com/example/listwright/listwright/LinkedStorage", "set", "(ILjava/lang/Object;)Ljava/lang/Object;"⟩ : MethodName) prog_19_method_4_code 5 (some (.object "java/lang/Object")) ({ frames := 1, cells := 0, slots := 0, locals := 15 } : Room) #[(.ref a1), (.int (0 : Int32)), (.ref x)] h0 (rmT10Q Z a1 x q0 old pv nv h0 n0) := by
  refine own_enter (plainFor_of_name pn_5) ?_
  intro p e s m below meth c T0 X0 hx hby hml hZ hown hnm hret hlk e0
  have hown : s.vm.findClass "com/example/listwright/listwright/LinkedStorage" = some m.cls := hown
  have N0 := Fr.nil n0
  have K0 := Keep.refl h0 [q0]
  refine own_st (fun wt wk => castTop (g' := mkF m 0 #[.val (.ref a1), .val (.int (0 : Int32)), .val (.ref x), .unset, .unset] []) (by first | (simp [entryFrame, mkF, argsToLocals, Value.category]; done) | rfl) wk) ?_
  show Fin1 p e below s (rmT10Q Z a1 x q0 old pv nv h0 n0) ({ frames := 1, cells := 0, slots := 0, locals := 15 } : Room).cells ({ frames := 1, cells := 0, slots := 0, locals := 15 } : Room).slots (T0.setTop (mkF m 0 #[.val (.ref a1), .val (.int (0 : Int32)), .val (.ref x), .unset, .unset] []))
  refine own_st (fun wt wk => XS.aloadN X0.here hx rfl (hb hby d10_0) rfl rfl (XS.iloadN X0.here hx rfl (hb hby d10_1) rfl wk)) ?_
  show Fin1 p e below s (rmT10Q Z a1 x q0 old pv nv h0 n0) ({ frames := 1, cells := 0, slots := 0, locals := 15 } : Room).cells ({ frames := 1, cells := 0, slots := 0, locals := 15 } : Room).slots (T0.setTop (mkF m 2 #[.val (.ref a1), .val (.int (0 : Int32)), .val (.ref x), .unset, .unset] [(.int (0 : Int32)), (.ref a1)]))
  obtain ⟨v1, T1, h1, L1, X1, e1, hQ1, st1⟩ := own_private X0 hx hZ hown (hw _ (List.mem_of_getElem? (i := 55) rfl)) (hw _ (List.mem_of_getElem? (i := 56) rfl)) (hw _ (List.mem_of_getElem? (i := 3) rfl)) (hw _ (List.mem_of_getElem? (i := 57) rfl)) (hw _ (List.mem_of_getElem? (i := 58) rfl)) (hw _ (List.mem_of_getElem? (i := 4) rfl)) (by decide) (a := a1) E_a1 (rmA10 l Z a0 hw a1 q0 h0 n0 Z0 Z_a1 C0) e0 (g := (mkF m 2 #[.val (.ref a1), .val (.int (0 : Int32)), .val (.ref x), .unset, .unset] [(.int (0 : Int32)), (.ref a1)])) rfl (by rw [hml]; rfl) (argsL := [(.int (0 : Int32))]) (rest := []) (lenOf pd_9 rfl) rfl (W := 0) (by show 2 * 0 + _ ≤ _; exact Nat.le_of_eq rfl) (hb hby d10_2) (by decide) (by decide) (by decide) (by decide)
  obtain ⟨rfl, N1q, hh1⟩ := hQ1
  have N1 := Fr.app N0 N1q
  rw [hh1] at e1
  refine own_st st1 ?_
  show Fin1 p e below s (rmT10Q Z a1 x q0 old pv nv h0 n0) ({ frames := 1, cells := 0, slots := 0, locals := 15 } : Room).cells ({ frames := 1, cells := 0, slots := 0, locals := 15 } : Room).slots (T1.setTop (mkF m 5 #[.val (.ref a1), .val (.int (0 : Int32)), .val (.ref x), .unset, .unset] [(.ref q0)]))
  refine own_st (fun wt wk => XS.astoreN X1.here hx rfl (hb hby d10_5) rfl rfl (l' := #[.val (.ref a1), .val (.int (0 : Int32)), .val (.ref x), .val (.ref q0), .unset]) rfl (XS.aloadN X1.here hx rfl (hb hby d10_6) rfl rfl wk)) ?_
  show Fin1 p e below s (rmT10Q Z a1 x q0 old pv nv h0 n0) ({ frames := 1, cells := 0, slots := 0, locals := 15 } : Room).cells ({ frames := 1, cells := 0, slots := 0, locals := 15 } : Room).slots (T1.setTop (mkF m 7 #[.val (.ref a1), .val (.int (0 : Int32)), .val (.ref x), .val (.ref q0), .unset] [(.ref q0)]))
  obtain ⟨T2, X2, e2, st2⟩ := own_getRef X1 hx hZ hown (hw _ (List.mem_of_getElem? (i := 64) rfl)) e1 Eq0 (g := (mkF m 7 #[.val (.ref a1), .val (.int (0 : Int32)), .val (.ref x), .val (.ref q0), .unset] [(.ref q0)])) rfl rfl (hb hby d10_7)
  refine own_st st2 ?_
  show Fin1 p e below s (rmT10Q Z a1 x q0 old pv nv h0 n0) ({ frames := 1, cells := 0, slots := 0, locals := 15 } : Room).cells ({ frames := 1, cells := 0, slots := 0, locals := 15 } : Room).slots (T2.setTop (mkF m 10 #[.val (.ref a1), .val (.int (0 : Int32)), .val (.ref x), .val (.ref q0), .unset] [(.ref old)]))
  refine own_st (fun wt wk => XS.astore X2.here hx rfl (hb hby d10_10) rfl rfl (l' := #[.val (.ref a1), .val (.int (0 : Int32)), .val (.ref x), .val (.ref q0), .val (.ref old)]) rfl (XS.aloadN X2.here hx rfl (hb hby d10_12) rfl rfl (XS.aloadN X2.here hx rfl (hb hby d10_13) rfl rfl wk))) ?_
  show Fin1 p e below s (rmT10Q Z a1 x q0 old pv nv h0 n0) ({ frames := 1, cells := 0, slots := 0, locals := 15 } : Room).cells ({ frames := 1, cells := 0, slots := 0, locals := 15 } : Room).slots (T2.setTop (mkF m 14 #[.val (.ref a1), .val (.int (0 : Int32)), .val (.ref x), .val (.ref q0), .val (.ref old)] [(.ref x), (.ref q0)]))
  obtain ⟨T3, h3, X3, e3, W3, st3⟩ := own_putRef X2 hx hZ hown (hw _ (List.mem_of_getElem? (i := 64) rfl)) e2 Eq0 E_q0 (hw _ (List.mem_of_getElem? (i := 42) rfl)) (hw _ (List.mem_of_getElem? (i := 35) rfl)) (ty := (.object "java/lang/Object")) (by decide) rfl rfl (g := (mkF m 14 #[.val (.ref a1), .val (.int (0 : Int32)), .val (.ref x), .val (.ref q0), .val (.ref old)] [(.ref x), (.ref q0)])) rfl rfl (hb hby d10_14)
  refine own_st st3 ?_
  have N3 := Fr.snoc X3 N1 g_q0
  have Z0 := Nat.le_trans Z0 (Nat.le_of_eq W3.size.symm)
  have K0 := K0.wr W3 (Or.inl (List.mem_of_getElem? (i := 0) rfl))
  have E_q0 := E_q0.wr W3
  have Eq0 := Eq0.same W3
  have Pq0 := Pq0.other W3 (Or.inr (slot_ne (Or.inl (hw _ (List.mem_of_getElem? (i := 48) rfl))) (Or.inl (hw _ (List.mem_of_getElem? (i := 42) rfl))) (by decide) (t := (.object "com/example/listwright/listwright/LinkedStorage$Node")) (t' := (.object "java/lang/Object")) (by decide) (by decide)))
  have Nq0 := Nq0.other W3 (Or.inr (slot_ne (Or.inl (hw _ (List.mem_of_getElem? (i := 50) rfl))) (Or.inl (hw _ (List.mem_of_getElem? (i := 42) rfl))) (by decide) (t := (.object "com/example/listwright/listwright/LinkedStorage$Node")) (t' := (.object "java/lang/Object")) (by decide) (by decide)))
  show Fin1 p e below s (rmT10Q Z a1 x q0 old pv nv h0 n0) ({ frames := 1, cells := 0, slots := 0, locals := 15 } : Room).cells ({ frames := 1, cells := 0, slots := 0, locals := 15 } : Room).slots (T3.setTop (mkF m 17 #[.val (.ref a1), .val (.int (0 : Int32)), .val (.ref x), .val (.ref q0), .val (.ref old)] []))
  refine own_st (fun wt wk => XS.aload X3.here hx rfl (hb hby d10_17) rfl rfl wk) ?_
  show Fin1 p e below s (rmT10Q Z a1 x q0 old pv nv h0 n0) ({ frames := 1, cells := 0, slots := 0, locals := 15 } : Room).cells ({ frames := 1, cells := 0, slots := 0, locals := 15 } : Room).slots (T3.setTop (mkF m 19 #[.val (.ref a1), .val (.int (0 : Int32)), .val (.ref x), .val (.ref q0), .val (.ref old)] [(.ref old)]))
  exact own_retA X3 hx hlk hret rfl rfl (hb hby d10_19) (by rw [e3]; exact ⟨rfl, N3, K0, Eq0, Pq0, Nq0⟩) (by decide) (by decide)
def rmA20Q (Z : State) (a1 : Addr) (q0 : Addr) (h0 : Heap) (n0 : Nat) (v : Option Value) (h : Heap) (L : List Loc) : Prop := v = some (.ref q0) ∧ Fr n0 L ∧ h = h0
set_option maxRecDepth 65536 in
set_option maxHeartbeats 40000000 in
theorem rmA20 (l : Launch) (Z : State) (a0 : Array Value) (hw : ∀ d ∈ tables_1, d.before a0 Z = true) (a1 : Addr) (q0 : Addr) (h0 : Heap) (n0 : Nat) (Z0 : n0 ≤ h0.size) (Z_a1 : Fld Z h0 a1 "com/example/listwright/listwright/LinkedStorage" "size" "I" (.int (2 : Int32))) (C0 : Fld Z h0 a1 "com/example/listwright/listwright/LinkedStorage" "head" "Lcom/example/listwright/listwright/LinkedStorage$Node;" (.ref q0)) :
    Ct l Z [] (⟨"com/example/listwright/listwright/LinkedStorage", "nodeAt", "(I)Lcom/example/listwright/listwright/LinkedStorage$Node;"⟩ : MethodName) prog_19_method_16_code 4 (some (.object "com/example/listwright/listwright/LinkedStorage$Node")) ({ frames := 0, cells := 0, slots := 0, locals := 0 } : Room) #[(.ref a1), (.int (0 : Int32))] h0 (rmA20Q Z a1 q0 h0 n0) := by
  refine own_enter (plainFor_of_name pn_5) ?_
  intro p e s m below meth c T0 X0 hx hby hml hZ hown hnm hret hlk e0
  have hown : s.vm.findClass "com/example/listwright/listwright/LinkedStorage" = some m.cls := hown
  have N0 := Fr.nil n0
  have K0 := Keep.refl h0 []
  refine own_st (fun wt wk => castTop (g' := mkF m 0 #[.val (.ref a1), .val (.int (0 : Int32)), .unset, .unset] []) (by first | (simp [entryFrame, mkF, argsToLocals, Value.category]; done) | rfl) wk) ?_
  show Fin1 p e below s (rmA20Q Z a1 q0 h0 n0) ({ frames := 0, cells := 0, slots := 0, locals := 0 } : Room).cells ({ frames := 0, cells := 0, slots := 0, locals := 0 } : Room).slots (T0.setTop (mkF m 0 #[.val (.ref a1), .val (.int (0 : Int32)), .unset, .unset] []))
  refine own_st (fun wt wk => XS.iloadN X0.here hx rfl (hb hby d9_0) rfl (XS.aloadN X0.here hx rfl (hb hby d9_1) rfl rfl wk)) ?_
  show Fin1 p e below s (rmA20Q Z a1 q0 h0 n0) ({ frames := 0, cells := 0, slots := 0, locals := 0 } : Room).cells ({ frames := 0, cells := 0, slots := 0, locals := 0 } : Room).slots (T0.setTop (mkF m 2 #[.val (.ref a1), .val (.int (0 : Int32)), .unset, .unset] [(.ref a1), (.int (0 : Int32))]))
  obtain ⟨T1, X1, e1, st1⟩ := getF X0 hx hZ hown (host := "") (Or.inl (hw _ (List.mem_of_getElem? (i := 53) rfl))) Via.refl e0 Z_a1 (g := (mkF m 2 #[.val (.ref a1), .val (.int (0 : Int32)), .unset, .unset] [(.ref a1), (.int (0 : Int32))])) rfl rfl (hb hby d9_2)
  refine own_st st1 ?_
  show Fin1 p e below s (rmA20Q Z a1 q0 h0 n0) ({ frames := 0, cells := 0, slots := 0, locals := 0 } : Room).cells ({ frames := 0, cells := 0, slots := 0, locals := 0 } : Room).slots (T1.setTop (mkF m 5 #[.val (.ref a1), .val (.int (0 : Int32)), .unset, .unset] [(.int (2 : Int32)), (.int (0 : Int32))]))
  refine own_st (fun wt wk => XS.iconst X1.here hx rfl (hb hby d9_5) wk) ?_
  show Fin1 p e below s (rmA20Q Z a1 q0 h0 n0) ({ frames := 0, cells := 0, slots := 0, locals := 0 } : Room).cells ({ frames := 0, cells := 0, slots := 0, locals := 0 } : Room).slots (T1.setTop (mkF m 6 #[.val (.ref a1), .val (.int (0 : Int32)), .unset, .unset] [(.int (2 : Int32)), (.int (2 : Int32)), (.int (0 : Int32))]))
  refine own_st (fun wt wk => XS.idiv X1.here hx rfl (hb hby d9_6) rfl (by decide) wk) ?_
  show Fin1 p e below s (rmA20Q Z a1 q0 h0 n0) ({ frames := 0, cells := 0, slots := 0, locals := 0 } : Room).cells ({ frames := 0, cells := 0, slots := 0, locals := 0 } : Room).slots (T1.setTop (mkF m 7 #[.val (.ref a1), .val (.int (0 : Int32)), .unset, .unset] [(.int ((2 : Int32) / (2 : Int32))), (.int (0 : Int32))]))
  rw [show ((2 : Int32) / (2 : Int32)) = (1 : Int32) from by decide]
  show Fin1 p e below s (rmA20Q Z a1 q0 h0 n0) ({ frames := 0, cells := 0, slots := 0, locals := 0 } : Room).cells ({ frames := 0, cells := 0, slots := 0, locals := 0 } : Room).slots (T1.setTop (mkF m 7 #[.val (.ref a1), .val (.int (0 : Int32)), .unset, .unset] [(.int (1 : Int32)), (.int (0 : Int32))]))
  refine own_st (fun wt wk => XS.icmpNo X1.here hx rfl (hb hby d9_7) rfl (tlt (by decide)).2.1 wk) ?_
  show Fin1 p e below s (rmA20Q Z a1 q0 h0 n0) ({ frames := 0, cells := 0, slots := 0, locals := 0 } : Room).cells ({ frames := 0, cells := 0, slots := 0, locals := 0 } : Room).slots (T1.setTop (mkF m 10 #[.val (.ref a1), .val (.int (0 : Int32)), .unset, .unset] []))
  refine own_st (fun wt wk => XS.aloadN X1.here hx rfl (hb hby d9_10) rfl rfl wk) ?_
  show Fin1 p e below s (rmA20Q Z a1 q0 h0 n0) ({ frames := 0, cells := 0, slots := 0, locals := 0 } : Room).cells ({ frames := 0, cells := 0, slots := 0, locals := 0 } : Room).slots (T1.setTop (mkF m 11 #[.val (.ref a1), .val (.int (0 : Int32)), .unset, .unset] [(.ref a1)]))
  obtain ⟨T2, X2, e2, st2⟩ := getF X1 hx hZ hown (host := "") (Or.inl (hw _ (List.mem_of_getElem? (i := 32) rfl))) Via.refl e1 C0 (g := (mkF m 11 #[.val (.ref a1), .val (.int (0 : Int32)), .unset, .unset] [(.ref a1)])) rfl rfl (hb hby d9_11)
  refine own_st st2 ?_
  show Fin1 p e below s (rmA20Q Z a1 q0 h0 n0) ({ frames := 0, cells := 0, slots := 0, locals := 0 } : Room).cells ({ frames := 0, cells := 0, slots := 0, locals := 0 } : Room).slots (T2.setTop (mkF m 14 #[.val (.ref a1), .val (.int (0 : Int32)), .unset, .unset] [(.ref q0)]))
  refine own_st (fun wt wk => XS.astoreN X2.here hx rfl (hb hby d9_14) rfl rfl (l' := #[.val (.ref a1), .val (.int (0 : Int32)), .val (.ref q0), .unset]) rfl (XS.iconst X2.here hx rfl (hb hby d9_15) (XS.istoreN X2.here hx rfl (hb hby d9_16) rfl (l' := #[.val (.ref a1), .val (.int (0 : Int32)), .val (.ref q0), .val (.int (0 : Int32))]) rfl (XS.iloadN X2.here hx rfl (hb hby d9_17) rfl (XS.iloadN X2.here hx rfl (hb hby d9_18) rfl wk))))) ?_
  show Fin1 p e below s (rmA20Q Z a1 q0 h0 n0) ({ frames := 0, cells := 0, slots := 0, locals := 0 } : Room).cells ({ frames := 0, cells := 0, slots := 0, locals := 0 } : Room).slots (T2.setTop (mkF m 19 #[.val (.ref a1), .val (.int (0 : Int32)), .val (.ref q0), .val (.int (0 : Int32))] [(.int (0 : Int32)), (.int (0 : Int32))]))
  refine own_st (fun wt wk => XS.icmpYes X2.here hx rfl (pc0 := 19) (pc' := 33) rfl (hb hby d9_19) rfl (flt (by decide)).2.1 (by decide) (by decide) wk) ?_
  show Fin1 p e below s (rmA20Q Z a1 q0 h0 n0) ({ frames := 0, cells := 0, slots := 0, locals := 0 } : Room).cells ({ frames := 0, cells := 0, slots := 0, locals := 0 } : Room).slots (T2.setTop (mkF m 33 #[.val (.ref a1), .val (.int (0 : Int32)), .val (.ref q0), .val (.int (0 : Int32))] []))
  refine own_st (fun wt wk => XS.goto X2.here hx rfl (pc0 := 33) (pc' := 64) rfl (hb hby d9_33) (by decide) (by decide) (XS.aloadN X2.here hx rfl (hb hby d9_64) rfl rfl wk)) ?_
  show Fin1 p e below s (rmA20Q Z a1 q0 h0 n0) ({ frames := 0, cells := 0, slots := 0, locals := 0 } : Room).cells ({ frames := 0, cells := 0, slots := 0, locals := 0 } : Room).slots (T2.setTop (mkF m 65 #[.val (.ref a1), .val (.int (0 : Int32)), .val (.ref q0), .val (.int (0 : Int32))] [(.ref q0)]))
  exact own_retA X2 hx hlk hret rfl rfl (hb hby d9_65) (by rw [e2]; exact ⟨rfl, N0, rfl⟩) (by decide) (by decide)
def rmG20Q (Z : State) (a1 : Addr) (q0 : Addr) (x : Addr) (h0 : Heap) (n0 : Nat) (v : Option Value) (h : Heap) (L : List Loc) : Prop := v = some (.ref x) ∧ Fr n0 L ∧ h = h0
set_option maxRecDepth 65536 in
set_option maxHeartbeats 40000000 in
theorem rmG20 (l : Launch) (Z : State) (a0 : Array Value) (hw : ∀ d ∈ tables_1, d.before a0 Z = true) (a1 : Addr) (q0 : Addr) (x : Addr) (h0 : Heap) (n0 : Nat) (Z0 : n0 ≤ h0.size) (E_a1 : Exa Z h0 a1 "com/example/listwright/listwright/LinkedStorage") (Z_a1 : Fld Z h0 a1 "com/example/listwright/listwright/LinkedStorage" "size" "I" (.int (2 : Int32))) (C0 : Fld Z h0 a1 "com/example/listwright/listwright/LinkedStorage" "head" "Lcom/example/listwright/listwright/LinkedStorage$Node;" (.ref q0)) (El : Fld Z h0 q0 "com/example/listwright/listwright/LinkedStorage$Node" "element" "Ljava/lang/Object;" (.ref x)) :
    Ct l Z [] (⟨"com/example/listwright/listwright/LinkedStorage", "get", "(I)Ljava/lang/Object;"⟩ : MethodName) prog_19_method_3_code 2 (some (.object "java/lang/Object")) ({ frames := 1, cells := 0, slots := 0, locals := 15 } : Room) #[(.ref a1), (.int (0 : Int32))] h0 (rmG20Q Z a1 q0 x h0 n0) := by
  refine own_enter (plainFor_of_name pn_5) ?_
  intro p e s m below meth c T0 X0 hx hby hml hZ hown hnm hret hlk e0
  have hown : s.vm.findClass "com/example/listwright/listwright/LinkedStorage" = some m.cls := hown
  have N0 := Fr.nil n0
  have K0 := Keep.refl h0 []
  refine own_st (fun wt wk => castTop (g' := mkF m 0 #[.val (.ref a1), .val (.int (0 : Int32))] []) (by first | (simp [entryFrame, mkF, argsToLocals, Value.category]; done) | rfl) wk) ?_
  show Fin1 p e below s (rmG20Q Z a1 q0 x h0 n0) ({ frames := 1, cells := 0, slots := 0, locals := 15 } : Room).cells ({ frames := 1, cells := 0, slots := 0, locals := 15 } : Room).slots (T0.setTop (mkF m 0 #[.val (.ref a1), .val (.int (0 : Int32))] []))
  refine own_st (fun wt wk => XS.aloadN X0.here hx rfl (hb hby d14_0) rfl rfl (XS.iloadN X0.here hx rfl (hb hby d14_1) rfl wk)) ?_
  show Fin1 p e below s (rmG20Q Z a1 q0 x h0 n0) ({ frames := 1, cells := 0, slots := 0, locals := 15 } : Room).cells ({ frames := 1, cells := 0, slots := 0, locals := 15 } : Room).slots (T0.setTop (mkF m 2 #[.val (.ref a1), .val (.int (0 : Int32))] [(.int (0 : Int32)), (.ref a1)]))
  obtain ⟨v1, T1, h1, L1, X1, e1, hQ1, st1⟩ := own_private X0 hx hZ hown (hw _ (List.mem_of_getElem? (i := 55) rfl)) (hw _ (List.mem_of_getElem? (i := 56) rfl)) (hw _ (List.mem_of_getElem? (i := 3) rfl)) (hw _ (List.mem_of_getElem? (i := 57) rfl)) (hw _ (List.mem_of_getElem? (i := 58) rfl)) (hw _ (List.mem_of_getElem? (i := 4) rfl)) (by decide) (a := a1) E_a1 (rmA20 l Z a0 hw a1 q0 h0 n0 Z0 Z_a1 C0) e0 (g := (mkF m 2 #[.val (.ref a1), .val (.int (0 : Int32))] [(.int (0 : Int32)), (.ref a1)])) rfl (by rw [hml]; rfl) (argsL := [(.int (0 : Int32))]) (rest := []) (lenOf pd_9 rfl) rfl (W := 0) (by show 2 * 0 + _ ≤ _; exact Nat.le_of_eq rfl) (hb hby d14_2) (by decide) (by decide) (by decide) (by decide)
  obtain ⟨rfl, N1q, hh1⟩ := hQ1
  have N1 := Fr.app N0 N1q
  rw [hh1] at e1
  refine own_st st1 ?_
  show Fin1 p e below s (rmG20Q Z a1 q0 x h0 n0) ({ frames := 1, cells := 0, slots := 0, locals := 15 } : Room).cells ({ frames := 1, cells := 0, slots := 0, locals := 15 } : Room).slots (T1.setTop (mkF m 5 #[.val (.ref a1), .val (.int (0 : Int32))] [(.ref q0)]))
  obtain ⟨T2, X2, e2, st2⟩ := own_getRef X1 hx hZ hown (hw _ (List.mem_of_getElem? (i := 64) rfl)) e1 El (g := (mkF m 5 #[.val (.ref a1), .val (.int (0 : Int32))] [(.ref q0)])) rfl rfl (hb hby d14_5)
  refine own_st st2 ?_
  show Fin1 p e below s (rmG20Q Z a1 q0 x h0 n0) ({ frames := 1, cells := 0, slots := 0, locals := 15 } : Room).cells ({ frames := 1, cells := 0, slots := 0, locals := 15 } : Room).slots (T2.setTop (mkF m 8 #[.val (.ref a1), .val (.int (0 : Int32))] [(.ref x)]))
  exact own_retA X2 hx hlk hret rfl rfl (hb hby d14_8) (by rw [e2]; exact ⟨rfl, N1, rfl⟩) (by decide) (by decide)
def rmT20Q (Z : State) (a1 : Addr) (x : Addr) (q0 : Addr) (old : Addr) (pv : Value) (nv : Value) (h0 : Heap) (n0 : Nat) (v : Option Value) (h : Heap) (L : List Loc) : Prop := v = some (.ref old) ∧ Fr n0 L ∧ Keep h0 h [q0] ∧ Fld Z h q0 "com/example/listwright/listwright/LinkedStorage$Node" "element" "Ljava/lang/Object;" (.ref x) ∧ Fld Z h q0 "com/example/listwright/listwright/LinkedStorage$Node" "previous" "Lcom/example/listwright/listwright/LinkedStorage$Node;" pv ∧ Fld Z h q0 "com/example/listwright/listwright/LinkedStorage$Node" "next" "Lcom/example/listwright/listwright/LinkedStorage$Node;" nv
set_option maxRecDepth 65536 in
set_option maxHeartbeats 40000000 in
theorem rmT20 (l : Launch) (Z : State) (a0 : Array Value) (hw : ∀ d ∈ tables_1, d.before a0 Z = true) (a1 : Addr) (x : Addr) (q0 : Addr) (old : Addr) (pv : Value) (nv : Value) (h0 : Heap) (n0 : Nat) (Z0 : n0 ≤ h0.size) (g_q0 : n0 ≤ q0) (E_a1 : Exa Z h0 a1 "com/example/listwright/listwright/LinkedStorage") (E_q0 : Exa Z h0 q0 "com/example/listwright/listwright/LinkedStorage$Node") (Z_a1 : Fld Z h0 a1 "com/example/listwright/listwright/LinkedStorage" "size" "I" (.int (2 : Int32))) (C0 : Fld Z h0 a1 "com/example/listwright/listwright/LinkedStorage" "head" "Lcom/example/listwright/listwright/LinkedStorage$Node;" (.ref q0)) (Eq0 : Fld Z h0 q0 "com/example/listwright/listwright/LinkedStorage$Node" "element" "Ljava/lang/Object;" (.ref old)) (Pq0 : Fld Z h0 q0 "com/example/listwright/listwright/LinkedStorage$Node" "previous" "Lcom/example/listwright/listwright/LinkedStorage$Node;" pv) (Nq0 : Fld Z h0 q0 "com/example/listwright/listwright/LinkedStorage$Node" "next" "Lcom/example/listwright/listwright/LinkedStorage$Node;" nv) :
    Ct l Z [] (⟨"com/example/listwright/listwright/LinkedStorage", "set", "(ILjava/lang/Object;)Ljava/lang/Object;"⟩ : MethodName) prog_19_method_4_code 5 (some (.object "java/lang/Object")) ({ frames := 1, cells := 0, slots := 0, locals := 15 } : Room) #[(.ref a1), (.int (0 : Int32)), (.ref x)] h0 (rmT20Q Z a1 x q0 old pv nv h0 n0) := by
  refine own_enter (plainFor_of_name pn_5) ?_
  intro p e s m below meth c T0 X0 hx hby hml hZ hown hnm hret hlk e0
  have hown : s.vm.findClass "com/example/listwright/listwright/LinkedStorage" = some m.cls := hown
  have N0 := Fr.nil n0
  have K0 := Keep.refl h0 [q0]
  refine own_st (fun wt wk => castTop (g' := mkF m 0 #[.val (.ref a1), .val (.int (0 : Int32)), .val (.ref x), .unset, .unset] []) (by first | (simp [entryFrame, mkF, argsToLocals, Value.category]; done) | rfl) wk) ?_
  show Fin1 p e below s (rmT20Q Z a1 x q0 old pv nv h0 n0) ({ frames := 1, cells := 0, slots := 0, locals := 15 } : Room).cells ({ frames := 1, cells := 0, slots := 0, locals := 15 } : Room).slots (T0.setTop (mkF m 0 #[.val (.ref a1), .val (.int (0 : Int32)), .val (.ref x), .unset, .unset] []))
  refine own_st (fun wt wk => XS.aloadN X0.here hx rfl (hb hby d10_0) rfl rfl (XS.iloadN X0.here hx rfl (hb hby d10_1) rfl wk)) ?_
  show Fin1 p e below s (rmT20Q Z a1 x q0 old pv nv h0 n0) ({ frames := 1, cells := 0, slots := 0, locals := 15 } : Room).cells ({ frames := 1, cells := 0, slots := 0, locals := 15 } : Room).slots (T0.setTop (mkF m 2 #[.val (.ref a1), .val (.int (0 : Int32)), .val (.ref x), .unset, .unset] [(.int (0 : Int32)), (.ref a1)]))
  obtain ⟨v1, T1, h1, L1, X1, e1, hQ1, st1⟩ := own_private X0 hx hZ hown (hw _ (List.mem_of_getElem? (i := 55) rfl)) (hw _ (List.mem_of_getElem? (i := 56) rfl)) (hw _ (List.mem_of_getElem? (i := 3) rfl)) (hw _ (List.mem_of_getElem? (i := 57) rfl)) (hw _ (List.mem_of_getElem? (i := 58) rfl)) (hw _ (List.mem_of_getElem? (i := 4) rfl)) (by decide) (a := a1) E_a1 (rmA20 l Z a0 hw a1 q0 h0 n0 Z0 Z_a1 C0) e0 (g := (mkF m 2 #[.val (.ref a1), .val (.int (0 : Int32)), .val (.ref x), .unset, .unset] [(.int (0 : Int32)), (.ref a1)])) rfl (by rw [hml]; rfl) (argsL := [(.int (0 : Int32))]) (rest := []) (lenOf pd_9 rfl) rfl (W := 0) (by show 2 * 0 + _ ≤ _; exact Nat.le_of_eq rfl) (hb hby d10_2) (by decide) (by decide) (by decide) (by decide)
  obtain ⟨rfl, N1q, hh1⟩ := hQ1
  have N1 := Fr.app N0 N1q
  rw [hh1] at e1
  refine own_st st1 ?_
  show Fin1 p e below s (rmT20Q Z a1 x q0 old pv nv h0 n0) ({ frames := 1, cells := 0, slots := 0, locals := 15 } : Room).cells ({ frames := 1, cells := 0, slots := 0, locals := 15 } : Room).slots (T1.setTop (mkF m 5 #[.val (.ref a1), .val (.int (0 : Int32)), .val (.ref x), .unset, .unset] [(.ref q0)]))
  refine own_st (fun wt wk => XS.astoreN X1.here hx rfl (hb hby d10_5) rfl rfl (l' := #[.val (.ref a1), .val (.int (0 : Int32)), .val (.ref x), .val (.ref q0), .unset]) rfl (XS.aloadN X1.here hx rfl (hb hby d10_6) rfl rfl wk)) ?_
  show Fin1 p e below s (rmT20Q Z a1 x q0 old pv nv h0 n0) ({ frames := 1, cells := 0, slots := 0, locals := 15 } : Room).cells ({ frames := 1, cells := 0, slots := 0, locals := 15 } : Room).slots (T1.setTop (mkF m 7 #[.val (.ref a1), .val (.int (0 : Int32)), .val (.ref x), .val (.ref q0), .unset] [(.ref q0)]))
  obtain ⟨T2, X2, e2, st2⟩ := own_getRef X1 hx hZ hown (hw _ (List.mem_of_getElem? (i := 64) rfl)) e1 Eq0 (g := (mkF m 7 #[.val (.ref a1), .val (.int (0 : Int32)), .val (.ref x), .val (.ref q0), .unset] [(.ref q0)])) rfl rfl (hb hby d10_7)
  refine own_st st2 ?_
  show Fin1 p e below s (rmT20Q Z a1 x q0 old pv nv h0 n0) ({ frames := 1, cells := 0, slots := 0, locals := 15 } : Room).cells ({ frames := 1, cells := 0, slots := 0, locals := 15 } : Room).slots (T2.setTop (mkF m 10 #[.val (.ref a1), .val (.int (0 : Int32)), .val (.ref x), .val (.ref q0), .unset] [(.ref old)]))
  refine own_st (fun wt wk => XS.astore X2.here hx rfl (hb hby d10_10) rfl rfl (l' := #[.val (.ref a1), .val (.int (0 : Int32)), .val (.ref x), .val (.ref q0), .val (.ref old)]) rfl (XS.aloadN X2.here hx rfl (hb hby d10_12) rfl rfl (XS.aloadN X2.here hx rfl (hb hby d10_13) rfl rfl wk))) ?_
  show Fin1 p e below s (rmT20Q Z a1 x q0 old pv nv h0 n0) ({ frames := 1, cells := 0, slots := 0, locals := 15 } : Room).cells ({ frames := 1, cells := 0, slots := 0, locals := 15 } : Room).slots (T2.setTop (mkF m 14 #[.val (.ref a1), .val (.int (0 : Int32)), .val (.ref x), .val (.ref q0), .val (.ref old)] [(.ref x), (.ref q0)]))
  obtain ⟨T3, h3, X3, e3, W3, st3⟩ := own_putRef X2 hx hZ hown (hw _ (List.mem_of_getElem? (i := 64) rfl)) e2 Eq0 E_q0 (hw _ (List.mem_of_getElem? (i := 42) rfl)) (hw _ (List.mem_of_getElem? (i := 35) rfl)) (ty := (.object "java/lang/Object")) (by decide) rfl rfl (g := (mkF m 14 #[.val (.ref a1), .val (.int (0 : Int32)), .val (.ref x), .val (.ref q0), .val (.ref old)] [(.ref x), (.ref q0)])) rfl rfl (hb hby d10_14)
  refine own_st st3 ?_
  have N3 := Fr.snoc X3 N1 g_q0
  have Z0 := Nat.le_trans Z0 (Nat.le_of_eq W3.size.symm)
  have K0 := K0.wr W3 (Or.inl (List.mem_of_getElem? (i := 0) rfl))
  have E_q0 := E_q0.wr W3
  have Eq0 := Eq0.same W3
  have Pq0 := Pq0.other W3 (Or.inr (slot_ne (Or.inl (hw _ (List.mem_of_getElem? (i := 48) rfl))) (Or.inl (hw _ (List.mem_of_getElem? (i := 42) rfl))) (by decide) (t := (.object "com/example/listwright/listwright/LinkedStorage$Node")) (t' := (.object "java/lang/Object")) (by decide) (by decide)))
  have Nq0 := Nq0.other W3 (Or.inr (slot_ne (Or.inl (hw _ (List.mem_of_getElem? (i := 50) rfl))) (Or.inl (hw _ (List.mem_of_getElem? (i := 42) rfl))) (by decide) (t := (.object "com/example/listwright/listwright/LinkedStorage$Node")) (t' := (.object "java/lang/Object")) (by decide) (by decide)))
  show Fin1 p e below s (rmT20Q Z a1 x q0 old pv nv h0 n0) ({ frames := 1, cells := 0, slots := 0, locals := 15 } : Room).cells ({ frames := 1, cells := 0, slots := 0, locals := 15 } : Room).slots (T3.setTop (mkF m 17 #[.val (.ref a1), .val (.int (0 : Int32)), .val (.ref x), .val (.ref q0), .val (.ref old)] []))
  refine own_st (fun wt wk => XS.aload X3.here hx rfl (hb hby d10_17) rfl rfl wk) ?_
  show Fin1 p e below s (rmT20Q Z a1 x q0 old pv nv h0 n0) ({ frames := 1, cells := 0, slots := 0, locals := 15 } : Room).cells ({ frames := 1, cells := 0, slots := 0, locals := 15 } : Room).slots (T3.setTop (mkF m 19 #[.val (.ref a1), .val (.int (0 : Int32)), .val (.ref x), .val (.ref q0), .val (.ref old)] [(.ref old)]))
  exact own_retA X3 hx hlk hret rfl rfl (hb hby d10_19) (by rw [e3]; exact ⟨rfl, N3, K0, Eq0, Pq0, Nq0⟩) (by decide) (by decide)
def rmA21Q (Z : State) (a1 : Addr) (q1 : Addr) (h0 : Heap) (n0 : Nat) (v : Option Value) (h : Heap) (L : List Loc) : Prop := v = some (.ref q1) ∧ Fr n0 L ∧ h = h0
set_option maxRecDepth 65536 in
set_option maxHeartbeats 40000000 in
theorem rmA21 (l : Launch) (Z : State) (a0 : Array Value) (hw : ∀ d ∈ tables_1, d.before a0 Z = true) (a1 : Addr) (q1 : Addr) (h0 : Heap) (n0 : Nat) (Z0 : n0 ≤ h0.size) (Z_a1 : Fld Z h0 a1 "com/example/listwright/listwright/LinkedStorage" "size" "I" (.int (2 : Int32))) (C0 : Fld Z h0 a1 "com/example/listwright/listwright/LinkedStorage" "tail" "Lcom/example/listwright/listwright/LinkedStorage$Node;" (.ref q1)) :
    Ct l Z [] (⟨"com/example/listwright/listwright/LinkedStorage", "nodeAt", "(I)Lcom/example/listwright/listwright/LinkedStorage$Node;"⟩ : MethodName) prog_19_method_16_code 4 (some (.object "com/example/listwright/listwright/LinkedStorage$Node")) ({ frames := 0, cells := 0, slots := 0, locals := 0 } : Room) #[(.ref a1), (.int (1 : Int32))] h0 (rmA21Q Z a1 q1 h0 n0) := by
  refine own_enter (plainFor_of_name pn_5) ?_
  intro p e s m below meth c T0 X0 hx hby hml hZ hown hnm hret hlk e0
  have hown : s.vm.findClass "com/example/listwright/listwright/LinkedStorage" = some m.cls := hown
  have N0 := Fr.nil n0
  have K0 := Keep.refl h0 []
  refine own_st (fun wt wk => castTop (g' := mkF m 0 #[.val (.ref a1), .val (.int (1 : Int32)), .unset, .unset] []) (by first | (simp [entryFrame, mkF, argsToLocals, Value.category]; done) | rfl) wk) ?_
  show Fin1 p e below s (rmA21Q Z a1 q1 h0 n0) ({ frames := 0, cells := 0, slots := 0, locals := 0 } : Room).cells ({ frames := 0, cells := 0, slots := 0, locals := 0 } : Room).slots (T0.setTop (mkF m 0 #[.val (.ref a1), .val (.int (1 : Int32)), .unset, .unset] []))
  refine own_st (fun wt wk => XS.iloadN X0.here hx rfl (hb hby d9_0) rfl (XS.aloadN X0.here hx rfl (hb hby d9_1) rfl rfl wk)) ?_
  show Fin1 p e below s (rmA21Q Z a1 q1 h0 n0) ({ frames := 0, cells := 0, slots := 0, locals := 0 } : Room).cells ({ frames := 0, cells := 0, slots := 0, locals := 0 } : Room).slots (T0.setTop (mkF m 2 #[.val (.ref a1), .val (.int (1 : Int32)), .unset, .unset] [(.ref a1), (.int (1 : Int32))]))
  obtain ⟨T1, X1, e1, st1⟩ := getF X0 hx hZ hown (host := "") (Or.inl (hw _ (List.mem_of_getElem? (i := 53) rfl))) Via.refl e0 Z_a1 (g := (mkF m 2 #[.val (.ref a1), .val (.int (1 : Int32)), .unset, .unset] [(.ref a1), (.int (1 : Int32))])) rfl rfl (hb hby d9_2)
  refine own_st st1 ?_
  show Fin1 p e below s (rmA21Q Z a1 q1 h0 n0) ({ frames := 0, cells := 0, slots := 0, locals := 0 } : Room).cells ({ frames := 0, cells := 0, slots := 0, locals := 0 } : Room).slots (T1.setTop (mkF m 5 #[.val (.ref a1), .val (.int (1 : Int32)), .unset, .unset] [(.int (2 : Int32)), (.int (1 : Int32))]))
  refine own_st (fun wt wk => XS.iconst X1.here hx rfl (hb hby d9_5) wk) ?_
  show Fin1 p e below s (rmA21Q Z a1 q1 h0 n0) ({ frames := 0, cells := 0, slots := 0, locals := 0 } : Room).cells ({ frames := 0, cells := 0, slots := 0, locals := 0 } : Room).slots (T1.setTop (mkF m 6 #[.val (.ref a1), .val (.int (1 : Int32)), .unset, .unset] [(.int (2 : Int32)), (.int (2 : Int32)), (.int (1 : Int32))]))
  refine own_st (fun wt wk => XS.idiv X1.here hx rfl (hb hby d9_6) rfl (by decide) wk) ?_
  show Fin1 p e below s (rmA21Q Z a1 q1 h0 n0) ({ frames := 0, cells := 0, slots := 0, locals := 0 } : Room).cells ({ frames := 0, cells := 0, slots := 0, locals := 0 } : Room).slots (T1.setTop (mkF m 7 #[.val (.ref a1), .val (.int (1 : Int32)), .unset, .unset] [(.int ((2 : Int32) / (2 : Int32))), (.int (1 : Int32))]))
  rw [show ((2 : Int32) / (2 : Int32)) = (1 : Int32) from by decide]
  show Fin1 p e below s (rmA21Q Z a1 q1 h0 n0) ({ frames := 0, cells := 0, slots := 0, locals := 0 } : Room).cells ({ frames := 0, cells := 0, slots := 0, locals := 0 } : Room).slots (T1.setTop (mkF m 7 #[.val (.ref a1), .val (.int (1 : Int32)), .unset, .unset] [(.int (1 : Int32)), (.int (1 : Int32))]))
  refine own_st (fun wt wk => XS.icmpYes X1.here hx rfl (pc0 := 7) (pc' := 36) rfl (hb hby d9_7) rfl (flt (by decide)).2.1 (by decide) (by decide) wk) ?_
  show Fin1 p e below s (rmA21Q Z a1 q1 h0 n0) ({ frames := 0, cells := 0, slots := 0, locals := 0 } : Room).cells ({ frames := 0, cells := 0, slots := 0, locals := 0 } : Room).slots (T1.setTop (mkF m 36 #[.val (.ref a1), .val (.int (1 : Int32)), .unset, .unset] []))
  refine own_st (fun wt wk => XS.aloadN X1.here hx rfl (hb hby d9_36) rfl rfl wk) ?_
  show Fin1 p e below s (rmA21Q Z a1 q1 h0 n0) ({ frames := 0, cells := 0, slots := 0, locals := 0 } : Room).cells ({ frames := 0, cells := 0, slots := 0, locals := 0 } : Room).slots (T1.setTop (mkF m 37 #[.val (.ref a1), .val (.int (1 : Int32)), .unset, .unset] [(.ref a1)]))
  obtain ⟨T2, X2, e2, st2⟩ := getF X1 hx hZ hown (host := "") (Or.inl (hw _ (List.mem_of_getElem? (i := 51) rfl))) Via.refl e1 C0 (g := (mkF m 37 #[.val (.ref a1), .val (.int (1 : Int32)), .unset, .unset] [(.ref a1)])) rfl rfl (hb hby d9_37)
  refine own_st st2 ?_
  show Fin1 p e below s (rmA21Q Z a1 q1 h0 n0) ({ frames := 0, cells := 0, slots := 0, locals := 0 } : Room).cells ({ frames := 0, cells := 0, slots := 0, locals := 0 } : Room).slots (T2.setTop (mkF m 40 #[.val (.ref a1), .val (.int (1 : Int32)), .unset, .unset] [(.ref q1)]))
  refine own_st (fun wt wk => XS.astoreN X2.here hx rfl (hb hby d9_40) rfl rfl (l' := #[.val (.ref a1), .val (.int (1 : Int32)), .val (.ref q1), .unset]) rfl (XS.aloadN X2.here hx rfl (hb hby d9_41) rfl rfl wk)) ?_
  show Fin1 p e below s (rmA21Q Z a1 q1 h0 n0) ({ frames := 0, cells := 0, slots := 0, locals := 0 } : Room).cells ({ frames := 0, cells := 0, slots := 0, locals := 0 } : Room).slots (T2.setTop (mkF m 42 #[.val (.ref a1), .val (.int (1 : Int32)), .val (.ref q1), .unset] [(.ref a1)]))
  obtain ⟨T3, X3, e3, st3⟩ := getF X2 hx hZ hown (host := "") (Or.inl (hw _ (List.mem_of_getElem? (i := 53) rfl))) Via.refl e2 Z_a1 (g := (mkF m 42 #[.val (.ref a1), .val (.int (1 : Int32)), .val (.ref q1), .unset] [(.ref a1)])) rfl rfl (hb hby d9_42)
  refine own_st st3 ?_
  show Fin1 p e below s (rmA21Q Z a1 q1 h0 n0) ({ frames := 0, cells := 0, slots := 0, locals := 0 } : Room).cells ({ frames := 0, cells := 0, slots := 0, locals := 0 } : Room).slots (T3.setTop (mkF m 45 #[.val (.ref a1), .val (.int (1 : Int32)), .val (.ref q1), .unset] [(.int (2 : Int32))]))
  refine own_st (fun wt wk => XS.iconst X3.here hx rfl (hb hby d9_45) (XS.isub X3.here hx rfl (hb hby d9_46) rfl wk)) ?_
  show Fin1 p e below s (rmA21Q Z a1 q1 h0 n0) ({ frames := 0, cells := 0, slots := 0, locals := 0 } : Room).cells ({ frames := 0, cells := 0, slots := 0, locals := 0 } : Room).slots (T3.setTop (mkF m 47 #[.val (.ref a1), .val (.int (1 : Int32)), .val (.ref q1), .unset] [(.int ((2 : Int32) - (1 : Int32)))]))
  rw [show ((2 : Int32) - (1 : Int32)) = (1 : Int32) from by decide]
  show Fin1 p e below s (rmA21Q Z a1 q1 h0 n0) ({ frames := 0, cells := 0, slots := 0, locals := 0 } : Room).cells ({ frames := 0, cells := 0, slots := 0, locals := 0 } : Room).slots (T3.setTop (mkF m 47 #[.val (.ref a1), .val (.int (1 : Int32)), .val (.ref q1), .unset] [(.int (1 : Int32))]))
  refine own_st (fun wt wk => XS.istoreN X3.here hx rfl (hb hby d9_47) rfl (l' := #[.val (.ref a1), .val (.int (1 : Int32)), .val (.ref q1), .val (.int (1 : Int32))]) rfl (XS.iloadN X3.here hx rfl (hb hby d9_48) rfl (XS.iloadN X3.here hx rfl (hb hby d9_49) rfl wk))) ?_
  show Fin1 p e below s (rmA21Q Z a1 q1 h0 n0) ({ frames := 0, cells := 0, slots := 0, locals := 0 } : Room).cells ({ frames := 0, cells := 0, slots := 0, locals := 0 } : Room).slots (T3.setTop (mkF m 50 #[.val (.ref a1), .val (.int (1 : Int32)), .val (.ref q1), .val (.int (1 : Int32))] [(.int (1 : Int32)), (.int (1 : Int32))]))
  refine own_st (fun wt wk => XS.icmpYes X3.here hx rfl (pc0 := 50) (pc' := 64) rfl (hb hby d9_50) rfl (flt (by decide)).2.2.2 (by decide) (by decide) wk) ?_
  show Fin1 p e below s (rmA21Q Z a1 q1 h0 n0) ({ frames := 0, cells := 0, slots := 0, locals := 0 } : Room).cells ({ frames := 0, cells := 0, slots := 0, locals := 0 } : Room).slots (T3.setTop (mkF m 64 #[.val (.ref a1), .val (.int (1 : Int32)), .val (.ref q1), .val (.int (1 : Int32))] []))
  refine own_st (fun wt wk => XS.aloadN X3.here hx rfl (hb hby d9_64) rfl rfl wk) ?_
  show Fin1 p e below s (rmA21Q Z a1 q1 h0 n0) ({ frames := 0, cells := 0, slots := 0, locals := 0 } : Room).cells ({ frames := 0, cells := 0, slots := 0, locals := 0 } : Room).slots (T3.setTop (mkF m 65 #[.val (.ref a1), .val (.int (1 : Int32)), .val (.ref q1), .val (.int (1 : Int32))] [(.ref q1)]))
  exact own_retA X3 hx hlk hret rfl rfl (hb hby d9_65) (by rw [e3]; exact ⟨rfl, N0, rfl⟩) (by decide) (by decide)
def rmG21Q (Z : State) (a1 : Addr) (q1 : Addr) (x : Addr) (h0 : Heap) (n0 : Nat) (v : Option Value) (h : Heap) (L : List Loc) : Prop := v = some (.ref x) ∧ Fr n0 L ∧ h = h0
set_option maxRecDepth 65536 in
set_option maxHeartbeats 40000000 in
theorem rmG21 (l : Launch) (Z : State) (a0 : Array Value) (hw : ∀ d ∈ tables_1, d.before a0 Z = true) (a1 : Addr) (q1 : Addr) (x : Addr) (h0 : Heap) (n0 : Nat) (Z0 : n0 ≤ h0.size) (E_a1 : Exa Z h0 a1 "com/example/listwright/listwright/LinkedStorage") (Z_a1 : Fld Z h0 a1 "com/example/listwright/listwright/LinkedStorage" "size" "I" (.int (2 : Int32))) (C0 : Fld Z h0 a1 "com/example/listwright/listwright/LinkedStorage" "tail" "Lcom/example/listwright/listwright/LinkedStorage$Node;" (.ref q1)) (El : Fld Z h0 q1 "com/example/listwright/listwright/LinkedStorage$Node" "element" "Ljava/lang/Object;" (.ref x)) :
    Ct l Z [] (⟨"com/example/listwright/listwright/LinkedStorage", "get", "(I)Ljava/lang/Object;"⟩ : MethodName) prog_19_method_3_code 2 (some (.object "java/lang/Object")) ({ frames := 1, cells := 0, slots := 0, locals := 15 } : Room) #[(.ref a1), (.int (1 : Int32))] h0 (rmG21Q Z a1 q1 x h0 n0) := by
  refine own_enter (plainFor_of_name pn_5) ?_
  intro p e s m below meth c T0 X0 hx hby hml hZ hown hnm hret hlk e0
  have hown : s.vm.findClass "com/example/listwright/listwright/LinkedStorage" = some m.cls := hown
  have N0 := Fr.nil n0
  have K0 := Keep.refl h0 []
  refine own_st (fun wt wk => castTop (g' := mkF m 0 #[.val (.ref a1), .val (.int (1 : Int32))] []) (by first | (simp [entryFrame, mkF, argsToLocals, Value.category]; done) | rfl) wk) ?_
  show Fin1 p e below s (rmG21Q Z a1 q1 x h0 n0) ({ frames := 1, cells := 0, slots := 0, locals := 15 } : Room).cells ({ frames := 1, cells := 0, slots := 0, locals := 15 } : Room).slots (T0.setTop (mkF m 0 #[.val (.ref a1), .val (.int (1 : Int32))] []))
  refine own_st (fun wt wk => XS.aloadN X0.here hx rfl (hb hby d14_0) rfl rfl (XS.iloadN X0.here hx rfl (hb hby d14_1) rfl wk)) ?_
  show Fin1 p e below s (rmG21Q Z a1 q1 x h0 n0) ({ frames := 1, cells := 0, slots := 0, locals := 15 } : Room).cells ({ frames := 1, cells := 0, slots := 0, locals := 15 } : Room).slots (T0.setTop (mkF m 2 #[.val (.ref a1), .val (.int (1 : Int32))] [(.int (1 : Int32)), (.ref a1)]))
  obtain ⟨v1, T1, h1, L1, X1, e1, hQ1, st1⟩ := own_private X0 hx hZ hown (hw _ (List.mem_of_getElem? (i := 55) rfl)) (hw _ (List.mem_of_getElem? (i := 56) rfl)) (hw _ (List.mem_of_getElem? (i := 3) rfl)) (hw _ (List.mem_of_getElem? (i := 57) rfl)) (hw _ (List.mem_of_getElem? (i := 58) rfl)) (hw _ (List.mem_of_getElem? (i := 4) rfl)) (by decide) (a := a1) E_a1 (rmA21 l Z a0 hw a1 q1 h0 n0 Z0 Z_a1 C0) e0 (g := (mkF m 2 #[.val (.ref a1), .val (.int (1 : Int32))] [(.int (1 : Int32)), (.ref a1)])) rfl (by rw [hml]; rfl) (argsL := [(.int (1 : Int32))]) (rest := []) (lenOf pd_9 rfl) rfl (W := 0) (by show 2 * 0 + _ ≤ _; exact Nat.le_of_eq rfl) (hb hby d14_2) (by decide) (by decide) (by decide) (by decide)
  obtain ⟨rfl, N1q, hh1⟩ := hQ1
  have N1 := Fr.app N0 N1q
  rw [hh1] at e1
  refine own_st st1 ?_
  show Fin1 p e below s (rmG21Q Z a1 q1 x h0 n0) ({ frames := 1, cells := 0, slots := 0, locals := 15 } : Room).cells ({ frames := 1, cells := 0, slots := 0, locals := 15 } : Room).slots (T1.setTop (mkF m 5 #[.val (.ref a1), .val (.int (1 : Int32))] [(.ref q1)]))
  obtain ⟨T2, X2, e2, st2⟩ := own_getRef X1 hx hZ hown (hw _ (List.mem_of_getElem? (i := 64) rfl)) e1 El (g := (mkF m 5 #[.val (.ref a1), .val (.int (1 : Int32))] [(.ref q1)])) rfl rfl (hb hby d14_5)
  refine own_st st2 ?_
  show Fin1 p e below s (rmG21Q Z a1 q1 x h0 n0) ({ frames := 1, cells := 0, slots := 0, locals := 15 } : Room).cells ({ frames := 1, cells := 0, slots := 0, locals := 15 } : Room).slots (T2.setTop (mkF m 8 #[.val (.ref a1), .val (.int (1 : Int32))] [(.ref x)]))
  exact own_retA X2 hx hlk hret rfl rfl (hb hby d14_8) (by rw [e2]; exact ⟨rfl, N1, rfl⟩) (by decide) (by decide)
def rmT21Q (Z : State) (a1 : Addr) (x : Addr) (q1 : Addr) (old : Addr) (pv : Value) (nv : Value) (h0 : Heap) (n0 : Nat) (v : Option Value) (h : Heap) (L : List Loc) : Prop := v = some (.ref old) ∧ Fr n0 L ∧ Keep h0 h [q1] ∧ Fld Z h q1 "com/example/listwright/listwright/LinkedStorage$Node" "element" "Ljava/lang/Object;" (.ref x) ∧ Fld Z h q1 "com/example/listwright/listwright/LinkedStorage$Node" "previous" "Lcom/example/listwright/listwright/LinkedStorage$Node;" pv ∧ Fld Z h q1 "com/example/listwright/listwright/LinkedStorage$Node" "next" "Lcom/example/listwright/listwright/LinkedStorage$Node;" nv
set_option maxRecDepth 65536 in
set_option maxHeartbeats 40000000 in
theorem rmT21 (l : Launch) (Z : State) (a0 : Array Value) (hw : ∀ d ∈ tables_1, d.before a0 Z = true) (a1 : Addr) (x : Addr) (q1 : Addr) (old : Addr) (pv : Value) (nv : Value) (h0 : Heap) (n0 : Nat) (Z0 : n0 ≤ h0.size) (g_q1 : n0 ≤ q1) (E_a1 : Exa Z h0 a1 "com/example/listwright/listwright/LinkedStorage") (E_q1 : Exa Z h0 q1 "com/example/listwright/listwright/LinkedStorage$Node") (Z_a1 : Fld Z h0 a1 "com/example/listwright/listwright/LinkedStorage" "size" "I" (.int (2 : Int32))) (C0 : Fld Z h0 a1 "com/example/listwright/listwright/LinkedStorage" "tail" "Lcom/example/listwright/listwright/LinkedStorage$Node;" (.ref q1)) (Eq1 : Fld Z h0 q1 "com/example/listwright/listwright/LinkedStorage$Node" "element" "Ljava/lang/Object;" (.ref old)) (Pq1 : Fld Z h0 q1 "com/example/listwright/listwright/LinkedStorage$Node" "previous" "Lcom/example/listwright/listwright/LinkedStorage$Node;" pv) (Nq1 : Fld Z h0 q1 "com/example/listwright/listwright/LinkedStorage$Node" "next" "Lcom/example/listwright/listwright/LinkedStorage$Node;" nv) :
    Ct l Z [] (⟨"com/example/listwright/listwright/LinkedStorage", "set", "(ILjava/lang/Object;)Ljava/lang/Object;"⟩ : MethodName) prog_19_method_4_code 5 (some (.object "java/lang/Object")) ({ frames := 1, cells := 0, slots := 0, locals := 15 } : Room) #[(.ref a1), (.int (1 : Int32)), (.ref x)] h0 (rmT21Q Z a1 x q1 old pv nv h0 n0) := by
  refine own_enter (plainFor_of_name pn_5) ?_
  intro p e s m below meth c T0 X0 hx hby hml hZ hown hnm hret hlk e0
  have hown : s.vm.findClass "com/example/listwright/listwright/LinkedStorage" = some m.cls := hown
  have N0 := Fr.nil n0
  have K0 := Keep.refl h0 [q1]
  refine own_st (fun wt wk => castTop (g' := mkF m 0 #[.val (.ref a1), .val (.int (1 : Int32)), .val (.ref x), .unset, .unset] []) (by first | (simp [entryFrame, mkF, argsToLocals, Value.category]; done) | rfl) wk) ?_
  show Fin1 p e below s (rmT21Q Z a1 x q1 old pv nv h0 n0) ({ frames := 1, cells := 0, slots := 0, locals := 15 } : Room).cells ({ frames := 1, cells := 0, slots := 0, locals := 15 } : Room).slots (T0.setTop (mkF m 0 #[.val (.ref a1), .val (.int (1 : Int32)), .val (.ref x), .unset, .unset] []))
  refine own_st (fun wt wk => XS.aloadN X0.here hx rfl (hb hby d10_0) rfl rfl (XS.iloadN X0.here hx rfl (hb hby d10_1) rfl wk)) ?_
  show Fin1 p e below s (rmT21Q Z a1 x q1 old pv nv h0 n0) ({ frames := 1, cells := 0, slots := 0, locals := 15 } : Room).cells ({ frames := 1, cells := 0, slots := 0, locals := 15 } : Room).slots (T0.setTop (mkF m 2 #[.val (.ref a1), .val (.int (1 : Int32)), .val (.ref x), .unset, .unset] [(.int (1 : Int32)), (.ref a1)]))
  obtain ⟨v1, T1, h1, L1, X1, e1, hQ1, st1⟩ := own_private X0 hx hZ hown (hw _ (List.mem_of_getElem? (i := 55) rfl)) (hw _ (List.mem_of_getElem? (i := 56) rfl)) (hw _ (List.mem_of_getElem? (i := 3) rfl)) (hw _ (List.mem_of_getElem? (i := 57) rfl)) (hw _ (List.mem_of_getElem? (i := 58) rfl)) (hw _ (List.mem_of_getElem? (i := 4) rfl)) (by decide) (a := a1) E_a1 (rmA21 l Z a0 hw a1 q1 h0 n0 Z0 Z_a1 C0) e0 (g := (mkF m 2 #[.val (.ref a1), .val (.int (1 : Int32)), .val (.ref x), .unset, .unset] [(.int (1 : Int32)), (.ref a1)])) rfl (by rw [hml]; rfl) (argsL := [(.int (1 : Int32))]) (rest := []) (lenOf pd_9 rfl) rfl (W := 0) (by show 2 * 0 + _ ≤ _; exact Nat.le_of_eq rfl) (hb hby d10_2) (by decide) (by decide) (by decide) (by decide)
  obtain ⟨rfl, N1q, hh1⟩ := hQ1
  have N1 := Fr.app N0 N1q
  rw [hh1] at e1
  refine own_st st1 ?_
  show Fin1 p e below s (rmT21Q Z a1 x q1 old pv nv h0 n0) ({ frames := 1, cells := 0, slots := 0, locals := 15 } : Room).cells ({ frames := 1, cells := 0, slots := 0, locals := 15 } : Room).slots (T1.setTop (mkF m 5 #[.val (.ref a1), .val (.int (1 : Int32)), .val (.ref x), .unset, .unset] [(.ref q1)]))
  refine own_st (fun wt wk => XS.astoreN X1.here hx rfl (hb hby d10_5) rfl rfl (l' := #[.val (.ref a1), .val (.int (1 : Int32)), .val (.ref x), .val (.ref q1), .unset]) rfl (XS.aloadN X1.here hx rfl (hb hby d10_6) rfl rfl wk)) ?_
  show Fin1 p e below s (rmT21Q Z a1 x q1 old pv nv h0 n0) ({ frames := 1, cells := 0, slots := 0, locals := 15 } : Room).cells ({ frames := 1, cells := 0, slots := 0, locals := 15 } : Room).slots (T1.setTop (mkF m 7 #[.val (.ref a1), .val (.int (1 : Int32)), .val (.ref x), .val (.ref q1), .unset] [(.ref q1)]))
  obtain ⟨T2, X2, e2, st2⟩ := own_getRef X1 hx hZ hown (hw _ (List.mem_of_getElem? (i := 64) rfl)) e1 Eq1 (g := (mkF m 7 #[.val (.ref a1), .val (.int (1 : Int32)), .val (.ref x), .val (.ref q1), .unset] [(.ref q1)])) rfl rfl (hb hby d10_7)
  refine own_st st2 ?_
  show Fin1 p e below s (rmT21Q Z a1 x q1 old pv nv h0 n0) ({ frames := 1, cells := 0, slots := 0, locals := 15 } : Room).cells ({ frames := 1, cells := 0, slots := 0, locals := 15 } : Room).slots (T2.setTop (mkF m 10 #[.val (.ref a1), .val (.int (1 : Int32)), .val (.ref x), .val (.ref q1), .unset] [(.ref old)]))
  refine own_st (fun wt wk => XS.astore X2.here hx rfl (hb hby d10_10) rfl rfl (l' := #[.val (.ref a1), .val (.int (1 : Int32)), .val (.ref x), .val (.ref q1), .val (.ref old)]) rfl (XS.aloadN X2.here hx rfl (hb hby d10_12) rfl rfl (XS.aloadN X2.here hx rfl (hb hby d10_13) rfl rfl wk))) ?_
  show Fin1 p e below s (rmT21Q Z a1 x q1 old pv nv h0 n0) ({ frames := 1, cells := 0, slots := 0, locals := 15 } : Room).cells ({ frames := 1, cells := 0, slots := 0, locals := 15 } : Room).slots (T2.setTop (mkF m 14 #[.val (.ref a1), .val (.int (1 : Int32)), .val (.ref x), .val (.ref q1), .val (.ref old)] [(.ref x), (.ref q1)]))
  obtain ⟨T3, h3, X3, e3, W3, st3⟩ := own_putRef X2 hx hZ hown (hw _ (List.mem_of_getElem? (i := 64) rfl)) e2 Eq1 E_q1 (hw _ (List.mem_of_getElem? (i := 42) rfl)) (hw _ (List.mem_of_getElem? (i := 35) rfl)) (ty := (.object "java/lang/Object")) (by decide) rfl rfl (g := (mkF m 14 #[.val (.ref a1), .val (.int (1 : Int32)), .val (.ref x), .val (.ref q1), .val (.ref old)] [(.ref x), (.ref q1)])) rfl rfl (hb hby d10_14)
  refine own_st st3 ?_
  have N3 := Fr.snoc X3 N1 g_q1
  have Z0 := Nat.le_trans Z0 (Nat.le_of_eq W3.size.symm)
  have K0 := K0.wr W3 (Or.inl (List.mem_of_getElem? (i := 0) rfl))
  have E_q1 := E_q1.wr W3
  have Eq1 := Eq1.same W3
  have Pq1 := Pq1.other W3 (Or.inr (slot_ne (Or.inl (hw _ (List.mem_of_getElem? (i := 48) rfl))) (Or.inl (hw _ (List.mem_of_getElem? (i := 42) rfl))) (by decide) (t := (.object "com/example/listwright/listwright/LinkedStorage$Node")) (t' := (.object "java/lang/Object")) (by decide) (by decide)))
  have Nq1 := Nq1.other W3 (Or.inr (slot_ne (Or.inl (hw _ (List.mem_of_getElem? (i := 50) rfl))) (Or.inl (hw _ (List.mem_of_getElem? (i := 42) rfl))) (by decide) (t := (.object "com/example/listwright/listwright/LinkedStorage$Node")) (t' := (.object "java/lang/Object")) (by decide) (by decide)))
  show Fin1 p e below s (rmT21Q Z a1 x q1 old pv nv h0 n0) ({ frames := 1, cells := 0, slots := 0, locals := 15 } : Room).cells ({ frames := 1, cells := 0, slots := 0, locals := 15 } : Room).slots (T3.setTop (mkF m 17 #[.val (.ref a1), .val (.int (1 : Int32)), .val (.ref x), .val (.ref q1), .val (.ref old)] []))
  refine own_st (fun wt wk => XS.aload X3.here hx rfl (hb hby d10_17) rfl rfl wk) ?_
  show Fin1 p e below s (rmT21Q Z a1 x q1 old pv nv h0 n0) ({ frames := 1, cells := 0, slots := 0, locals := 15 } : Room).cells ({ frames := 1, cells := 0, slots := 0, locals := 15 } : Room).slots (T3.setTop (mkF m 19 #[.val (.ref a1), .val (.int (1 : Int32)), .val (.ref x), .val (.ref q1), .val (.ref old)] [(.ref old)]))
  exact own_retA X3 hx hlk hret rfl rfl (hb hby d10_19) (by rw [e3]; exact ⟨rfl, N3, K0, Eq1, Pq1, Nq1⟩) (by decide) (by decide)
def rmA30Q (Z : State) (a1 : Addr) (q0 : Addr) (h0 : Heap) (n0 : Nat) (v : Option Value) (h : Heap) (L : List Loc) : Prop := v = some (.ref q0) ∧ Fr n0 L ∧ h = h0
set_option maxRecDepth 65536 in
set_option maxHeartbeats 40000000 in
theorem rmA30 (l : Launch) (Z : State) (a0 : Array Value) (hw : ∀ d ∈ tables_1, d.before a0 Z = true) (a1 : Addr) (q0 : Addr) (h0 : Heap) (n0 : Nat) (Z0 : n0 ≤ h0.size) (Z_a1 : Fld Z h0 a1 "com/example/listwright/listwright/LinkedStorage" "size" "I" (.int (3 : Int32))) (C0 : Fld Z h0 a1 "com/example/listwright/listwright/LinkedStorage" "head" "Lcom/example/listwright/listwright/LinkedStorage$Node;" (.ref q0)) :
    Ct l Z [] (⟨"com/example/listwright/listwright/LinkedStorage", "nodeAt", "(I)Lcom/example/listwright/listwright/LinkedStorage$Node;"⟩ : MethodName) prog_19_method_16_code 4 (some (.object "com/example/listwright/listwright/LinkedStorage$Node")) ({ frames := 0, cells := 0, slots := 0, locals := 0 } : Room) #[(.ref a1), (.int (0 : Int32))] h0 (rmA30Q Z a1 q0 h0 n0) := by
  refine own_enter (plainFor_of_name pn_5) ?_
  intro p e s m below meth c T0 X0 hx hby hml hZ hown hnm hret hlk e0
  have hown : s.vm.findClass "com/example/listwright/listwright/LinkedStorage" = some m.cls := hown
  have N0 := Fr.nil n0
  have K0 := Keep.refl h0 []
  refine own_st (fun wt wk => castTop (g' := mkF m 0 #[.val (.ref a1), .val (.int (0 : Int32)), .unset, .unset] []) (by first | (simp [entryFrame, mkF, argsToLocals, Value.category]; done) | rfl) wk) ?_
  show Fin1 p e below s (rmA30Q Z a1 q0 h0 n0) ({ frames := 0, cells := 0, slots := 0, locals := 0 } : Room).cells ({ frames := 0, cells := 0, slots := 0, locals := 0 } : Room).slots (T0.setTop (mkF m 0 #[.val (.ref a1), .val (.int (0 : Int32)), .unset, .unset] []))
  refine own_st (fun wt wk => XS.iloadN X0.here hx rfl (hb hby d9_0) rfl (XS.aloadN X0.here hx rfl (hb hby d9_1) rfl rfl wk)) ?_
  show Fin1 p e below s (rmA30Q Z a1 q0 h0 n0) ({ frames := 0, cells := 0, slots := 0, locals := 0 } : Room).cells ({ frames := 0, cells := 0, slots := 0, locals := 0 } : Room).slots (T0.setTop (mkF m 2 #[.val (.ref a1), .val (.int (0 : Int32)), .unset, .unset] [(.ref a1), (.int (0 : Int32))]))
  obtain ⟨T1, X1, e1, st1⟩ := getF X0 hx hZ hown (host := "") (Or.inl (hw _ (List.mem_of_getElem? (i := 53) rfl))) Via.refl e0 Z_a1 (g := (mkF m 2 #[.val (.ref a1), .val (.int (0 : Int32)), .unset, .unset] [(.ref a1), (.int (0 : Int32))])) rfl rfl (hb hby d9_2)
  refine own_st st1 ?_
  show Fin1 p e below s (rmA30Q Z a1 q0 h0 n0) ({ frames := 0, cells := 0, slots := 0, locals := 0 } : Room).cells ({ frames := 0, cells := 0, slots := 0, locals := 0 } : Room).slots (T1.setTop (mkF m 5 #[.val (.ref a1), .val (.int (0 : Int32)), .unset, .unset] [(.int (3 : Int32)), (.int (0 : Int32))]))
  refine own_st (fun wt wk => XS.iconst X1.here hx rfl (hb hby d9_5) wk) ?_
  show Fin1 p e below s (rmA30Q Z a1 q0 h0 n0) ({ frames := 0, cells := 0, slots := 0, locals := 0 } : Room).cells ({ frames := 0, cells := 0, slots := 0, locals := 0 } : Room).slots (T1.setTop (mkF m 6 #[.val (.ref a1), .val (.int (0 : Int32)), .unset, .unset] [(.int (2 : Int32)), (.int (3 : Int32)), (.int (0 : Int32))]))
  refine own_st (fun wt wk => XS.idiv X1.here hx rfl (hb hby d9_6) rfl (by decide) wk) ?_
  show Fin1 p e below s (rmA30Q Z a1 q0 h0 n0) ({ frames := 0, cells := 0, slots := 0, locals := 0 } : Room).cells ({ frames := 0, cells := 0, slots := 0, locals := 0 } : Room).slots (T1.setTop (mkF m 7 #[.val (.ref a1), .val (.int (0 : Int32)), .unset, .unset] [(.int ((3 : Int32) / (2 : Int32))), (.int (0 : Int32))]))
  rw [show ((3 : Int32) / (2 : Int32)) = (1 : Int32) from by decide]
  show Fin1 p e below s (rmA30Q Z a1 q0 h0 n0) ({ frames := 0, cells := 0, slots := 0, locals := 0 } : Room).cells ({ frames := 0, cells := 0, slots := 0, locals := 0 } : Room).slots (T1.setTop (mkF m 7 #[.val (.ref a1), .val (.int (0 : Int32)), .unset, .unset] [(.int (1 : Int32)), (.int (0 : Int32))]))
  refine own_st (fun wt wk => XS.icmpNo X1.here hx rfl (hb hby d9_7) rfl (tlt (by decide)).2.1 wk) ?_
  show Fin1 p e below s (rmA30Q Z a1 q0 h0 n0) ({ frames := 0, cells := 0, slots := 0, locals := 0 } : Room).cells ({ frames := 0, cells := 0, slots := 0, locals := 0 } : Room).slots (T1.setTop (mkF m 10 #[.val (.ref a1), .val (.int (0 : Int32)), .unset, .unset] []))
  refine own_st (fun wt wk => XS.aloadN X1.here hx rfl (hb hby d9_10) rfl rfl wk) ?_
  show Fin1 p e below s (rmA30Q Z a1 q0 h0 n0) ({ frames := 0, cells := 0, slots := 0, locals := 0 } : Room).cells ({ frames := 0, cells := 0, slots := 0, locals := 0 } : Room).slots (T1.setTop (mkF m 11 #[.val (.ref a1), .val (.int (0 : Int32)), .unset, .unset] [(.ref a1)]))
  obtain ⟨T2, X2, e2, st2⟩ := getF X1 hx hZ hown (host := "") (Or.inl (hw _ (List.mem_of_getElem? (i := 32) rfl))) Via.refl e1 C0 (g := (mkF m 11 #[.val (.ref a1), .val (.int (0 : Int32)), .unset, .unset] [(.ref a1)])) rfl rfl (hb hby d9_11)
  refine own_st st2 ?_
  show Fin1 p e below s (rmA30Q Z a1 q0 h0 n0) ({ frames := 0, cells := 0, slots := 0, locals := 0 } : Room).cells ({ frames := 0, cells := 0, slots := 0, locals := 0 } : Room).slots (T2.setTop (mkF m 14 #[.val (.ref a1), .val (.int (0 : Int32)), .unset, .unset] [(.ref q0)]))
  refine own_st (fun wt wk => XS.astoreN X2.here hx rfl (hb hby d9_14) rfl rfl (l' := #[.val (.ref a1), .val (.int (0 : Int32)), .val (.ref q0), .unset]) rfl (XS.iconst X2.here hx rfl (hb hby d9_15) (XS.istoreN X2.here hx rfl (hb hby d9_16) rfl (l' := #[.val (.ref a1), .val (.int (0 : Int32)), .val (.ref q0), .val (.int (0 : Int32))]) rfl (XS.iloadN X2.here hx rfl (hb hby d9_17) rfl (XS.iloadN X2.here hx rfl (hb hby d9_18) rfl wk))))) ?_
  show Fin1 p e below s (rmA30Q Z a1 q0 h0 n0) ({ frames := 0, cells := 0, slots := 0, locals := 0 } : Room).cells ({ frames := 0, cells := 0, slots := 0, locals := 0 } : Room).slots (T2.setTop (mkF m 19 #[.val (.ref a1), .val (.int (0 : Int32)), .val (.ref q0), .val (.int (0 : Int32))] [(.int (0 : Int32)), (.int (0 : Int32))]))
  refine own_st (fun wt wk => XS.icmpYes X2.here hx rfl (pc0 := 19) (pc' := 33) rfl (hb hby d9_19) rfl (flt (by decide)).2.1 (by decide) (by decide) wk) ?_
  show Fin1 p e below s (rmA30Q Z a1 q0 h0 n0) ({ frames := 0, cells := 0, slots := 0, locals := 0 } : Room).cells ({ frames := 0, cells := 0, slots := 0, locals := 0 } : Room).slots (T2.setTop (mkF m 33 #[.val (.ref a1), .val (.int (0 : Int32)), .val (.ref q0), .val (.int (0 : Int32))] []))
  refine own_st (fun wt wk => XS.goto X2.here hx rfl (pc0 := 33) (pc' := 64) rfl (hb hby d9_33) (by decide) (by decide) (XS.aloadN X2.here hx rfl (hb hby d9_64) rfl rfl wk)) ?_
  show Fin1 p e below s (rmA30Q Z a1 q0 h0 n0) ({ frames := 0, cells := 0, slots := 0, locals := 0 } : Room).cells ({ frames := 0, cells := 0, slots := 0, locals := 0 } : Room).slots (T2.setTop (mkF m 65 #[.val (.ref a1), .val (.int (0 : Int32)), .val (.ref q0), .val (.int (0 : Int32))] [(.ref q0)]))
  exact own_retA X2 hx hlk hret rfl rfl (hb hby d9_65) (by rw [e2]; exact ⟨rfl, N0, rfl⟩) (by decide) (by decide)
def rmG30Q (Z : State) (a1 : Addr) (q0 : Addr) (x : Addr) (h0 : Heap) (n0 : Nat) (v : Option Value) (h : Heap) (L : List Loc) : Prop := v = some (.ref x) ∧ Fr n0 L ∧ h = h0
set_option maxRecDepth 65536 in
set_option maxHeartbeats 40000000 in
theorem rmG30 (l : Launch) (Z : State) (a0 : Array Value) (hw : ∀ d ∈ tables_1, d.before a0 Z = true) (a1 : Addr) (q0 : Addr) (x : Addr) (h0 : Heap) (n0 : Nat) (Z0 : n0 ≤ h0.size) (E_a1 : Exa Z h0 a1 "com/example/listwright/listwright/LinkedStorage") (Z_a1 : Fld Z h0 a1 "com/example/listwright/listwright/LinkedStorage" "size" "I" (.int (3 : Int32))) (C0 : Fld Z h0 a1 "com/example/listwright/listwright/LinkedStorage" "head" "Lcom/example/listwright/listwright/LinkedStorage$Node;" (.ref q0)) (El : Fld Z h0 q0 "com/example/listwright/listwright/LinkedStorage$Node" "element" "Ljava/lang/Object;" (.ref x)) :
    Ct l Z [] (⟨"com/example/listwright/listwright/LinkedStorage", "get", "(I)Ljava/lang/Object;"⟩ : MethodName) prog_19_method_3_code 2 (some (.object "java/lang/Object")) ({ frames := 1, cells := 0, slots := 0, locals := 15 } : Room) #[(.ref a1), (.int (0 : Int32))] h0 (rmG30Q Z a1 q0 x h0 n0) := by
  refine own_enter (plainFor_of_name pn_5) ?_
  intro p e s m below meth c T0 X0 hx hby hml hZ hown hnm hret hlk e0
  have hown : s.vm.findClass "com/example/listwright/listwright/LinkedStorage" = some m.cls := hown
  have N0 := Fr.nil n0
  have K0 := Keep.refl h0 []
  refine own_st (fun wt wk => castTop (g' := mkF m 0 #[.val (.ref a1), .val (.int (0 : Int32))] []) (by first | (simp [entryFrame, mkF, argsToLocals, Value.category]; done) | rfl) wk) ?_
  show Fin1 p e below s (rmG30Q Z a1 q0 x h0 n0) ({ frames := 1, cells := 0, slots := 0, locals := 15 } : Room).cells ({ frames := 1, cells := 0, slots := 0, locals := 15 } : Room).slots (T0.setTop (mkF m 0 #[.val (.ref a1), .val (.int (0 : Int32))] []))
  refine own_st (fun wt wk => XS.aloadN X0.here hx rfl (hb hby d14_0) rfl rfl (XS.iloadN X0.here hx rfl (hb hby d14_1) rfl wk)) ?_
  show Fin1 p e below s (rmG30Q Z a1 q0 x h0 n0) ({ frames := 1, cells := 0, slots := 0, locals := 15 } : Room).cells ({ frames := 1, cells := 0, slots := 0, locals := 15 } : Room).slots (T0.setTop (mkF m 2 #[.val (.ref a1), .val (.int (0 : Int32))] [(.int (0 : Int32)), (.ref a1)]))
  obtain ⟨v1, T1, h1, L1, X1, e1, hQ1, st1⟩ := own_private X0 hx hZ hown (hw _ (List.mem_of_getElem? (i := 55) rfl)) (hw _ (List.mem_of_getElem? (i := 56) rfl)) (hw _ (List.mem_of_getElem? (i := 3) rfl)) (hw _ (List.mem_of_getElem? (i := 57) rfl)) (hw _ (List.mem_of_getElem? (i := 58) rfl)) (hw _ (List.mem_of_getElem? (i := 4) rfl)) (by decide) (a := a1) E_a1 (rmA30 l Z a0 hw a1 q0 h0 n0 Z0 Z_a1 C0) e0 (g := (mkF m 2 #[.val (.ref a1), .val (.int (0 : Int32))] [(.int (0 : Int32)), (.ref a1)])) rfl (by rw [hml]; rfl) (argsL := [(.int (0 : Int32))]) (rest := []) (lenOf pd_9 rfl) rfl (W := 0) (by show 2 * 0 + _ ≤ _; exact Nat.le_of_eq rfl) (hb hby d14_2) (by decide) (by decide) (by decide) (by decide)
  obtain ⟨rfl, N1q, hh1⟩ := hQ1
  have N1 := Fr.app N0 N1q
  rw [hh1] at e1
  refine own_st st1 ?_
  show Fin1 p e below s (rmG30Q Z a1 q0 x h0 n0) ({ frames := 1, cells := 0, slots := 0, locals := 15 } : Room).cells ({ frames := 1, cells := 0, slots := 0, locals := 15 } : Room).slots (T1.setTop (mkF m 5 #[.val (.ref a1), .val (.int (0 : Int32))] [(.ref q0)]))
  obtain ⟨T2, X2, e2, st2⟩ := own_getRef X1 hx hZ hown (hw _ (List.mem_of_getElem? (i := 64) rfl)) e1 El (g := (mkF m 5 #[.val (.ref a1), .val (.int (0 : Int32))] [(.ref q0)])) rfl rfl (hb hby d14_5)
  refine own_st st2 ?_
  show Fin1 p e below s (rmG30Q Z a1 q0 x h0 n0) ({ frames := 1, cells := 0, slots := 0, locals := 15 } : Room).cells ({ frames := 1, cells := 0, slots := 0, locals := 15 } : Room).slots (T2.setTop (mkF m 8 #[.val (.ref a1), .val (.int (0 : Int32))] [(.ref x)]))
  exact own_retA X2 hx hlk hret rfl rfl (hb hby d14_8) (by rw [e2]; exact ⟨rfl, N1, rfl⟩) (by decide) (by decide)
def rmT30Q (Z : State) (a1 : Addr) (x : Addr) (q0 : Addr) (old : Addr) (pv : Value) (nv : Value) (h0 : Heap) (n0 : Nat) (v : Option Value) (h : Heap) (L : List Loc) : Prop := v = some (.ref old) ∧ Fr n0 L ∧ Keep h0 h [q0] ∧ Fld Z h q0 "com/example/listwright/listwright/LinkedStorage$Node" "element" "Ljava/lang/Object;" (.ref x) ∧ Fld Z h q0 "com/example/listwright/listwright/LinkedStorage$Node" "previous" "Lcom/example/listwright/listwright/LinkedStorage$Node;" pv ∧ Fld Z h q0 "com/example/listwright/listwright/LinkedStorage$Node" "next" "Lcom/example/listwright/listwright/LinkedStorage$Node;" nv
set_option maxRecDepth 65536 in
set_option maxHeartbeats 40000000 in
theorem rmT30 (l : Launch) (Z : State) (a0 : Array Value) (hw : ∀ d ∈ tables_1, d.before a0 Z = true) (a1 : Addr) (x : Addr) (q0 : Addr) (old : Addr) (pv : Value) (nv : Value) (h0 : Heap) (n0 : Nat) (Z0 : n0 ≤ h0.size) (g_q0 : n0 ≤ q0) (E_a1 : Exa Z h0 a1 "com/example/listwright/listwright/LinkedStorage") (E_q0 : Exa Z h0 q0 "com/example/listwright/listwright/LinkedStorage$Node") (Z_a1 : Fld Z h0 a1 "com/example/listwright/listwright/LinkedStorage" "size" "I" (.int (3 : Int32))) (C0 : Fld Z h0 a1 "com/example/listwright/listwright/LinkedStorage" "head" "Lcom/example/listwright/listwright/LinkedStorage$Node;" (.ref q0)) (Eq0 : Fld Z h0 q0 "com/example/listwright/listwright/LinkedStorage$Node" "element" "Ljava/lang/Object;" (.ref old)) (Pq0 : Fld Z h0 q0 "com/example/listwright/listwright/LinkedStorage$Node" "previous" "Lcom/example/listwright/listwright/LinkedStorage$Node;" pv) (Nq0 : Fld Z h0 q0 "com/example/listwright/listwright/LinkedStorage$Node" "next" "Lcom/example/listwright/listwright/LinkedStorage$Node;" nv) :
    Ct l Z [] (⟨"com/example/listwright/listwright/LinkedStorage", "set", "(ILjava/lang/Object;)Ljava/lang/Object;"⟩ : MethodName) prog_19_method_4_code 5 (some (.object "java/lang/Object")) ({ frames := 1, cells := 0, slots := 0, locals := 15 } : Room) #[(.ref a1), (.int (0 : Int32)), (.ref x)] h0 (rmT30Q Z a1 x q0 old pv nv h0 n0) := by
  refine own_enter (plainFor_of_name pn_5) ?_
  intro p e s m below meth c T0 X0 hx hby hml hZ hown hnm hret hlk e0
  have hown : s.vm.findClass "com/example/listwright/listwright/LinkedStorage" = some m.cls := hown
  have N0 := Fr.nil n0
  have K0 := Keep.refl h0 [q0]
  refine own_st (fun wt wk => castTop (g' := mkF m 0 #[.val (.ref a1), .val (.int (0 : Int32)), .val (.ref x), .unset, .unset] []) (by first | (simp [entryFrame, mkF, argsToLocals, Value.category]; done) | rfl) wk) ?_
  show Fin1 p e below s (rmT30Q Z a1 x q0 old pv nv h0 n0) ({ frames := 1, cells := 0, slots := 0, locals := 15 } : Room).cells ({ frames := 1, cells := 0, slots := 0, locals := 15 } : Room).slots (T0.setTop (mkF m 0 #[.val (.ref a1), .val (.int (0 : Int32)), .val (.ref x), .unset, .unset] []))
  refine own_st (fun wt wk => XS.aloadN X0.here hx rfl (hb hby d10_0) rfl rfl (XS.iloadN X0.here hx rfl (hb hby d10_1) rfl wk)) ?_
  show Fin1 p e below s (rmT30Q Z a1 x q0 old pv nv h0 n0) ({ frames := 1, cells := 0, slots := 0, locals := 15 } : Room).cells ({ frames := 1, cells := 0, slots := 0, locals := 15 } : Room).slots (T0.setTop (mkF m 2 #[.val (.ref a1), .val (.int (0 : Int32)), .val (.ref x), .unset, .unset] [(.int (0 : Int32)), (.ref a1)]))
  obtain ⟨v1, T1, h1, L1, X1, e1, hQ1, st1⟩ := own_private X0 hx hZ hown (hw _ (List.mem_of_getElem? (i := 55) rfl)) (hw _ (List.mem_of_getElem? (i := 56) rfl)) (hw _ (List.mem_of_getElem? (i := 3) rfl)) (hw _ (List.mem_of_getElem? (i := 57) rfl)) (hw _ (List.mem_of_getElem? (i := 58) rfl)) (hw _ (List.mem_of_getElem? (i := 4) rfl)) (by decide) (a := a1) E_a1 (rmA30 l Z a0 hw a1 q0 h0 n0 Z0 Z_a1 C0) e0 (g := (mkF m 2 #[.val (.ref a1), .val (.int (0 : Int32)), .val (.ref x), .unset, .unset] [(.int (0 : Int32)), (.ref a1)])) rfl (by rw [hml]; rfl) (argsL := [(.int (0 : Int32))]) (rest := []) (lenOf pd_9 rfl) rfl (W := 0) (by show 2 * 0 + _ ≤ _; exact Nat.le_of_eq rfl) (hb hby d10_2) (by decide) (by decide) (by decide) (by decide)
  obtain ⟨rfl, N1q, hh1⟩ := hQ1
  have N1 := Fr.app N0 N1q
  rw [hh1] at e1
  refine own_st st1 ?_
  show Fin1 p e below s (rmT30Q Z a1 x q0 old pv nv h0 n0) ({ frames := 1, cells := 0, slots := 0, locals := 15 } : Room).cells ({ frames := 1, cells := 0, slots := 0, locals := 15 } : Room).slots (T1.setTop (mkF m 5 #[.val (.ref a1), .val (.int (0 : Int32)), .val (.ref x), .unset, .unset] [(.ref q0)]))
  refine own_st (fun wt wk => XS.astoreN X1.here hx rfl (hb hby d10_5) rfl rfl (l' := #[.val (.ref a1), .val (.int (0 : Int32)), .val (.ref x), .val (.ref q0), .unset]) rfl (XS.aloadN X1.here hx rfl (hb hby d10_6) rfl rfl wk)) ?_
  show Fin1 p e below s (rmT30Q Z a1 x q0 old pv nv h0 n0) ({ frames := 1, cells := 0, slots := 0, locals := 15 } : Room).cells ({ frames := 1, cells := 0, slots := 0, locals := 15 } : Room).slots (T1.setTop (mkF m 7 #[.val (.ref a1), .val (.int (0 : Int32)), .val (.ref x), .val (.ref q0), .unset] [(.ref q0)]))
  obtain ⟨T2, X2, e2, st2⟩ := own_getRef X1 hx hZ hown (hw _ (List.mem_of_getElem? (i := 64) rfl)) e1 Eq0 (g := (mkF m 7 #[.val (.ref a1), .val (.int (0 : Int32)), .val (.ref x), .val (.ref q0), .unset] [(.ref q0)])) rfl rfl (hb hby d10_7)
  refine own_st st2 ?_
  show Fin1 p e below s (rmT30Q Z a1 x q0 old pv nv h0 n0) ({ frames := 1, cells := 0, slots := 0, locals := 15 } : Room).cells ({ frames := 1, cells := 0, slots := 0, locals := 15 } : Room).slots (T2.setTop (mkF m 10 #[.val (.ref a1), .val (.int (0 : Int32)), .val (.ref x), .val (.ref q0), .unset] [(.ref old)]))
  refine own_st (fun wt wk => XS.astore X2.here hx rfl (hb hby d10_10) rfl rfl (l' := #[.val (.ref a1), .val (.int (0 : Int32)), .val (.ref x), .val (.ref q0), .val (.ref old)]) rfl (XS.aloadN X2.here hx rfl (hb hby d10_12) rfl rfl (XS.aloadN X2.here hx rfl (hb hby d10_13) rfl rfl wk))) ?_
  show Fin1 p e below s (rmT30Q Z a1 x q0 old pv nv h0 n0) ({ frames := 1, cells := 0, slots := 0, locals := 15 } : Room).cells ({ frames := 1, cells := 0, slots := 0, locals := 15 } : Room).slots (T2.setTop (mkF m 14 #[.val (.ref a1), .val (.int (0 : Int32)), .val (.ref x), .val (.ref q0), .val (.ref old)] [(.ref x), (.ref q0)]))
  obtain ⟨T3, h3, X3, e3, W3, st3⟩ := own_putRef X2 hx hZ hown (hw _ (List.mem_of_getElem? (i := 64) rfl)) e2 Eq0 E_q0 (hw _ (List.mem_of_getElem? (i := 42) rfl)) (hw _ (List.mem_of_getElem? (i := 35) rfl)) (ty := (.object "java/lang/Object")) (by decide) rfl rfl (g := (mkF m 14 #[.val (.ref a1), .val (.int (0 : Int32)), .val (.ref x), .val (.ref q0), .val (.ref old)] [(.ref x), (.ref q0)])) rfl rfl (hb hby d10_14)
  refine own_st st3 ?_
  have N3 := Fr.snoc X3 N1 g_q0
  have Z0 := Nat.le_trans Z0 (Nat.le_of_eq W3.size.symm)
  have K0 := K0.wr W3 (Or.inl (List.mem_of_getElem? (i := 0) rfl))
  have E_q0 := E_q0.wr W3
  have Eq0 := Eq0.same W3
  have Pq0 := Pq0.other W3 (Or.inr (slot_ne (Or.inl (hw _ (List.mem_of_getElem? (i := 48) rfl))) (Or.inl (hw _ (List.mem_of_getElem? (i := 42) rfl))) (by decide) (t := (.object "com/example/listwright/listwright/LinkedStorage$Node")) (t' := (.object "java/lang/Object")) (by decide) (by decide)))
  have Nq0 := Nq0.other W3 (Or.inr (slot_ne (Or.inl (hw _ (List.mem_of_getElem? (i := 50) rfl))) (Or.inl (hw _ (List.mem_of_getElem? (i := 42) rfl))) (by decide) (t := (.object "com/example/listwright/listwright/LinkedStorage$Node")) (t' := (.object "java/lang/Object")) (by decide) (by decide)))
  show Fin1 p e below s (rmT30Q Z a1 x q0 old pv nv h0 n0) ({ frames := 1, cells := 0, slots := 0, locals := 15 } : Room).cells ({ frames := 1, cells := 0, slots := 0, locals := 15 } : Room).slots (T3.setTop (mkF m 17 #[.val (.ref a1), .val (.int (0 : Int32)), .val (.ref x), .val (.ref q0), .val (.ref old)] []))
  refine own_st (fun wt wk => XS.aload X3.here hx rfl (hb hby d10_17) rfl rfl wk) ?_
  show Fin1 p e below s (rmT30Q Z a1 x q0 old pv nv h0 n0) ({ frames := 1, cells := 0, slots := 0, locals := 15 } : Room).cells ({ frames := 1, cells := 0, slots := 0, locals := 15 } : Room).slots (T3.setTop (mkF m 19 #[.val (.ref a1), .val (.int (0 : Int32)), .val (.ref x), .val (.ref q0), .val (.ref old)] [(.ref old)]))
  exact own_retA X3 hx hlk hret rfl rfl (hb hby d10_19) (by rw [e3]; exact ⟨rfl, N3, K0, Eq0, Pq0, Nq0⟩) (by decide) (by decide)
def rmA31Q (Z : State) (a1 : Addr) (q1 : Addr) (q2 : Addr) (h0 : Heap) (n0 : Nat) (v : Option Value) (h : Heap) (L : List Loc) : Prop := v = some (.ref q1) ∧ Fr n0 L ∧ h = h0
set_option maxRecDepth 65536 in
set_option maxHeartbeats 40000000 in
theorem rmA31 (l : Launch) (Z : State) (a0 : Array Value) (hw : ∀ d ∈ tables_1, d.before a0 Z = true) (a1 : Addr) (q1 : Addr) (q2 : Addr) (h0 : Heap) (n0 : Nat) (Z0 : n0 ≤ h0.size) (Z_a1 : Fld Z h0 a1 "com/example/listwright/listwright/LinkedStorage" "size" "I" (.int (3 : Int32))) (C0 : Fld Z h0 a1 "com/example/listwright/listwright/LinkedStorage" "tail" "Lcom/example/listwright/listwright/LinkedStorage$Node;" (.ref q2)) (C1 : Fld Z h0 q2 "com/example/listwright/listwright/LinkedStorage$Node" "previous" "Lcom/example/listwright/listwright/LinkedStorage$Node;" (.ref q1)) :
    Ct l Z [] (⟨"com/example/listwright/listwright/LinkedStorage", "nodeAt", "(I)Lcom/example/listwright/listwright/LinkedStorage$Node;"⟩ : MethodName) prog_19_method_16_code 4 (some (.object "com/example/listwright/listwright/LinkedStorage$Node")) ({ frames := 0, cells := 0, slots := 0, locals := 0 } : Room) #[(.ref a1), (.int (1 : Int32))] h0 (rmA31Q Z a1 q1 q2 h0 n0) := by
  refine own_enter (plainFor_of_name pn_5) ?_
  intro p e s m below meth c T0 X0 hx hby hml hZ hown hnm hret hlk e0
  have hown : s.vm.findClass "com/example/listwright/listwright/LinkedStorage" = some m.cls := hown
  have N0 := Fr.nil n0
  have K0 := Keep.refl h0 []
  refine own_st (fun wt wk => castTop (g' := mkF m 0 #[.val (.ref a1), .val (.int (1 : Int32)), .unset, .unset] []) (by first | (simp [entryFrame, mkF, argsToLocals, Value.category]; done) | rfl) wk) ?_
  show Fin1 p e below s (rmA31Q Z a1 q1 q2 h0 n0) ({ frames := 0, cells := 0, slots := 0, locals := 0 } : Room).cells ({ frames := 0, cells := 0, slots := 0, locals := 0 } : Room).slots (T0.setTop (mkF m 0 #[.val (.ref a1), .val (.int (1 : Int32)), .unset, .unset] []))
  refine own_st (fun wt wk => XS.iloadN X0.here hx rfl (hb hby d9_0) rfl (XS.aloadN X0.here hx rfl (hb hby d9_1) rfl rfl wk)) ?_
  show Fin1 p e below s (rmA31Q Z a1 q1 q2 h0 n0) ({ frames := 0, cells := 0, slots := 0, locals := 0 } : Room).cells ({ frames := 0, cells := 0, slots := 0, locals := 0 } : Room).slots (T0.setTop (mkF m 2 #[.val (.ref a1), .val (.int (1 : Int32)), .unset, .unset] [(.ref a1), (.int (1 : Int32))]))
  obtain ⟨T1, X1, e1, st1⟩ := getF X0 hx hZ hown (host := "") (Or.inl (hw _ (List.mem_of_getElem? (i := 53) rfl))) Via.refl e0 Z_a1 (g := (mkF m 2 #[.val (.ref a1), .val (.int (1 : Int32)), .unset, .unset] [(.ref a1), (.int (1 : Int32))])) rfl rfl (hb hby d9_2)
  refine own_st st1 ?_
  show Fin1 p e below s (rmA31Q Z a1 q1 q2 h0 n0) ({ frames := 0, cells := 0, slots := 0, locals := 0 } : Room).cells ({ frames := 0, cells := 0, slots := 0, locals := 0 } : Room).slots (T1.setTop (mkF m 5 #[.val (.ref a1), .val (.int (1 : Int32)), .unset, .unset] [(.int (3 : Int32)), (.int (1 : Int32))]))
  refine own_st (fun wt wk => XS.iconst X1.here hx rfl (hb hby d9_5) wk) ?_
  show Fin1 p e below s (rmA31Q Z a1 q1 q2 h0 n0) ({ frames := 0, cells := 0, slots := 0, locals := 0 } : Room).cells ({ frames := 0, cells := 0, slots := 0, locals := 0 } : Room).slots (T1.setTop (mkF m 6 #[.val (.ref a1), .val (.int (1 : Int32)), .unset, .unset] [(.int (2 : Int32)), (.int (3 : Int32)), (.int (1 : Int32))]))
  refine own_st (fun wt wk => XS.idiv X1.here hx rfl (hb hby d9_6) rfl (by decide) wk) ?_
  show Fin1 p e below s (rmA31Q Z a1 q1 q2 h0 n0) ({ frames := 0, cells := 0, slots := 0, locals := 0 } : Room).cells ({ frames := 0, cells := 0, slots := 0, locals := 0 } : Room).slots (T1.setTop (mkF m 7 #[.val (.ref a1), .val (.int (1 : Int32)), .unset, .unset] [(.int ((3 : Int32) / (2 : Int32))), (.int (1 : Int32))]))
  rw [show ((3 : Int32) / (2 : Int32)) = (1 : Int32) from by decide]
  show Fin1 p e below s (rmA31Q Z a1 q1 q2 h0 n0) ({ frames := 0, cells := 0, slots := 0, locals := 0 } : Room).cells ({ frames := 0, cells := 0, slots := 0, locals := 0 } : Room).slots (T1.setTop (mkF m 7 #[.val (.ref a1), .val (.int (1 : Int32)), .unset, .unset] [(.int (1 : Int32)), (.int (1 : Int32))]))
  refine own_st (fun wt wk => XS.icmpYes X1.here hx rfl (pc0 := 7) (pc' := 36) rfl (hb hby d9_7) rfl (flt (by decide)).2.1 (by decide) (by decide) wk) ?_
  show Fin1 p e below s (rmA31Q Z a1 q1 q2 h0 n0) ({ frames := 0, cells := 0, slots := 0, locals := 0 } : Room).cells ({ frames := 0, cells := 0, slots := 0, locals := 0 } : Room).slots (T1.setTop (mkF m 36 #[.val (.ref a1), .val (.int (1 : Int32)), .unset, .unset] []))
  refine own_st (fun wt wk => XS.aloadN X1.here hx rfl (hb hby d9_36) rfl rfl wk) ?_
  show Fin1 p e below s (rmA31Q Z a1 q1 q2 h0 n0) ({ frames := 0, cells := 0, slots := 0, locals := 0 } : Room).cells ({ frames := 0, cells := 0, slots := 0, locals := 0 } : Room).slots (T1.setTop (mkF m 37 #[.val (.ref a1), .val (.int (1 : Int32)), .unset, .unset] [(.ref a1)]))
  obtain ⟨T2, X2, e2, st2⟩ := getF X1 hx hZ hown (host := "") (Or.inl (hw _ (List.mem_of_getElem? (i := 51) rfl))) Via.refl e1 C0 (g := (mkF m 37 #[.val (.ref a1), .val (.int (1 : Int32)), .unset, .unset] [(.ref a1)])) rfl rfl (hb hby d9_37)
  refine own_st st2 ?_
  show Fin1 p e below s (rmA31Q Z a1 q1 q2 h0 n0) ({ frames := 0, cells := 0, slots := 0, locals := 0 } : Room).cells ({ frames := 0, cells := 0, slots := 0, locals := 0 } : Room).slots (T2.setTop (mkF m 40 #[.val (.ref a1), .val (.int (1 : Int32)), .unset, .unset] [(.ref q2)]))
  refine own_st (fun wt wk => XS.astoreN X2.here hx rfl (hb hby d9_40) rfl rfl (l' := #[.val (.ref a1), .val (.int (1 : Int32)), .val (.ref q2), .unset]) rfl (XS.aloadN X2.here hx rfl (hb hby d9_41) rfl rfl wk)) ?_
  show Fin1 p e below s (rmA31Q Z a1 q1 q2 h0 n0) ({ frames := 0, cells := 0, slots := 0, locals := 0 } : Room).cells ({ frames := 0, cells := 0, slots := 0, locals := 0 } : Room).slots (T2.setTop (mkF m 42 #[.val (.ref a1), .val (.int (1 : Int32)), .val (.ref q2), .unset] [(.ref a1)]))
  obtain ⟨T3, X3, e3, st3⟩ := getF X2 hx hZ hown (host := "") (Or.inl (hw _ (List.mem_of_getElem? (i := 53) rfl))) Via.refl e2 Z_a1 (g := (mkF m 42 #[.val (.ref a1), .val (.int (1 : Int32)), .val (.ref q2), .unset] [(.ref a1)])) rfl rfl (hb hby d9_42)
  refine own_st st3 ?_
  show Fin1 p e below s (rmA31Q Z a1 q1 q2 h0 n0) ({ frames := 0, cells := 0, slots := 0, locals := 0 } : Room).cells ({ frames := 0, cells := 0, slots := 0, locals := 0 } : Room).slots (T3.setTop (mkF m 45 #[.val (.ref a1), .val (.int (1 : Int32)), .val (.ref q2), .unset] [(.int (3 : Int32))]))
  refine own_st (fun wt wk => XS.iconst X3.here hx rfl (hb hby d9_45) (XS.isub X3.here hx rfl (hb hby d9_46) rfl wk)) ?_
  show Fin1 p e below s (rmA31Q Z a1 q1 q2 h0 n0) ({ frames := 0, cells := 0, slots := 0, locals := 0 } : Room).cells ({ frames := 0, cells := 0, slots := 0, locals := 0 } : Room).slots (T3.setTop (mkF m 47 #[.val (.ref a1), .val (.int (1 : Int32)), .val (.ref q2), .unset] [(.int ((3 : Int32) - (1 : Int32)))]))
  rw [show ((3 : Int32) - (1 : Int32)) = (2 : Int32) from by decide]
  show Fin1 p e below s (rmA31Q Z a1 q1 q2 h0 n0) ({ frames := 0, cells := 0, slots := 0, locals := 0 } : Room).cells ({ frames := 0, cells := 0, slots := 0, locals := 0 } : Room).slots (T3.setTop (mkF m 47 #[.val (.ref a1), .val (.int (1 : Int32)), .val (.ref q2), .unset] [(.int (2 : Int32))]))
  refine own_st (fun wt wk => XS.istoreN X3.here hx rfl (hb hby d9_47) rfl (l' := #[.val (.ref a1), .val (.int (1 : Int32)), .val (.ref q2), .val (.int (2 : Int32))]) rfl (XS.iloadN X3.here hx rfl (hb hby d9_48) rfl (XS.iloadN X3.here hx rfl (hb hby d9_49) rfl wk))) ?_
  show Fin1 p e below s (rmA31Q Z a1 q1 q2 h0 n0) ({ frames := 0, cells := 0, slots := 0, locals := 0 } : Room).cells ({ frames := 0, cells := 0, slots := 0, locals := 0 } : Room).slots (T3.setTop (mkF m 50 #[.val (.ref a1), .val (.int (1 : Int32)), .val (.ref q2), .val (.int (2 : Int32))] [(.int (1 : Int32)), (.int (2 : Int32))]))
  refine own_st (fun wt wk => XS.icmpNo X3.here hx rfl (hb hby d9_50) rfl (tlt (by decide)).2.2.2 wk) ?_
  show Fin1 p e below s (rmA31Q Z a1 q1 q2 h0 n0) ({ frames := 0, cells := 0, slots := 0, locals := 0 } : Room).cells ({ frames := 0, cells := 0, slots := 0, locals := 0 } : Room).slots (T3.setTop (mkF m 53 #[.val (.ref a1), .val (.int (1 : Int32)), .val (.ref q2), .val (.int (2 : Int32))] []))
  refine own_st (fun wt wk => XS.aloadN X3.here hx rfl (hb hby d9_53) rfl rfl wk) ?_
  show Fin1 p e below s (rmA31Q Z a1 q1 q2 h0 n0) ({ frames := 0, cells := 0, slots := 0, locals := 0 } : Room).cells ({ frames := 0, cells := 0, slots := 0, locals := 0 } : Room).slots (T3.setTop (mkF m 54 #[.val (.ref a1), .val (.int (1 : Int32)), .val (.ref q2), .val (.int (2 : Int32))] [(.ref q2)]))
  obtain ⟨T4, X4, e4, st4⟩ := own_getRef X3 hx hZ hown (hw _ (List.mem_of_getElem? (i := 47) rfl)) e3 C1 (g := (mkF m 54 #[.val (.ref a1), .val (.int (1 : Int32)), .val (.ref q2), .val (.int (2 : Int32))] [(.ref q2)])) rfl rfl (hb hby d9_54)
  refine own_st st4 ?_
  show Fin1 p e below s (rmA31Q Z a1 q1 q2 h0 n0) ({ frames := 0, cells := 0, slots := 0, locals := 0 } : Room).cells ({ frames := 0, cells := 0, slots := 0, locals := 0 } : Room).slots (T4.setTop (mkF m 57 #[.val (.ref a1), .val (.int (1 : Int32)), .val (.ref q2), .val (.int (2 : Int32))] [(.ref q1)]))
  refine own_st (fun wt wk => XS.astoreN X4.here hx rfl (hb hby d9_57) rfl rfl (l' := #[.val (.ref a1), .val (.int (1 : Int32)), .val (.ref q1), .val (.int (2 : Int32))]) rfl (XS.iinc X4.here hx rfl (hb hby d9_58) rfl (l' := #[.val (.ref a1), .val (.int (1 : Int32)), .val (.ref q1), .val (.int (1 : Int32))]) rfl (XS.goto X4.here hx rfl (pc0 := 61) (pc' := 48) rfl (hb hby d9_61) (by decide) (by decide) (XS.iloadN X4.here hx rfl (hb hby d9_48) rfl (XS.iloadN X4.here hx rfl (hb hby d9_49) rfl wk))))) ?_
  show Fin1 p e below s (rmA31Q Z a1 q1 q2 h0 n0) ({ frames := 0, cells := 0, slots := 0, locals := 0 } : Room).cells ({ frames := 0, cells := 0, slots := 0, locals := 0 } : Room).slots (T4.setTop (mkF m 50 #[.val (.ref a1), .val (.int (1 : Int32)), .val (.ref q1), .val (.int (1 : Int32))] [(.int (1 : Int32)), (.int (1 : Int32))]))
  refine own_st (fun wt wk => XS.icmpYes X4.here hx rfl (pc0 := 50) (pc' := 64) rfl (hb hby d9_50) rfl (flt (by decide)).2.2.2 (by decide) (by decide) wk) ?_
  show Fin1 p e below s (rmA31Q Z a1 q1 q2 h0 n0) ({ frames := 0, cells := 0, slots := 0, locals := 0 } : Room).cells ({ frames := 0, cells := 0, slots := 0, locals := 0 } : Room).slots (T4.setTop (mkF m 64 #[.val (.ref a1), .val (.int (1 : Int32)), .val (.ref q1), .val (.int (1 : Int32))] []))
  refine own_st (fun wt wk => XS.aloadN X4.here hx rfl (hb hby d9_64) rfl rfl wk) ?_
  show Fin1 p e below s (rmA31Q Z a1 q1 q2 h0 n0) ({ frames := 0, cells := 0, slots := 0, locals := 0 } : Room).cells ({ frames := 0, cells := 0, slots := 0, locals := 0 } : Room).slots (T4.setTop (mkF m 65 #[.val (.ref a1), .val (.int (1 : Int32)), .val (.ref q1), .val (.int (1 : Int32))] [(.ref q1)]))
  exact own_retA X4 hx hlk hret rfl rfl (hb hby d9_65) (by rw [e4]; exact ⟨rfl, N0, rfl⟩) (by decide) (by decide)
def rmG31Q (Z : State) (a1 : Addr) (q1 : Addr) (q2 : Addr) (x : Addr) (h0 : Heap) (n0 : Nat) (v : Option Value) (h : Heap) (L : List Loc) : Prop := v = some (.ref x) ∧ Fr n0 L ∧ h = h0
set_option maxRecDepth 65536 in
set_option maxHeartbeats 40000000 in
theorem rmG31 (l : Launch) (Z : State) (a0 : Array Value) (hw : ∀ d ∈ tables_1, d.before a0 Z = true) (a1 : Addr) (q1 : Addr) (q2 : Addr) (x : Addr) (h0 : Heap) (n0 : Nat) (Z0 : n0 ≤ h0.size) (E_a1 : Exa Z h0 a1 "com/example/listwright/listwright/LinkedStorage") (Z_a1 : Fld Z h0 a1 "com/example/listwright/listwright/LinkedStorage" "size" "I" (.int (3 : Int32))) (C0 : Fld Z h0 a1 "com/example/listwright/listwright/LinkedStorage" "tail" "Lcom/example/listwright/listwright/LinkedStorage$Node;" (.ref q2)) (C1 : Fld Z h0 q2 "com/example/listwright/listwright/LinkedStorage$Node" "previous" "Lcom/example/listwright/listwright/LinkedStorage$Node;" (.ref q1)) (El : Fld Z h0 q1 "com/example/listwright/listwright/LinkedStorage$Node" "element" "Ljava/lang/Object;" (.ref x)) :
    Ct l Z [] (⟨"com/example/listwright/listwright/LinkedStorage", "get", "(I)Ljava/lang/Object;"⟩ : MethodName) prog_19_method_3_code 2 (some (.object "java/lang/Object")) ({ frames := 1, cells := 0, slots := 0, locals := 15 } : Room) #[(.ref a1), (.int (1 : Int32))] h0 (rmG31Q Z a1 q1 q2 x h0 n0) := by
  refine own_enter (plainFor_of_name pn_5) ?_
  intro p e s m below meth c T0 X0 hx hby hml hZ hown hnm hret hlk e0
  have hown : s.vm.findClass "com/example/listwright/listwright/LinkedStorage" = some m.cls := hown
  have N0 := Fr.nil n0
  have K0 := Keep.refl h0 []
  refine own_st (fun wt wk => castTop (g' := mkF m 0 #[.val (.ref a1), .val (.int (1 : Int32))] []) (by first | (simp [entryFrame, mkF, argsToLocals, Value.category]; done) | rfl) wk) ?_
  show Fin1 p e below s (rmG31Q Z a1 q1 q2 x h0 n0) ({ frames := 1, cells := 0, slots := 0, locals := 15 } : Room).cells ({ frames := 1, cells := 0, slots := 0, locals := 15 } : Room).slots (T0.setTop (mkF m 0 #[.val (.ref a1), .val (.int (1 : Int32))] []))
  refine own_st (fun wt wk => XS.aloadN X0.here hx rfl (hb hby d14_0) rfl rfl (XS.iloadN X0.here hx rfl (hb hby d14_1) rfl wk)) ?_
  show Fin1 p e below s (rmG31Q Z a1 q1 q2 x h0 n0) ({ frames := 1, cells := 0, slots := 0, locals := 15 } : Room).cells ({ frames := 1, cells := 0, slots := 0, locals := 15 } : Room).slots (T0.setTop (mkF m 2 #[.val (.ref a1), .val (.int (1 : Int32))] [(.int (1 : Int32)), (.ref a1)]))
  obtain ⟨v1, T1, h1, L1, X1, e1, hQ1, st1⟩ := own_private X0 hx hZ hown (hw _ (List.mem_of_getElem? (i := 55) rfl)) (hw _ (List.mem_of_getElem? (i := 56) rfl)) (hw _ (List.mem_of_getElem? (i := 3) rfl)) (hw _ (List.mem_of_getElem? (i := 57) rfl)) (hw _ (List.mem_of_getElem? (i := 58) rfl)) (hw _ (List.mem_of_getElem? (i := 4) rfl)) (by decide) (a := a1) E_a1 (rmA31 l Z a0 hw a1 q1 q2 h0 n0 Z0 Z_a1 C0 C1) e0 (g := (mkF m 2 #[.val (.ref a1), .val (.int (1 : Int32))] [(.int (1 : Int32)), (.ref a1)])) rfl (by rw [hml]; rfl) (argsL := [(.int (1 : Int32))]) (rest := []) (lenOf pd_9 rfl) rfl (W := 0) (by show 2 * 0 + _ ≤ _; exact Nat.le_of_eq rfl) (hb hby d14_2) (by decide) (by decide) (by decide) (by decide)
  obtain ⟨rfl, N1q, hh1⟩ := hQ1
  have N1 := Fr.app N0 N1q
  rw [hh1] at e1
  refine own_st st1 ?_
  show Fin1 p e below s (rmG31Q Z a1 q1 q2 x h0 n0) ({ frames := 1, cells := 0, slots := 0, locals := 15 } : Room).cells ({ frames := 1, cells := 0, slots := 0, locals := 15 } : Room).slots (T1.setTop (mkF m 5 #[.val (.ref a1), .val (.int (1 : Int32))] [(.ref q1)]))
  obtain ⟨T2, X2, e2, st2⟩ := own_getRef X1 hx hZ hown (hw _ (List.mem_of_getElem? (i := 64) rfl)) e1 El (g := (mkF m 5 #[.val (.ref a1), .val (.int (1 : Int32))] [(.ref q1)])) rfl rfl (hb hby d14_5)
  refine own_st st2 ?_
  show Fin1 p e below s (rmG31Q Z a1 q1 q2 x h0 n0) ({ frames := 1, cells := 0, slots := 0, locals := 15 } : Room).cells ({ frames := 1, cells := 0, slots := 0, locals := 15 } : Room).slots (T2.setTop (mkF m 8 #[.val (.ref a1), .val (.int (1 : Int32))] [(.ref x)]))
  exact own_retA X2 hx hlk hret rfl rfl (hb hby d14_8) (by rw [e2]; exact ⟨rfl, N1, rfl⟩) (by decide) (by decide)
def rmT31Q (Z : State) (a1 : Addr) (x : Addr) (q1 : Addr) (q2 : Addr) (old : Addr) (pv : Value) (nv : Value) (h0 : Heap) (n0 : Nat) (v : Option Value) (h : Heap) (L : List Loc) : Prop := v = some (.ref old) ∧ Fr n0 L ∧ Keep h0 h [q1] ∧ Fld Z h q1 "com/example/listwright/listwright/LinkedStorage$Node" "element" "Ljava/lang/Object;" (.ref x) ∧ Fld Z h q1 "com/example/listwright/listwright/LinkedStorage$Node" "previous" "Lcom/example/listwright/listwright/LinkedStorage$Node;" pv ∧ Fld Z h q1 "com/example/listwright/listwright/LinkedStorage$Node" "next" "Lcom/example/listwright/listwright/LinkedStorage$Node;" nv
set_option maxRecDepth 65536 in
set_option maxHeartbeats 40000000 in
theorem rmT31 (l : Launch) (Z : State) (a0 : Array Value) (hw : ∀ d ∈ tables_1, d.before a0 Z = true) (a1 : Addr) (x : Addr) (q1 : Addr) (q2 : Addr) (old : Addr) (pv : Value) (nv : Value) (h0 : Heap) (n0 : Nat) (Z0 : n0 ≤ h0.size) (g_q1 : n0 ≤ q1) (E_a1 : Exa Z h0 a1 "com/example/listwright/listwright/LinkedStorage") (E_q1 : Exa Z h0 q1 "com/example/listwright/listwright/LinkedStorage$Node") (Z_a1 : Fld Z h0 a1 "com/example/listwright/listwright/LinkedStorage" "size" "I" (.int (3 : Int32))) (C0 : Fld Z h0 a1 "com/example/listwright/listwright/LinkedStorage" "tail" "Lcom/example/listwright/listwright/LinkedStorage$Node;" (.ref q2)) (C1 : Fld Z h0 q2 "com/example/listwright/listwright/LinkedStorage$Node" "previous" "Lcom/example/listwright/listwright/LinkedStorage$Node;" (.ref q1)) (Eq1 : Fld Z h0 q1 "com/example/listwright/listwright/LinkedStorage$Node" "element" "Ljava/lang/Object;" (.ref old)) (Pq1 : Fld Z h0 q1 "com/example/listwright/listwright/LinkedStorage$Node" "previous" "Lcom/example/listwright/listwright/LinkedStorage$Node;" pv) (Nq1 : Fld Z h0 q1 "com/example/listwright/listwright/LinkedStorage$Node" "next" "Lcom/example/listwright/listwright/LinkedStorage$Node;" nv) :
    Ct l Z [] (⟨"com/example/listwright/listwright/LinkedStorage", "set", "(ILjava/lang/Object;)Ljava/lang/Object;"⟩ : MethodName) prog_19_method_4_code 5 (some (.object "java/lang/Object")) ({ frames := 1, cells := 0, slots := 0, locals := 15 } : Room) #[(.ref a1), (.int (1 : Int32)), (.ref x)] h0 (rmT31Q Z a1 x q1 q2 old pv nv h0 n0) := by
  refine own_enter (plainFor_of_name pn_5) ?_
  intro p e s m below meth c T0 X0 hx hby hml hZ hown hnm hret hlk e0
  have hown : s.vm.findClass "com/example/listwright/listwright/LinkedStorage" = some m.cls := hown
  have N0 := Fr.nil n0
  have K0 := Keep.refl h0 [q1]
  refine own_st (fun wt wk => castTop (g' := mkF m 0 #[.val (.ref a1), .val (.int (1 : Int32)), .val (.ref x), .unset, .unset] []) (by first | (simp [entryFrame, mkF, argsToLocals, Value.category]; done) | rfl) wk) ?_
  show Fin1 p e below s (rmT31Q Z a1 x q1 q2 old pv nv h0 n0) ({ frames := 1, cells := 0, slots := 0, locals := 15 } : Room).cells ({ frames := 1, cells := 0, slots := 0, locals := 15 } : Room).slots (T0.setTop (mkF m 0 #[.val (.ref a1), .val (.int (1 : Int32)), .val (.ref x), .unset, .unset] []))
  refine own_st (fun wt wk => XS.aloadN X0.here hx rfl (hb hby d10_0) rfl rfl (XS.iloadN X0.here hx rfl (hb hby d10_1) rfl wk)) ?_
  show Fin1 p e below s (rmT31Q Z a1 x q1 q2 old pv nv h0 n0) ({ frames := 1, cells := 0, slots := 0, locals := 15 } : Room).cells ({ frames := 1, cells := 0, slots := 0, locals := 15 } : Room).slots (T0.setTop (mkF m 2 #[.val (.ref a1), .val (.int (1 : Int32)), .val (.ref x), .unset, .unset] [(.int (1 : Int32)), (.ref a1)]))
  obtain ⟨v1, T1, h1, L1, X1, e1, hQ1, st1⟩ := own_private X0 hx hZ hown (hw _ (List.mem_of_getElem? (i := 55) rfl)) (hw _ (List.mem_of_getElem? (i := 56) rfl)) (hw _ (List.mem_of_getElem? (i := 3) rfl)) (hw _ (List.mem_of_getElem? (i := 57) rfl)) (hw _ (List.mem_of_getElem? (i := 58) rfl)) (hw _ (List.mem_of_getElem? (i := 4) rfl)) (by decide) (a := a1) E_a1 (rmA31 l Z a0 hw a1 q1 q2 h0 n0 Z0 Z_a1 C0 C1) e0 (g := (mkF m 2 #[.val (.ref a1), .val (.int (1 : Int32)), .val (.ref x), .unset, .unset] [(.int (1 : Int32)), (.ref a1)])) rfl (by rw [hml]; rfl) (argsL := [(.int (1 : Int32))]) (rest := []) (lenOf pd_9 rfl) rfl (W := 0) (by show 2 * 0 + _ ≤ _; exact Nat.le_of_eq rfl) (hb hby d10_2) (by decide) (by decide) (by decide) (by decide)
  obtain ⟨rfl, N1q, hh1⟩ := hQ1
  have N1 := Fr.app N0 N1q
  rw [hh1] at e1
  refine own_st st1 ?_
  show Fin1 p e below s (rmT31Q Z a1 x q1 q2 old pv nv h0 n0) ({ frames := 1, cells := 0, slots := 0, locals := 15 } : Room).cells ({ frames := 1, cells := 0, slots := 0, locals := 15 } : Room).slots (T1.setTop (mkF m 5 #[.val (.ref a1), .val (.int (1 : Int32)), .val (.ref x), .unset, .unset] [(.ref q1)]))
  refine own_st (fun wt wk => XS.astoreN X1.here hx rfl (hb hby d10_5) rfl rfl (l' := #[.val (.ref a1), .val (.int (1 : Int32)), .val (.ref x), .val (.ref q1), .unset]) rfl (XS.aloadN X1.here hx rfl (hb hby d10_6) rfl rfl wk)) ?_
  show Fin1 p e below s (rmT31Q Z a1 x q1 q2 old pv nv h0 n0) ({ frames := 1, cells := 0, slots := 0, locals := 15 } : Room).cells ({ frames := 1, cells := 0, slots := 0, locals := 15 } : Room).slots (T1.setTop (mkF m 7 #[.val (.ref a1), .val (.int (1 : Int32)), .val (.ref x), .val (.ref q1), .unset] [(.ref q1)]))
  obtain ⟨T2, X2, e2, st2⟩ := own_getRef X1 hx hZ hown (hw _ (List.mem_of_getElem? (i := 64) rfl)) e1 Eq1 (g := (mkF m 7 #[.val (.ref a1), .val (.int (1 : Int32)), .val (.ref x), .val (.ref q1), .unset] [(.ref q1)])) rfl rfl (hb hby d10_7)
  refine own_st st2 ?_
  show Fin1 p e below s (rmT31Q Z a1 x q1 q2 old pv nv h0 n0) ({ frames := 1, cells := 0, slots := 0, locals := 15 } : Room).cells ({ frames := 1, cells := 0, slots := 0, locals := 15 } : Room).slots (T2.setTop (mkF m 10 #[.val (.ref a1), .val (.int (1 : Int32)), .val (.ref x), .val (.ref q1), .unset] [(.ref old)]))
  refine own_st (fun wt wk => XS.astore X2.here hx rfl (hb hby d10_10) rfl rfl (l' := #[.val (.ref a1), .val (.int (1 : Int32)), .val (.ref x), .val (.ref q1), .val (.ref old)]) rfl (XS.aloadN X2.here hx rfl (hb hby d10_12) rfl rfl (XS.aloadN X2.here hx rfl (hb hby d10_13) rfl rfl wk))) ?_
  show Fin1 p e below s (rmT31Q Z a1 x q1 q2 old pv nv h0 n0) ({ frames := 1, cells := 0, slots := 0, locals := 15 } : Room).cells ({ frames := 1, cells := 0, slots := 0, locals := 15 } : Room).slots (T2.setTop (mkF m 14 #[.val (.ref a1), .val (.int (1 : Int32)), .val (.ref x), .val (.ref q1), .val (.ref old)] [(.ref x), (.ref q1)]))
  obtain ⟨T3, h3, X3, e3, W3, st3⟩ := own_putRef X2 hx hZ hown (hw _ (List.mem_of_getElem? (i := 64) rfl)) e2 Eq1 E_q1 (hw _ (List.mem_of_getElem? (i := 42) rfl)) (hw _ (List.mem_of_getElem? (i := 35) rfl)) (ty := (.object "java/lang/Object")) (by decide) rfl rfl (g := (mkF m 14 #[.val (.ref a1), .val (.int (1 : Int32)), .val (.ref x), .val (.ref q1), .val (.ref old)] [(.ref x), (.ref q1)])) rfl rfl (hb hby d10_14)
  refine own_st st3 ?_
  have N3 := Fr.snoc X3 N1 g_q1
  have Z0 := Nat.le_trans Z0 (Nat.le_of_eq W3.size.symm)
  have K0 := K0.wr W3 (Or.inl (List.mem_of_getElem? (i := 0) rfl))
  have E_q1 := E_q1.wr W3
  have Eq1 := Eq1.same W3
  have Pq1 := Pq1.other W3 (Or.inr (slot_ne (Or.inl (hw _ (List.mem_of_getElem? (i := 48) rfl))) (Or.inl (hw _ (List.mem_of_getElem? (i := 42) rfl))) (by decide) (t := (.object "com/example/listwright/listwright/LinkedStorage$Node")) (t' := (.object "java/lang/Object")) (by decide) (by decide)))
  have Nq1 := Nq1.other W3 (Or.inr (slot_ne (Or.inl (hw _ (List.mem_of_getElem? (i := 50) rfl))) (Or.inl (hw _ (List.mem_of_getElem? (i := 42) rfl))) (by decide) (t := (.object "com/example/listwright/listwright/LinkedStorage$Node")) (t' := (.object "java/lang/Object")) (by decide) (by decide)))
  show Fin1 p e below s (rmT31Q Z a1 x q1 q2 old pv nv h0 n0) ({ frames := 1, cells := 0, slots := 0, locals := 15 } : Room).cells ({ frames := 1, cells := 0, slots := 0, locals := 15 } : Room).slots (T3.setTop (mkF m 17 #[.val (.ref a1), .val (.int (1 : Int32)), .val (.ref x), .val (.ref q1), .val (.ref old)] []))
  refine own_st (fun wt wk => XS.aload X3.here hx rfl (hb hby d10_17) rfl rfl wk) ?_
  show Fin1 p e below s (rmT31Q Z a1 x q1 q2 old pv nv h0 n0) ({ frames := 1, cells := 0, slots := 0, locals := 15 } : Room).cells ({ frames := 1, cells := 0, slots := 0, locals := 15 } : Room).slots (T3.setTop (mkF m 19 #[.val (.ref a1), .val (.int (1 : Int32)), .val (.ref x), .val (.ref q1), .val (.ref old)] [(.ref old)]))
  exact own_retA X3 hx hlk hret rfl rfl (hb hby d10_19) (by rw [e3]; exact ⟨rfl, N3, K0, Eq1, Pq1, Nq1⟩) (by decide) (by decide)
def rmA32Q (Z : State) (a1 : Addr) (q2 : Addr) (h0 : Heap) (n0 : Nat) (v : Option Value) (h : Heap) (L : List Loc) : Prop := v = some (.ref q2) ∧ Fr n0 L ∧ h = h0
set_option maxRecDepth 65536 in
set_option maxHeartbeats 40000000 in
theorem rmA32 (l : Launch) (Z : State) (a0 : Array Value) (hw : ∀ d ∈ tables_1, d.before a0 Z = true) (a1 : Addr) (q2 : Addr) (h0 : Heap) (n0 : Nat) (Z0 : n0 ≤ h0.size) (Z_a1 : Fld Z h0 a1 "com/example/listwright/listwright/LinkedStorage" "size" "I" (.int (3 : Int32))) (C0 : Fld Z h0 a1 "com/example/listwright/listwright/LinkedStorage" "tail" "Lcom/example/listwright/listwright/LinkedStorage$Node;" (.ref q2)) :
    Ct l Z [] (⟨"com/example/listwright/listwright/LinkedStorage", "nodeAt", "(I)Lcom/example/listwright/listwright/LinkedStorage$Node;"⟩ : MethodName) prog_19_method_16_code 4 (some (.object "com/example/listwright/listwright/LinkedStorage$Node")) ({ frames := 0, cells := 0, slots := 0, locals := 0 } : Room) #[(.ref a1), (.int (2 : Int32))] h0 (rmA32Q Z a1 q2 h0 n0) := by
  refine own_enter (plainFor_of_name pn_5) ?_
  intro p e s m below meth c T0 X0 hx hby hml hZ hown hnm hret hlk e0
  have hown : s.vm.findClass "com/example/listwright/listwright/LinkedStorage" = some m.cls := hown
  have N0 := Fr.nil n0
  have K0 := Keep.refl h0 []
  refine own_st (fun wt wk => castTop (g' := mkF m 0 #[.val (.ref a1), .val (.int (2 : Int32)), .unset, .unset] []) (by first | (simp [entryFrame, mkF, argsToLocals, Value.category]; done) | rfl) wk) ?_
  show Fin1 p e below s (rmA32Q Z a1 q2 h0 n0) ({ frames := 0, cells := 0, slots := 0, locals := 0 } : Room).cells ({ frames := 0, cells := 0, slots := 0, locals := 0 } : Room).slots (T0.setTop (mkF m 0 #[.val (.ref a1), .val (.int (2 : Int32)), .unset, .unset] []))
  refine own_st (fun wt wk => XS.iloadN X0.here hx rfl (hb hby d9_0) rfl (XS.aloadN X0.here hx rfl (hb hby d9_1) rfl rfl wk)) ?_
  show Fin1 p e below s (rmA32Q Z a1 q2 h0 n0) ({ frames := 0, cells := 0, slots := 0, locals := 0 } : Room).cells ({ frames := 0, cells := 0, slots := 0, locals := 0 } : Room).slots (T0.setTop (mkF m 2 #[.val (.ref a1), .val (.int (2 : Int32)), .unset, .unset] [(.ref a1), (.int (2 : Int32))]))
  obtain ⟨T1, X1, e1, st1⟩ := getF X0 hx hZ hown (host := "") (Or.inl (hw _ (List.mem_of_getElem? (i := 53) rfl))) Via.refl e0 Z_a1 (g := (mkF m 2 #[.val (.ref a1), .val (.int (2 : Int32)), .unset, .unset] [(.ref a1), (.int (2 : Int32))])) rfl rfl (hb hby d9_2)
  refine own_st st1 ?_
  show Fin1 p e below s (rmA32Q Z a1 q2 h0 n0) ({ frames := 0, cells := 0, slots := 0, locals := 0 } : Room).cells ({ frames := 0, cells := 0, slots := 0, locals := 0 } : Room).slots (T1.setTop (mkF m 5 #[.val (.ref a1), .val (.int (2 : Int32)), .unset, .unset] [(.int (3 : Int32)), (.int (2 : Int32))]))
  refine own_st (fun wt wk => XS.iconst X1.here hx rfl (hb hby d9_5) wk) ?_
  show Fin1 p e below s (rmA32Q Z a1 q2 h0 n0) ({ frames := 0, cells := 0, slots := 0, locals := 0 } : Room).cells ({ frames := 0, cells := 0, slots := 0, locals := 0 } : Room).slots (T1.setTop (mkF m 6 #[.val (.ref a1), .val (.int (2 : Int32)), .unset, .unset] [(.int (2 : Int32)), (.int (3 : Int32)), (.int (2 : Int32))]))
  refine own_st (fun wt wk => XS.idiv X1.here hx rfl (hb hby d9_6) rfl (by decide) wk) ?_
  show Fin1 p e below s (rmA32Q Z a1 q2 h0 n0) ({ frames := 0, cells := 0, slots := 0, locals := 0 } : Room).cells ({ frames := 0, cells := 0, slots := 0, locals := 0 } : Room).slots (T1.setTop (mkF m 7 #[.val (.ref a1), .val (.int (2 : Int32)), .unset, .unset] [(.int ((3 : Int32) / (2 : Int32))), (.int (2 : Int32))]))
  rw [show ((3 : Int32) / (2 : Int32)) = (1 : Int32) from by decide]
  show Fin1 p e below s (rmA32Q Z a1 q2 h0 n0) ({ frames := 0, cells := 0, slots := 0, locals := 0 } : Room).cells ({ frames := 0, cells := 0, slots := 0, locals := 0 } : Room).slots (T1.setTop (mkF m 7 #[.val (.ref a1), .val (.int (2 : Int32)), .unset, .unset] [(.int (1 : Int32)), (.int (2 : Int32))]))
  refine own_st (fun wt wk => XS.icmpYes X1.here hx rfl (pc0 := 7) (pc' := 36) rfl (hb hby d9_7) rfl (flt (by decide)).2.1 (by decide) (by decide) wk) ?_
  show Fin1 p e below s (rmA32Q Z a1 q2 h0 n0) ({ frames := 0, cells := 0, slots := 0, locals := 0 } : Room).cells ({ frames := 0, cells := 0, slots := 0, locals := 0 } : Room).slots (T1.setTop (mkF m 36 #[.val (.ref a1), .val (.int (2 : Int32)), .unset, .unset] []))
  refine own_st (fun wt wk => XS.aloadN X1.here hx rfl (hb hby d9_36) rfl rfl wk) ?_
  show Fin1 p e below s (rmA32Q Z a1 q2 h0 n0) ({ frames := 0, cells := 0, slots := 0, locals := 0 } : Room).cells ({ frames := 0, cells := 0, slots := 0, locals := 0 } : Room).slots (T1.setTop (mkF m 37 #[.val (.ref a1), .val (.int (2 : Int32)), .unset, .unset] [(.ref a1)]))
  obtain ⟨T2, X2, e2, st2⟩ := getF X1 hx hZ hown (host := "") (Or.inl (hw _ (List.mem_of_getElem? (i := 51) rfl))) Via.refl e1 C0 (g := (mkF m 37 #[.val (.ref a1), .val (.int (2 : Int32)), .unset, .unset] [(.ref a1)])) rfl rfl (hb hby d9_37)
  refine own_st st2 ?_
  show Fin1 p e below s (rmA32Q Z a1 q2 h0 n0) ({ frames := 0, cells := 0, slots := 0, locals := 0 } : Room).cells ({ frames := 0, cells := 0, slots := 0, locals := 0 } : Room).slots (T2.setTop (mkF m 40 #[.val (.ref a1), .val (.int (2 : Int32)), .unset, .unset] [(.ref q2)]))
  refine own_st (fun wt wk => XS.astoreN X2.here hx rfl (hb hby d9_40) rfl rfl (l' := #[.val (.ref a1), .val (.int (2 : Int32)), .val (.ref q2), .unset]) rfl (XS.aloadN X2.here hx rfl (hb hby d9_41) rfl rfl wk)) ?_
  show Fin1 p e below s (rmA32Q Z a1 q2 h0 n0) ({ frames := 0, cells := 0, slots := 0, locals := 0 } : Room).cells ({ frames := 0, cells := 0, slots := 0, locals := 0 } : Room).slots (T2.setTop (mkF m 42 #[.val (.ref a1), .val (.int (2 : Int32)), .val (.ref q2), .unset] [(.ref a1)]))
  obtain ⟨T3, X3, e3, st3⟩ := getF X2 hx hZ hown (host := "") (Or.inl (hw _ (List.mem_of_getElem? (i := 53) rfl))) Via.refl e2 Z_a1 (g := (mkF m 42 #[.val (.ref a1), .val (.int (2 : Int32)), .val (.ref q2), .unset] [(.ref a1)])) rfl rfl (hb hby d9_42)
  refine own_st st3 ?_
  show Fin1 p e below s (rmA32Q Z a1 q2 h0 n0) ({ frames := 0, cells := 0, slots := 0, locals := 0 } : Room).cells ({ frames := 0, cells := 0, slots := 0, locals := 0 } : Room).slots (T3.setTop (mkF m 45 #[.val (.ref a1), .val (.int (2 : Int32)), .val (.ref q2), .unset] [(.int (3 : Int32))]))
  refine own_st (fun wt wk => XS.iconst X3.here hx rfl (hb hby d9_45) (XS.isub X3.here hx rfl (hb hby d9_46) rfl wk)) ?_
  show Fin1 p e below s (rmA32Q Z a1 q2 h0 n0) ({ frames := 0, cells := 0, slots := 0, locals := 0 } : Room).cells ({ frames := 0, cells := 0, slots := 0, locals := 0 } : Room).slots (T3.setTop (mkF m 47 #[.val (.ref a1), .val (.int (2 : Int32)), .val (.ref q2), .unset] [(.int ((3 : Int32) - (1 : Int32)))]))
  rw [show ((3 : Int32) - (1 : Int32)) = (2 : Int32) from by decide]
  show Fin1 p e below s (rmA32Q Z a1 q2 h0 n0) ({ frames := 0, cells := 0, slots := 0, locals := 0 } : Room).cells ({ frames := 0, cells := 0, slots := 0, locals := 0 } : Room).slots (T3.setTop (mkF m 47 #[.val (.ref a1), .val (.int (2 : Int32)), .val (.ref q2), .unset] [(.int (2 : Int32))]))
  refine own_st (fun wt wk => XS.istoreN X3.here hx rfl (hb hby d9_47) rfl (l' := #[.val (.ref a1), .val (.int (2 : Int32)), .val (.ref q2), .val (.int (2 : Int32))]) rfl (XS.iloadN X3.here hx rfl (hb hby d9_48) rfl (XS.iloadN X3.here hx rfl (hb hby d9_49) rfl wk))) ?_
  show Fin1 p e below s (rmA32Q Z a1 q2 h0 n0) ({ frames := 0, cells := 0, slots := 0, locals := 0 } : Room).cells ({ frames := 0, cells := 0, slots := 0, locals := 0 } : Room).slots (T3.setTop (mkF m 50 #[.val (.ref a1), .val (.int (2 : Int32)), .val (.ref q2), .val (.int (2 : Int32))] [(.int (2 : Int32)), (.int (2 : Int32))]))
  refine own_st (fun wt wk => XS.icmpYes X3.here hx rfl (pc0 := 50) (pc' := 64) rfl (hb hby d9_50) rfl (flt (by decide)).2.2.2 (by decide) (by decide) wk) ?_
  show Fin1 p e below s (rmA32Q Z a1 q2 h0 n0) ({ frames := 0, cells := 0, slots := 0, locals := 0 } : Room).cells ({ frames := 0, cells := 0, slots := 0, locals := 0 } : Room).slots (T3.setTop (mkF m 64 #[.val (.ref a1), .val (.int (2 : Int32)), .val (.ref q2), .val (.int (2 : Int32))] []))
  refine own_st (fun wt wk => XS.aloadN X3.here hx rfl (hb hby d9_64) rfl rfl wk) ?_
  show Fin1 p e below s (rmA32Q Z a1 q2 h0 n0) ({ frames := 0, cells := 0, slots := 0, locals := 0 } : Room).cells ({ frames := 0, cells := 0, slots := 0, locals := 0 } : Room).slots (T3.setTop (mkF m 65 #[.val (.ref a1), .val (.int (2 : Int32)), .val (.ref q2), .val (.int (2 : Int32))] [(.ref q2)]))
  exact own_retA X3 hx hlk hret rfl rfl (hb hby d9_65) (by rw [e3]; exact ⟨rfl, N0, rfl⟩) (by decide) (by decide)
def rmG32Q (Z : State) (a1 : Addr) (q2 : Addr) (x : Addr) (h0 : Heap) (n0 : Nat) (v : Option Value) (h : Heap) (L : List Loc) : Prop := v = some (.ref x) ∧ Fr n0 L ∧ h = h0
set_option maxRecDepth 65536 in
set_option maxHeartbeats 40000000 in
theorem rmG32 (l : Launch) (Z : State) (a0 : Array Value) (hw : ∀ d ∈ tables_1, d.before a0 Z = true) (a1 : Addr) (q2 : Addr) (x : Addr) (h0 : Heap) (n0 : Nat) (Z0 : n0 ≤ h0.size) (E_a1 : Exa Z h0 a1 "com/example/listwright/listwright/LinkedStorage") (Z_a1 : Fld Z h0 a1 "com/example/listwright/listwright/LinkedStorage" "size" "I" (.int (3 : Int32))) (C0 : Fld Z h0 a1 "com/example/listwright/listwright/LinkedStorage" "tail" "Lcom/example/listwright/listwright/LinkedStorage$Node;" (.ref q2)) (El : Fld Z h0 q2 "com/example/listwright/listwright/LinkedStorage$Node" "element" "Ljava/lang/Object;" (.ref x)) :
    Ct l Z [] (⟨"com/example/listwright/listwright/LinkedStorage", "get", "(I)Ljava/lang/Object;"⟩ : MethodName) prog_19_method_3_code 2 (some (.object "java/lang/Object")) ({ frames := 1, cells := 0, slots := 0, locals := 15 } : Room) #[(.ref a1), (.int (2 : Int32))] h0 (rmG32Q Z a1 q2 x h0 n0) := by
  refine own_enter (plainFor_of_name pn_5) ?_
  intro p e s m below meth c T0 X0 hx hby hml hZ hown hnm hret hlk e0
  have hown : s.vm.findClass "com/example/listwright/listwright/LinkedStorage" = some m.cls := hown
  have N0 := Fr.nil n0
  have K0 := Keep.refl h0 []
  refine own_st (fun wt wk => castTop (g' := mkF m 0 #[.val (.ref a1), .val (.int (2 : Int32))] []) (by first | (simp [entryFrame, mkF, argsToLocals, Value.category]; done) | rfl) wk) ?_
  show Fin1 p e below s (rmG32Q Z a1 q2 x h0 n0) ({ frames := 1, cells := 0, slots := 0, locals := 15 } : Room).cells ({ frames := 1, cells := 0, slots := 0, locals := 15 } : Room).slots (T0.setTop (mkF m 0 #[.val (.ref a1), .val (.int (2 : Int32))] []))
  refine own_st (fun wt wk => XS.aloadN X0.here hx rfl (hb hby d14_0) rfl rfl (XS.iloadN X0.here hx rfl (hb hby d14_1) rfl wk)) ?_
  show Fin1 p e below s (rmG32Q Z a1 q2 x h0 n0) ({ frames := 1, cells := 0, slots := 0, locals := 15 } : Room).cells ({ frames := 1, cells := 0, slots := 0, locals := 15 } : Room).slots (T0.setTop (mkF m 2 #[.val (.ref a1), .val (.int (2 : Int32))] [(.int (2 : Int32)), (.ref a1)]))
  obtain ⟨v1, T1, h1, L1, X1, e1, hQ1, st1⟩ := own_private X0 hx hZ hown (hw _ (List.mem_of_getElem? (i := 55) rfl)) (hw _ (List.mem_of_getElem? (i := 56) rfl)) (hw _ (List.mem_of_getElem? (i := 3) rfl)) (hw _ (List.mem_of_getElem? (i := 57) rfl)) (hw _ (List.mem_of_getElem? (i := 58) rfl)) (hw _ (List.mem_of_getElem? (i := 4) rfl)) (by decide) (a := a1) E_a1 (rmA32 l Z a0 hw a1 q2 h0 n0 Z0 Z_a1 C0) e0 (g := (mkF m 2 #[.val (.ref a1), .val (.int (2 : Int32))] [(.int (2 : Int32)), (.ref a1)])) rfl (by rw [hml]; rfl) (argsL := [(.int (2 : Int32))]) (rest := []) (lenOf pd_9 rfl) rfl (W := 0) (by show 2 * 0 + _ ≤ _; exact Nat.le_of_eq rfl) (hb hby d14_2) (by decide) (by decide) (by decide) (by decide)
  obtain ⟨rfl, N1q, hh1⟩ := hQ1
  have N1 := Fr.app N0 N1q
  rw [hh1] at e1
  refine own_st st1 ?_
  show Fin1 p e below s (rmG32Q Z a1 q2 x h0 n0) ({ frames := 1, cells := 0, slots := 0, locals := 15 } : Room).cells ({ frames := 1, cells := 0, slots := 0, locals := 15 } : Room).slots (T1.setTop (mkF m 5 #[.val (.ref a1), .val (.int (2 : Int32))] [(.ref q2)]))
  obtain ⟨T2, X2, e2, st2⟩ := own_getRef X1 hx hZ hown (hw _ (List.mem_of_getElem? (i := 64) rfl)) e1 El (g := (mkF m 5 #[.val (.ref a1), .val (.int (2 : Int32))] [(.ref q2)])) rfl rfl (hb hby d14_5)
  refine own_st st2 ?_
  show Fin1 p e below s (rmG32Q Z a1 q2 x h0 n0) ({ frames := 1, cells := 0, slots := 0, locals := 15 } : Room).cells ({ frames := 1, cells := 0, slots := 0, locals := 15 } : Room).slots (T2.setTop (mkF m 8 #[.val (.ref a1), .val (.int (2 : Int32))] [(.ref x)]))
  exact own_retA X2 hx hlk hret rfl rfl (hb hby d14_8) (by rw [e2]; exact ⟨rfl, N1, rfl⟩) (by decide) (by decide)
def rmT32Q (Z : State) (a1 : Addr) (x : Addr) (q2 : Addr) (old : Addr) (pv : Value) (nv : Value) (h0 : Heap) (n0 : Nat) (v : Option Value) (h : Heap) (L : List Loc) : Prop := v = some (.ref old) ∧ Fr n0 L ∧ Keep h0 h [q2] ∧ Fld Z h q2 "com/example/listwright/listwright/LinkedStorage$Node" "element" "Ljava/lang/Object;" (.ref x) ∧ Fld Z h q2 "com/example/listwright/listwright/LinkedStorage$Node" "previous" "Lcom/example/listwright/listwright/LinkedStorage$Node;" pv ∧ Fld Z h q2 "com/example/listwright/listwright/LinkedStorage$Node" "next" "Lcom/example/listwright/listwright/LinkedStorage$Node;" nv
set_option maxRecDepth 65536 in
set_option maxHeartbeats 40000000 in
theorem rmT32 (l : Launch) (Z : State) (a0 : Array Value) (hw : ∀ d ∈ tables_1, d.before a0 Z = true) (a1 : Addr) (x : Addr) (q2 : Addr) (old : Addr) (pv : Value) (nv : Value) (h0 : Heap) (n0 : Nat) (Z0 : n0 ≤ h0.size) (g_q2 : n0 ≤ q2) (E_a1 : Exa Z h0 a1 "com/example/listwright/listwright/LinkedStorage") (E_q2 : Exa Z h0 q2 "com/example/listwright/listwright/LinkedStorage$Node") (Z_a1 : Fld Z h0 a1 "com/example/listwright/listwright/LinkedStorage" "size" "I" (.int (3 : Int32))) (C0 : Fld Z h0 a1 "com/example/listwright/listwright/LinkedStorage" "tail" "Lcom/example/listwright/listwright/LinkedStorage$Node;" (.ref q2)) (Eq2 : Fld Z h0 q2 "com/example/listwright/listwright/LinkedStorage$Node" "element" "Ljava/lang/Object;" (.ref old)) (Pq2 : Fld Z h0 q2 "com/example/listwright/listwright/LinkedStorage$Node" "previous" "Lcom/example/listwright/listwright/LinkedStorage$Node;" pv) (Nq2 : Fld Z h0 q2 "com/example/listwright/listwright/LinkedStorage$Node" "next" "Lcom/example/listwright/listwright/LinkedStorage$Node;" nv) :
    Ct l Z [] (⟨"com/example/listwright/listwright/LinkedStorage", "set", "(ILjava/lang/Object;)Ljava/lang/Object;"⟩ : MethodName) prog_19_method_4_code 5 (some (.object "java/lang/Object")) ({ frames := 1, cells := 0, slots := 0, locals := 15 } : Room) #[(.ref a1), (.int (2 : Int32)), (.ref x)] h0 (rmT32Q Z a1 x q2 old pv nv h0 n0) := by
  refine own_enter (plainFor_of_name pn_5) ?_
  intro p e s m below meth c T0 X0 hx hby hml hZ hown hnm hret hlk e0
  have hown : s.vm.findClass "com/example/listwright/listwright/LinkedStorage" = some m.cls := hown
  have N0 := Fr.nil n0
  have K0 := Keep.refl h0 [q2]
  refine own_st (fun wt wk => castTop (g' := mkF m 0 #[.val (.ref a1), .val (.int (2 : Int32)), .val (.ref x), .unset, .unset] []) (by first | (simp [entryFrame, mkF, argsToLocals, Value.category]; done) | rfl) wk) ?_
  show Fin1 p e below s (rmT32Q Z a1 x q2 old pv nv h0 n0) ({ frames := 1, cells := 0, slots := 0, locals := 15 } : Room).cells ({ frames := 1, cells := 0, slots := 0, locals := 15 } : Room).slots (T0.setTop (mkF m 0 #[.val (.ref a1), .val (.int (2 : Int32)), .val (.ref x), .unset, .unset] []))
  refine own_st (fun wt wk => XS.aloadN X0.here hx rfl (hb hby d10_0) rfl rfl (XS.iloadN X0.here hx rfl (hb hby d10_1) rfl wk)) ?_
  show Fin1 p e below s (rmT32Q Z a1 x q2 old pv nv h0 n0) ({ frames := 1, cells := 0, slots := 0, locals := 15 } : Room).cells ({ frames := 1, cells := 0, slots := 0, locals := 15 } : Room).slots (T0.setTop (mkF m 2 #[.val (.ref a1), .val (.int (2 : Int32)), .val (.ref x), .unset, .unset] [(.int (2 : Int32)), (.ref a1)]))
  obtain ⟨v1, T1, h1, L1, X1, e1, hQ1, st1⟩ := own_private X0 hx hZ hown (hw _ (List.mem_of_getElem? (i := 55) rfl)) (hw _ (List.mem_of_getElem? (i := 56) rfl)) (hw _ (List.mem_of_getElem? (i := 3) rfl)) (hw _ (List.mem_of_getElem? (i := 57) rfl)) (hw _ (List.mem_of_getElem? (i := 58) rfl)) (hw _ (List.mem_of_getElem? (i := 4) rfl)) (by decide) (a := a1) E_a1 (rmA32 l Z a0 hw a1 q2 h0 n0 Z0 Z_a1 C0) e0 (g := (mkF m 2 #[.val (.ref a1), .val (.int (2 : Int32)), .val (.ref x), .unset, .unset] [(.int (2 : Int32)), (.ref a1)])) rfl (by rw [hml]; rfl) (argsL := [(.int (2 : Int32))]) (rest := []) (lenOf pd_9 rfl) rfl (W := 0) (by show 2 * 0 + _ ≤ _; exact Nat.le_of_eq rfl) (hb hby d10_2) (by decide) (by decide) (by decide) (by decide)
  obtain ⟨rfl, N1q, hh1⟩ := hQ1
  have N1 := Fr.app N0 N1q
  rw [hh1] at e1
  refine own_st st1 ?_
  show Fin1 p e below s (rmT32Q Z a1 x q2 old pv nv h0 n0) ({ frames := 1, cells := 0, slots := 0, locals := 15 } : Room).cells ({ frames := 1, cells := 0, slots := 0, locals := 15 } : Room).slots (T1.setTop (mkF m 5 #[.val (.ref a1), .val (.int (2 : Int32)), .val (.ref x), .unset, .unset] [(.ref q2)]))
  refine own_st (fun wt wk => XS.astoreN X1.here hx rfl (hb hby d10_5) rfl rfl (l' := #[.val (.ref a1), .val (.int (2 : Int32)), .val (.ref x), .val (.ref q2), .unset]) rfl (XS.aloadN X1.here hx rfl (hb hby d10_6) rfl rfl wk)) ?_
  show Fin1 p e below s (rmT32Q Z a1 x q2 old pv nv h0 n0) ({ frames := 1, cells := 0, slots := 0, locals := 15 } : Room).cells ({ frames := 1, cells := 0, slots := 0, locals := 15 } : Room).slots (T1.setTop (mkF m 7 #[.val (.ref a1), .val (.int (2 : Int32)), .val (.ref x), .val (.ref q2), .unset] [(.ref q2)]))
  obtain ⟨T2, X2, e2, st2⟩ := own_getRef X1 hx hZ hown (hw _ (List.mem_of_getElem? (i := 64) rfl)) e1 Eq2 (g := (mkF m 7 #[.val (.ref a1), .val (.int (2 : Int32)), .val (.ref x), .val (.ref q2), .unset] [(.ref q2)])) rfl rfl (hb hby d10_7)
  refine own_st st2 ?_
  show Fin1 p e below s (rmT32Q Z a1 x q2 old pv nv h0 n0) ({ frames := 1, cells := 0, slots := 0, locals := 15 } : Room).cells ({ frames := 1, cells := 0, slots := 0, locals := 15 } : Room).slots (T2.setTop (mkF m 10 #[.val (.ref a1), .val (.int (2 : Int32)), .val (.ref x), .val (.ref q2), .unset] [(.ref old)]))
  refine own_st (fun wt wk => XS.astore X2.here hx rfl (hb hby d10_10) rfl rfl (l' := #[.val (.ref a1), .val (.int (2 : Int32)), .val (.ref x), .val (.ref q2), .val (.ref old)]) rfl (XS.aloadN X2.here hx rfl (hb hby d10_12) rfl rfl (XS.aloadN X2.here hx rfl (hb hby d10_13) rfl rfl wk))) ?_
  show Fin1 p e below s (rmT32Q Z a1 x q2 old pv nv h0 n0) ({ frames := 1, cells := 0, slots := 0, locals := 15 } : Room).cells ({ frames := 1, cells := 0, slots := 0, locals := 15 } : Room).slots (T2.setTop (mkF m 14 #[.val (.ref a1), .val (.int (2 : Int32)), .val (.ref x), .val (.ref q2), .val (.ref old)] [(.ref x), (.ref q2)]))
  obtain ⟨T3, h3, X3, e3, W3, st3⟩ := own_putRef X2 hx hZ hown (hw _ (List.mem_of_getElem? (i := 64) rfl)) e2 Eq2 E_q2 (hw _ (List.mem_of_getElem? (i := 42) rfl)) (hw _ (List.mem_of_getElem? (i := 35) rfl)) (ty := (.object "java/lang/Object")) (by decide) rfl rfl (g := (mkF m 14 #[.val (.ref a1), .val (.int (2 : Int32)), .val (.ref x), .val (.ref q2), .val (.ref old)] [(.ref x), (.ref q2)])) rfl rfl (hb hby d10_14)
  refine own_st st3 ?_
  have N3 := Fr.snoc X3 N1 g_q2
  have Z0 := Nat.le_trans Z0 (Nat.le_of_eq W3.size.symm)
  have K0 := K0.wr W3 (Or.inl (List.mem_of_getElem? (i := 0) rfl))
  have E_q2 := E_q2.wr W3
  have Eq2 := Eq2.same W3
  have Pq2 := Pq2.other W3 (Or.inr (slot_ne (Or.inl (hw _ (List.mem_of_getElem? (i := 48) rfl))) (Or.inl (hw _ (List.mem_of_getElem? (i := 42) rfl))) (by decide) (t := (.object "com/example/listwright/listwright/LinkedStorage$Node")) (t' := (.object "java/lang/Object")) (by decide) (by decide)))
  have Nq2 := Nq2.other W3 (Or.inr (slot_ne (Or.inl (hw _ (List.mem_of_getElem? (i := 50) rfl))) (Or.inl (hw _ (List.mem_of_getElem? (i := 42) rfl))) (by decide) (t := (.object "com/example/listwright/listwright/LinkedStorage$Node")) (t' := (.object "java/lang/Object")) (by decide) (by decide)))
  show Fin1 p e below s (rmT32Q Z a1 x q2 old pv nv h0 n0) ({ frames := 1, cells := 0, slots := 0, locals := 15 } : Room).cells ({ frames := 1, cells := 0, slots := 0, locals := 15 } : Room).slots (T3.setTop (mkF m 17 #[.val (.ref a1), .val (.int (2 : Int32)), .val (.ref x), .val (.ref q2), .val (.ref old)] []))
  refine own_st (fun wt wk => XS.aload X3.here hx rfl (hb hby d10_17) rfl rfl wk) ?_
  show Fin1 p e below s (rmT32Q Z a1 x q2 old pv nv h0 n0) ({ frames := 1, cells := 0, slots := 0, locals := 15 } : Room).cells ({ frames := 1, cells := 0, slots := 0, locals := 15 } : Room).slots (T3.setTop (mkF m 19 #[.val (.ref a1), .val (.int (2 : Int32)), .val (.ref x), .val (.ref q2), .val (.ref old)] [(.ref old)]))
  exact own_retA X3 hx hlk hret rfl rfl (hb hby d10_19) (by rw [e3]; exact ⟨rfl, N3, K0, Eq2, Pq2, Nq2⟩) (by decide) (by decide)
def rmA40Q (Z : State) (a1 : Addr) (q0 : Addr) (h0 : Heap) (n0 : Nat) (v : Option Value) (h : Heap) (L : List Loc) : Prop := v = some (.ref q0) ∧ Fr n0 L ∧ h = h0
set_option maxRecDepth 65536 in
set_option maxHeartbeats 40000000 in
theorem rmA40 (l : Launch) (Z : State) (a0 : Array Value) (hw : ∀ d ∈ tables_1, d.before a0 Z = true) (a1 : Addr) (q0 : Addr) (h0 : Heap) (n0 : Nat) (Z0 : n0 ≤ h0.size) (Z_a1 : Fld Z h0 a1 "com/example/listwright/listwright/LinkedStorage" "size" "I" (.int (4 : Int32))) (C0 : Fld Z h0 a1 "com/example/listwright/listwright/LinkedStorage" "head" "Lcom/example/listwright/listwright/LinkedStorage$Node;" (.ref q0)) :
    Ct l Z [] (⟨"com/example/listwright/listwright/LinkedStorage", "nodeAt", "(I)Lcom/example/listwright/listwright/LinkedStorage$Node;"⟩ : MethodName) prog_19_method_16_code 4 (some (.object "com/example/listwright/listwright/LinkedStorage$Node")) ({ frames := 0, cells := 0, slots := 0, locals := 0 } : Room) #[(.ref a1), (.int (0 : Int32))] h0 (rmA40Q Z a1 q0 h0 n0) := by
  refine own_enter (plainFor_of_name pn_5) ?_
  intro p e s m below meth c T0 X0 hx hby hml hZ hown hnm hret hlk e0
  have hown : s.vm.findClass "com/example/listwright/listwright/LinkedStorage" = some m.cls := hown
  have N0 := Fr.nil n0
  have K0 := Keep.refl h0 []
  refine own_st (fun wt wk => castTop (g' := mkF m 0 #[.val (.ref a1), .val (.int (0 : Int32)), .unset, .unset] []) (by first | (simp [entryFrame, mkF, argsToLocals, Value.category]; done) | rfl) wk) ?_
  show Fin1 p e below s (rmA40Q Z a1 q0 h0 n0) ({ frames := 0, cells := 0, slots := 0, locals := 0 } : Room).cells ({ frames := 0, cells := 0, slots := 0, locals := 0 } : Room).slots (T0.setTop (mkF m 0 #[.val (.ref a1), .val (.int (0 : Int32)), .unset, .unset] []))
  refine own_st (fun wt wk => XS.iloadN X0.here hx rfl (hb hby d9_0) rfl (XS.aloadN X0.here hx rfl (hb hby d9_1) rfl rfl wk)) ?_
  show Fin1 p e below s (rmA40Q Z a1 q0 h0 n0) ({ frames := 0, cells := 0, slots := 0, locals := 0 } : Room).cells ({ frames := 0, cells := 0, slots := 0, locals := 0 } : Room).slots (T0.setTop (mkF m 2 #[.val (.ref a1), .val (.int (0 : Int32)), .unset, .unset] [(.ref a1), (.int (0 : Int32))]))
  obtain ⟨T1, X1, e1, st1⟩ := getF X0 hx hZ hown (host := "") (Or.inl (hw _ (List.mem_of_getElem? (i := 53) rfl))) Via.refl e0 Z_a1 (g := (mkF m 2 #[.val (.ref a1), .val (.int (0 : Int32)), .unset, .unset] [(.ref a1), (.int (0 : Int32))])) rfl rfl (hb hby d9_2)
  refine own_st st1 ?_
  show Fin1 p e below s (rmA40Q Z a1 q0 h0 n0) ({ frames := 0, cells := 0, slots := 0, locals := 0 } : Room).cells ({ frames := 0, cells := 0, slots := 0, locals := 0 } : Room).slots (T1.setTop (mkF m 5 #[.val (.ref a1), .val (.int (0 : Int32)), .unset, .unset] [(.int (4 : Int32)), (.int (0 : Int32))]))
  refine own_st (fun wt wk => XS.iconst X1.here hx rfl (hb hby d9_5) wk) ?_
  show Fin1 p e below s (rmA40Q Z a1 q0 h0 n0) ({ frames := 0, cells := 0, slots := 0, locals := 0 } : Room).cells ({ frames := 0, cells := 0, slots := 0, locals := 0 } : Room).slots (T1.setTop (mkF m 6 #[.val (.ref a1), .val (.int (0 : Int32)), .unset, .unset] [(.int (2 : Int32)), (.int (4 : Int32)), (.int (0 : Int32))]))
  refine own_st (fun wt wk => XS.idiv X1.here hx rfl (hb hby d9_6) rfl (by decide) wk) ?_
  show Fin1 p e below s (rmA40Q Z a1 q0 h0 n0) ({ frames := 0, cells := 0, slots := 0, locals := 0 } : Room).cells ({ frames := 0, cells := 0, slots := 0, locals := 0 } : Room).slots (T1.setTop (mkF m 7 #[.val (.ref a1), .val (.int (0 : Int32)), .unset, .unset] [(.int ((4 : Int32) / (2 : Int32))), (.int (0 : Int32))]))
  rw [show ((4 : Int32) / (2 : Int32)) = (2 : Int32) from by decide]
  show Fin1 p e below s (rmA40Q Z a1 q0 h0 n0) ({ frames := 0, cells := 0, slots := 0, locals := 0 } : Room).cells ({ frames := 0, cells := 0, slots := 0, locals := 0 } : Room).slots (T1.setTop (mkF m 7 #[.val (.ref a1), .val (.int (0 : Int32)), .unset, .unset] [(.int (2 : Int32)), (.int (0 : Int32))]))
  refine own_st (fun wt wk => XS.icmpNo X1.here hx rfl (hb hby d9_7) rfl (tlt (by decide)).2.1 wk) ?_
  show Fin1 p e below s (rmA40Q Z a1 q0 h0 n0) ({ frames := 0, cells := 0, slots := 0, locals := 0 } : Room).cells ({ frames := 0, cells := 0, slots := 0, locals := 0 } : Room).slots (T1.setTop (mkF m 10 #[.val (.ref a1), .val (.int (0 : Int32)), .unset, .unset] []))
  refine own_st (fun wt wk => XS.aloadN X1.here hx rfl (hb hby d9_10) rfl rfl wk) ?_
  show Fin1 p e below s (rmA40Q Z a1 q0 h0 n0) ({ frames := 0, cells := 0, slots := 0, locals := 0 } : Room).cells ({ frames := 0, cells := 0, slots := 0, locals := 0 } : Room).slots (T1.setTop (mkF m 11 #[.val (.ref a1), .val (.int (0 : Int32)), .unset, .unset] [(.ref a1)]))
  obtain ⟨T2, X2, e2, st2⟩ := getF X1 hx hZ hown (host := "") (Or.inl (hw _ (List.mem_of_getElem? (i := 32) rfl))) Via.refl e1 C0 (g := (mkF m 11 #[.val (.ref a1), .val (.int (0 : Int32)), .unset, .unset] [(.ref a1)])) rfl rfl (hb hby d9_11)
  refine own_st st2 ?_
  show Fin1 p e below s (rmA40Q Z a1 q0 h0 n0) ({ frames := 0, cells := 0, slots := 0, locals := 0 } : Room).cells ({ frames := 0, cells := 0, slots := 0, locals := 0 } : Room).slots (T2.setTop (mkF m 14 #[.val (.ref a1), .val (.int (0 : Int32)), .unset, .unset] [(.ref q0)]))
  refine own_st (fun wt wk => XS.astoreN X2.here hx rfl (hb hby d9_14) rfl rfl (l' := #[.val (.ref a1), .val (.int (0 : Int32)), .val (.ref q0), .unset]) rfl (XS.iconst X2.here hx rfl (hb hby d9_15) (XS.istoreN X2.here hx rfl (hb hby d9_16) rfl (l' := #[.val (.ref a1), .val (.int (0 : Int32)), .val (.ref q0), .val (.int (0 : Int32))]) rfl (XS.iloadN X2.here hx rfl (hb hby d9_17) rfl (XS.iloadN X2.here hx rfl (hb hby d9_18) rfl wk))))) ?_
  show Fin1 p e below s (rmA40Q Z a1 q0 h0 n0) ({ frames := 0, cells := 0, slots := 0, locals := 0 } : Room).cells ({ frames := 0, cells := 0, slots := 0, locals := 0 } : Room).slots (T2.setTop (mkF m 19 #[.val (.ref a1), .val (.int (0 : Int32)), .val (.ref q0), .val (.int (0 : Int32))] [(.int (0 : Int32)), (.int (0 : Int32))]))
  refine own_st (fun wt wk => XS.icmpYes X2.here hx rfl (pc0 := 19) (pc' := 33) rfl (hb hby d9_19) rfl (flt (by decide)).2.1 (by decide) (by decide) wk) ?_
  show Fin1 p e below s (rmA40Q Z a1 q0 h0 n0) ({ frames := 0, cells := 0, slots := 0, locals := 0 } : Room).cells ({ frames := 0, cells := 0, slots := 0, locals := 0 } : Room).slots (T2.setTop (mkF m 33 #[.val (.ref a1), .val (.int (0 : Int32)), .val (.ref q0), .val (.int (0 : Int32))] []))
  refine own_st (fun wt wk => XS.goto X2.here hx rfl (pc0 := 33) (pc' := 64) rfl (hb hby d9_33) (by decide) (by decide) (XS.aloadN X2.here hx rfl (hb hby d9_64) rfl rfl wk)) ?_
  show Fin1 p e below s (rmA40Q Z a1 q0 h0 n0) ({ frames := 0, cells := 0, slots := 0, locals := 0 } : Room).cells ({ frames := 0, cells := 0, slots := 0, locals := 0 } : Room).slots (T2.setTop (mkF m 65 #[.val (.ref a1), .val (.int (0 : Int32)), .val (.ref q0), .val (.int (0 : Int32))] [(.ref q0)]))
  exact own_retA X2 hx hlk hret rfl rfl (hb hby d9_65) (by rw [e2]; exact ⟨rfl, N0, rfl⟩) (by decide) (by decide)
def rmG40Q (Z : State) (a1 : Addr) (q0 : Addr) (x : Addr) (h0 : Heap) (n0 : Nat) (v : Option Value) (h : Heap) (L : List Loc) : Prop := v = some (.ref x) ∧ Fr n0 L ∧ h = h0
set_option maxRecDepth 65536 in
set_option maxHeartbeats 40000000 in
theorem rmG40 (l : Launch) (Z : State) (a0 : Array Value) (hw : ∀ d ∈ tables_1, d.before a0 Z = true) (a1 : Addr) (q0 : Addr) (x : Addr) (h0 : Heap) (n0 : Nat) (Z0 : n0 ≤ h0.size) (E_a1 : Exa Z h0 a1 "com/example/listwright/listwright/LinkedStorage") (Z_a1 : Fld Z h0 a1 "com/example/listwright/listwright/LinkedStorage" "size" "I" (.int (4 : Int32))) (C0 : Fld Z h0 a1 "com/example/listwright/listwright/LinkedStorage" "head" "Lcom/example/listwright/listwright/LinkedStorage$Node;" (.ref q0)) (El : Fld Z h0 q0 "com/example/listwright/listwright/LinkedStorage$Node" "element" "Ljava/lang/Object;" (.ref x)) :
    Ct l Z [] (⟨"com/example/listwright/listwright/LinkedStorage", "get", "(I)Ljava/lang/Object;"⟩ : MethodName) prog_19_method_3_code 2 (some (.object "java/lang/Object")) ({ frames := 1, cells := 0, slots := 0, locals := 15 } : Room) #[(.ref a1), (.int (0 : Int32))] h0 (rmG40Q Z a1 q0 x h0 n0) := by
  refine own_enter (plainFor_of_name pn_5) ?_
  intro p e s m below meth c T0 X0 hx hby hml hZ hown hnm hret hlk e0
  have hown : s.vm.findClass "com/example/listwright/listwright/LinkedStorage" = some m.cls := hown
  have N0 := Fr.nil n0
  have K0 := Keep.refl h0 []
  refine own_st (fun wt wk => castTop (g' := mkF m 0 #[.val (.ref a1), .val (.int (0 : Int32))] []) (by first | (simp [entryFrame, mkF, argsToLocals, Value.category]; done) | rfl) wk) ?_
  show Fin1 p e below s (rmG40Q Z a1 q0 x h0 n0) ({ frames := 1, cells := 0, slots := 0, locals := 15 } : Room).cells ({ frames := 1, cells := 0, slots := 0, locals := 15 } : Room).slots (T0.setTop (mkF m 0 #[.val (.ref a1), .val (.int (0 : Int32))] []))
  refine own_st (fun wt wk => XS.aloadN X0.here hx rfl (hb hby d14_0) rfl rfl (XS.iloadN X0.here hx rfl (hb hby d14_1) rfl wk)) ?_
  show Fin1 p e below s (rmG40Q Z a1 q0 x h0 n0) ({ frames := 1, cells := 0, slots := 0, locals := 15 } : Room).cells ({ frames := 1, cells := 0, slots := 0, locals := 15 } : Room).slots (T0.setTop (mkF m 2 #[.val (.ref a1), .val (.int (0 : Int32))] [(.int (0 : Int32)), (.ref a1)]))
  obtain ⟨v1, T1, h1, L1, X1, e1, hQ1, st1⟩ := own_private X0 hx hZ hown (hw _ (List.mem_of_getElem? (i := 55) rfl)) (hw _ (List.mem_of_getElem? (i := 56) rfl)) (hw _ (List.mem_of_getElem? (i := 3) rfl)) (hw _ (List.mem_of_getElem? (i := 57) rfl)) (hw _ (List.mem_of_getElem? (i := 58) rfl)) (hw _ (List.mem_of_getElem? (i := 4) rfl)) (by decide) (a := a1) E_a1 (rmA40 l Z a0 hw a1 q0 h0 n0 Z0 Z_a1 C0) e0 (g := (mkF m 2 #[.val (.ref a1), .val (.int (0 : Int32))] [(.int (0 : Int32)), (.ref a1)])) rfl (by rw [hml]; rfl) (argsL := [(.int (0 : Int32))]) (rest := []) (lenOf pd_9 rfl) rfl (W := 0) (by show 2 * 0 + _ ≤ _; exact Nat.le_of_eq rfl) (hb hby d14_2) (by decide) (by decide) (by decide) (by decide)
  obtain ⟨rfl, N1q, hh1⟩ := hQ1
  have N1 := Fr.app N0 N1q
  rw [hh1] at e1
  refine own_st st1 ?_
  show Fin1 p e below s (rmG40Q Z a1 q0 x h0 n0) ({ frames := 1, cells := 0, slots := 0, locals := 15 } : Room).cells ({ frames := 1, cells := 0, slots := 0, locals := 15 } : Room).slots (T1.setTop (mkF m 5 #[.val (.ref a1), .val (.int (0 : Int32))] [(.ref q0)]))
  obtain ⟨T2, X2, e2, st2⟩ := own_getRef X1 hx hZ hown (hw _ (List.mem_of_getElem? (i := 64) rfl)) e1 El (g := (mkF m 5 #[.val (.ref a1), .val (.int (0 : Int32))] [(.ref q0)])) rfl rfl (hb hby d14_5)
  refine own_st st2 ?_
  show Fin1 p e below s (rmG40Q Z a1 q0 x h0 n0) ({ frames := 1, cells := 0, slots := 0, locals := 15 } : Room).cells ({ frames := 1, cells := 0, slots := 0, locals := 15 } : Room).slots (T2.setTop (mkF m 8 #[.val (.ref a1), .val (.int (0 : Int32))] [(.ref x)]))
  exact own_retA X2 hx hlk hret rfl rfl (hb hby d14_8) (by rw [e2]; exact ⟨rfl, N1, rfl⟩) (by decide) (by decide)
def rmT40Q (Z : State) (a1 : Addr) (x : Addr) (q0 : Addr) (old : Addr) (pv : Value) (nv : Value) (h0 : Heap) (n0 : Nat) (v : Option Value) (h : Heap) (L : List Loc) : Prop := v = some (.ref old) ∧ Fr n0 L ∧ Keep h0 h [q0] ∧ Fld Z h q0 "com/example/listwright/listwright/LinkedStorage$Node" "element" "Ljava/lang/Object;" (.ref x) ∧ Fld Z h q0 "com/example/listwright/listwright/LinkedStorage$Node" "previous" "Lcom/example/listwright/listwright/LinkedStorage$Node;" pv ∧ Fld Z h q0 "com/example/listwright/listwright/LinkedStorage$Node" "next" "Lcom/example/listwright/listwright/LinkedStorage$Node;" nv
set_option maxRecDepth 65536 in
set_option maxHeartbeats 40000000 in
theorem rmT40 (l : Launch) (Z : State) (a0 : Array Value) (hw : ∀ d ∈ tables_1, d.before a0 Z = true) (a1 : Addr) (x : Addr) (q0 : Addr) (old : Addr) (pv : Value) (nv : Value) (h0 : Heap) (n0 : Nat) (Z0 : n0 ≤ h0.size) (g_q0 : n0 ≤ q0) (E_a1 : Exa Z h0 a1 "com/example/listwright/listwright/LinkedStorage") (E_q0 : Exa Z h0 q0 "com/example/listwright/listwright/LinkedStorage$Node") (Z_a1 : Fld Z h0 a1 "com/example/listwright/listwright/LinkedStorage" "size" "I" (.int (4 : Int32))) (C0 : Fld Z h0 a1 "com/example/listwright/listwright/LinkedStorage" "head" "Lcom/example/listwright/listwright/LinkedStorage$Node;" (.ref q0)) (Eq0 : Fld Z h0 q0 "com/example/listwright/listwright/LinkedStorage$Node" "element" "Ljava/lang/Object;" (.ref old)) (Pq0 : Fld Z h0 q0 "com/example/listwright/listwright/LinkedStorage$Node" "previous" "Lcom/example/listwright/listwright/LinkedStorage$Node;" pv) (Nq0 : Fld Z h0 q0 "com/example/listwright/listwright/LinkedStorage$Node" "next" "Lcom/example/listwright/listwright/LinkedStorage$Node;" nv) :
    Ct l Z [] (⟨"com/example/listwright/listwright/LinkedStorage", "set", "(ILjava/lang/Object;)Ljava/lang/Object;"⟩ : MethodName) prog_19_method_4_code 5 (some (.object "java/lang/Object")) ({ frames := 1, cells := 0, slots := 0, locals := 15 } : Room) #[(.ref a1), (.int (0 : Int32)), (.ref x)] h0 (rmT40Q Z a1 x q0 old pv nv h0 n0) := by
  refine own_enter (plainFor_of_name pn_5) ?_
  intro p e s m below meth c T0 X0 hx hby hml hZ hown hnm hret hlk e0
  have hown : s.vm.findClass "com/example/listwright/listwright/LinkedStorage" = some m.cls := hown
  have N0 := Fr.nil n0
  have K0 := Keep.refl h0 [q0]
  refine own_st (fun wt wk => castTop (g' := mkF m 0 #[.val (.ref a1), .val (.int (0 : Int32)), .val (.ref x), .unset, .unset] []) (by first | (simp [entryFrame, mkF, argsToLocals, Value.category]; done) | rfl) wk) ?_
  show Fin1 p e below s (rmT40Q Z a1 x q0 old pv nv h0 n0) ({ frames := 1, cells := 0, slots := 0, locals := 15 } : Room).cells ({ frames := 1, cells := 0, slots := 0, locals := 15 } : Room).slots (T0.setTop (mkF m 0 #[.val (.ref a1), .val (.int (0 : Int32)), .val (.ref x), .unset, .unset] []))
  refine own_st (fun wt wk => XS.aloadN X0.here hx rfl (hb hby d10_0) rfl rfl (XS.iloadN X0.here hx rfl (hb hby d10_1) rfl wk)) ?_
  show Fin1 p e below s (rmT40Q Z a1 x q0 old pv nv h0 n0) ({ frames := 1, cells := 0, slots := 0, locals := 15 } : Room).cells ({ frames := 1, cells := 0, slots := 0, locals := 15 } : Room).slots (T0.setTop (mkF m 2 #[.val (.ref a1), .val (.int (0 : Int32)), .val (.ref x), .unset, .unset] [(.int (0 : Int32)), (.ref a1)]))
  obtain ⟨v1, T1, h1, L1, X1, e1, hQ1, st1⟩ := own_private X0 hx hZ hown (hw _ (List.mem_of_getElem? (i := 55) rfl)) (hw _ (List.mem_of_getElem? (i := 56) rfl)) (hw _ (List.mem_of_getElem? (i := 3) rfl)) (hw _ (List.mem_of_getElem? (i := 57) rfl)) (hw _ (List.mem_of_getElem? (i := 58) rfl)) (hw _ (List.mem_of_getElem? (i := 4) rfl)) (by decide) (a := a1) E_a1 (rmA40 l Z a0 hw a1 q0 h0 n0 Z0 Z_a1 C0) e0 (g := (mkF m 2 #[.val (.ref a1), .val (.int (0 : Int32)), .val (.ref x), .unset, .unset] [(.int (0 : Int32)), (.ref a1)])) rfl (by rw [hml]; rfl) (argsL := [(.int (0 : Int32))]) (rest := []) (lenOf pd_9 rfl) rfl (W := 0) (by show 2 * 0 + _ ≤ _; exact Nat.le_of_eq rfl) (hb hby d10_2) (by decide) (by decide) (by decide) (by decide)
  obtain ⟨rfl, N1q, hh1⟩ := hQ1
  have N1 := Fr.app N0 N1q
  rw [hh1] at e1
  refine own_st st1 ?_
  show Fin1 p e below s (rmT40Q Z a1 x q0 old pv nv h0 n0) ({ frames := 1, cells := 0, slots := 0, locals := 15 } : Room).cells ({ frames := 1, cells := 0, slots := 0, locals := 15 } : Room).slots (T1.setTop (mkF m 5 #[.val (.ref a1), .val (.int (0 : Int32)), .val (.ref x), .unset, .unset] [(.ref q0)]))
  refine own_st (fun wt wk => XS.astoreN X1.here hx rfl (hb hby d10_5) rfl rfl (l' := #[.val (.ref a1), .val (.int (0 : Int32)), .val (.ref x), .val (.ref q0), .unset]) rfl (XS.aloadN X1.here hx rfl (hb hby d10_6) rfl rfl wk)) ?_
  show Fin1 p e below s (rmT40Q Z a1 x q0 old pv nv h0 n0) ({ frames := 1, cells := 0, slots := 0, locals := 15 } : Room).cells ({ frames := 1, cells := 0, slots := 0, locals := 15 } : Room).slots (T1.setTop (mkF m 7 #[.val (.ref a1), .val (.int (0 : Int32)), .val (.ref x), .val (.ref q0), .unset] [(.ref q0)]))
  obtain ⟨T2, X2, e2, st2⟩ := own_getRef X1 hx hZ hown (hw _ (List.mem_of_getElem? (i := 64) rfl)) e1 Eq0 (g := (mkF m 7 #[.val (.ref a1), .val (.int (0 : Int32)), .val (.ref x), .val (.ref q0), .unset] [(.ref q0)])) rfl rfl (hb hby d10_7)
  refine own_st st2 ?_
  show Fin1 p e below s (rmT40Q Z a1 x q0 old pv nv h0 n0) ({ frames := 1, cells := 0, slots := 0, locals := 15 } : Room).cells ({ frames := 1, cells := 0, slots := 0, locals := 15 } : Room).slots (T2.setTop (mkF m 10 #[.val (.ref a1), .val (.int (0 : Int32)), .val (.ref x), .val (.ref q0), .unset] [(.ref old)]))
  refine own_st (fun wt wk => XS.astore X2.here hx rfl (hb hby d10_10) rfl rfl (l' := #[.val (.ref a1), .val (.int (0 : Int32)), .val (.ref x), .val (.ref q0), .val (.ref old)]) rfl (XS.aloadN X2.here hx rfl (hb hby d10_12) rfl rfl (XS.aloadN X2.here hx rfl (hb hby d10_13) rfl rfl wk))) ?_
  show Fin1 p e below s (rmT40Q Z a1 x q0 old pv nv h0 n0) ({ frames := 1, cells := 0, slots := 0, locals := 15 } : Room).cells ({ frames := 1, cells := 0, slots := 0, locals := 15 } : Room).slots (T2.setTop (mkF m 14 #[.val (.ref a1), .val (.int (0 : Int32)), .val (.ref x), .val (.ref q0), .val (.ref old)] [(.ref x), (.ref q0)]))
  obtain ⟨T3, h3, X3, e3, W3, st3⟩ := own_putRef X2 hx hZ hown (hw _ (List.mem_of_getElem? (i := 64) rfl)) e2 Eq0 E_q0 (hw _ (List.mem_of_getElem? (i := 42) rfl)) (hw _ (List.mem_of_getElem? (i := 35) rfl)) (ty := (.object "java/lang/Object")) (by decide) rfl rfl (g := (mkF m 14 #[.val (.ref a1), .val (.int (0 : Int32)), .val (.ref x), .val (.ref q0), .val (.ref old)] [(.ref x), (.ref q0)])) rfl rfl (hb hby d10_14)
  refine own_st st3 ?_
  have N3 := Fr.snoc X3 N1 g_q0
  have Z0 := Nat.le_trans Z0 (Nat.le_of_eq W3.size.symm)
  have K0 := K0.wr W3 (Or.inl (List.mem_of_getElem? (i := 0) rfl))
  have E_q0 := E_q0.wr W3
  have Eq0 := Eq0.same W3
  have Pq0 := Pq0.other W3 (Or.inr (slot_ne (Or.inl (hw _ (List.mem_of_getElem? (i := 48) rfl))) (Or.inl (hw _ (List.mem_of_getElem? (i := 42) rfl))) (by decide) (t := (.object "com/example/listwright/listwright/LinkedStorage$Node")) (t' := (.object "java/lang/Object")) (by decide) (by decide)))
  have Nq0 := Nq0.other W3 (Or.inr (slot_ne (Or.inl (hw _ (List.mem_of_getElem? (i := 50) rfl))) (Or.inl (hw _ (List.mem_of_getElem? (i := 42) rfl))) (by decide) (t := (.object "com/example/listwright/listwright/LinkedStorage$Node")) (t' := (.object "java/lang/Object")) (by decide) (by decide)))
  show Fin1 p e below s (rmT40Q Z a1 x q0 old pv nv h0 n0) ({ frames := 1, cells := 0, slots := 0, locals := 15 } : Room).cells ({ frames := 1, cells := 0, slots := 0, locals := 15 } : Room).slots (T3.setTop (mkF m 17 #[.val (.ref a1), .val (.int (0 : Int32)), .val (.ref x), .val (.ref q0), .val (.ref old)] []))
  refine own_st (fun wt wk => XS.aload X3.here hx rfl (hb hby d10_17) rfl rfl wk) ?_
  show Fin1 p e below s (rmT40Q Z a1 x q0 old pv nv h0 n0) ({ frames := 1, cells := 0, slots := 0, locals := 15 } : Room).cells ({ frames := 1, cells := 0, slots := 0, locals := 15 } : Room).slots (T3.setTop (mkF m 19 #[.val (.ref a1), .val (.int (0 : Int32)), .val (.ref x), .val (.ref q0), .val (.ref old)] [(.ref old)]))
  exact own_retA X3 hx hlk hret rfl rfl (hb hby d10_19) (by rw [e3]; exact ⟨rfl, N3, K0, Eq0, Pq0, Nq0⟩) (by decide) (by decide)
def rmA41Q (Z : State) (a1 : Addr) (q0 : Addr) (q1 : Addr) (h0 : Heap) (n0 : Nat) (v : Option Value) (h : Heap) (L : List Loc) : Prop := v = some (.ref q1) ∧ Fr n0 L ∧ h = h0
set_option maxRecDepth 65536 in
set_option maxHeartbeats 40000000 in
theorem rmA41 (l : Launch) (Z : State) (a0 : Array Value) (hw : ∀ d ∈ tables_1, d.before a0 Z = true) (a1 : Addr) (q0 : Addr) (q1 : Addr) (h0 : Heap) (n0 : Nat) (Z0 : n0 ≤ h0.size) (Z_a1 : Fld Z h0 a1 "com/example/listwright/listwright/LinkedStorage" "size" "I" (.int (4 : Int32))) (C0 : Fld Z h0 a1 "com/example/listwright/listwright/LinkedStorage" "head" "Lcom/example/listwright/listwright/LinkedStorage$Node;" (.ref q0)) (C1 : Fld Z h0 q0 "com/example/listwright/listwright/LinkedStorage$Node" "next" "Lcom/example/listwright/listwright/LinkedStorage$Node;" (.ref q1)) :
    Ct l Z [] (⟨"com/example/listwright/listwright/LinkedStorage", "nodeAt", "(I)Lcom/example/listwright/listwright/LinkedStorage$Node;"⟩ : MethodName) prog_19_method_16_code 4 (some (.object "com/example/listwright/listwright/LinkedStorage$Node")) ({ frames := 0, cells := 0, slots := 0, locals := 0 } : Room) #[(.ref a1), (.int (1 : Int32))] h0 (rmA41Q Z a1 q0 q1 h0 n0) := by
  refine own_enter (plainFor_of_name pn_5) ?_
  intro p e s m below meth c T0 X0 hx hby hml hZ hown hnm hret hlk e0
  have hown : s.vm.findClass "com/example/listwright/listwright/LinkedStorage" = some m.cls := hown
  have N0 := Fr.nil n0
  have K0 := Keep.refl h0 []
  refine own_st (fun wt wk => castTop (g' := mkF m 0 #[.val (.ref a1), .val (.int (1 : Int32)), .unset, .unset] []) (by first | (simp [entryFrame, mkF, argsToLocals, Value.category]; done) | rfl) wk) ?_
  show Fin1 p e below s (rmA41Q Z a1 q0 q1 h0 n0) ({ frames := 0, cells := 0, slots := 0, locals := 0 } : Room).cells ({ frames := 0, cells := 0, slots := 0, locals := 0 } : Room).slots (T0.setTop (mkF m 0 #[.val (.ref a1), .val (.int (1 : Int32)), .unset, .unset] []))
  refine own_st (fun wt wk => XS.iloadN X0.here hx rfl (hb hby d9_0) rfl (XS.aloadN X0.here hx rfl (hb hby d9_1) rfl rfl wk)) ?_
  show Fin1 p e below s (rmA41Q Z a1 q0 q1 h0 n0) ({ frames := 0, cells := 0, slots := 0, locals := 0 } : Room).cells ({ frames := 0, cells := 0, slots := 0, locals := 0 } : Room).slots (T0.setTop (mkF m 2 #[.val (.ref a1), .val (.int (1 : Int32)), .unset, .unset] [(.ref a1), (.int (1 : Int32))]))
  obtain ⟨T1, X1, e1, st1⟩ := getF X0 hx hZ hown (host := "") (Or.inl (hw _ (List.mem_of_getElem? (i := 53) rfl))) Via.refl e0 Z_a1 (g := (mkF m 2 #[.val (.ref a1), .val (.int (1 : Int32)), .unset, .unset] [(.ref a1), (.int (1 : Int32))])) rfl rfl (hb hby d9_2)
  refine own_st st1 ?_
  show Fin1 p e below s (rmA41Q Z a1 q0 q1 h0 n0) ({ frames := 0, cells := 0, slots := 0, locals := 0 } : Room).cells ({ frames := 0, cells := 0, slots := 0, locals := 0 } : Room).slots (T1.setTop (mkF m 5 #[.val (.ref a1), .val (.int (1 : Int32)), .unset, .unset] [(.int (4 : Int32)), (.int (1 : Int32))]))
  refine own_st (fun wt wk => XS.iconst X1.here hx rfl (hb hby d9_5) wk) ?_
  show Fin1 p e below s (rmA41Q Z a1 q0 q1 h0 n0) ({ frames := 0, cells := 0, slots := 0, locals := 0 } : Room).cells ({ frames := 0, cells := 0, slots := 0, locals := 0 } : Room).slots (T1.setTop (mkF m 6 #[.val (.ref a1), .val (.int (1 : Int32)), .unset, .unset] [(.int (2 : Int32)), (.int (4 : Int32)), (.int (1 : Int32))]))
  refine own_st (fun wt wk => XS.idiv X1.here hx rfl (hb hby d9_6) rfl (by decide) wk) ?_
  show Fin1 p e below s (rmA41Q Z a1 q0 q1 h0 n0) ({ frames := 0, cells := 0, slots := 0, locals := 0 } : Room).cells ({ frames := 0, cells := 0, slots := 0, locals := 0 } : Room).slots (T1.setTop (mkF m 7 #[.val (.ref a1), .val (.int (1 : Int32)), .unset, .unset] [(.int ((4 : Int32) / (2 : Int32))), (.int (1 : Int32))]))
  rw [show ((4 : Int32) / (2 : Int32)) = (2 : Int32) from by decide]
  show Fin1 p e below s (rmA41Q Z a1 q0 q1 h0 n0) ({ frames := 0, cells := 0, slots := 0, locals := 0 } : Room).cells ({ frames := 0, cells := 0, slots := 0, locals := 0 } : Room).slots (T1.setTop (mkF m 7 #[.val (.ref a1), .val (.int (1 : Int32)), .unset, .unset] [(.int (2 : Int32)), (.int (1 : Int32))]))
  refine own_st (fun wt wk => XS.icmpNo X1.here hx rfl (hb hby d9_7) rfl (tlt (by decide)).2.1 wk) ?_
  show Fin1 p e below s (rmA41Q Z a1 q0 q1 h0 n0) ({ frames := 0, cells := 0, slots := 0, locals := 0 } : Room).cells ({ frames := 0, cells := 0, slots := 0, locals := 0 } : Room).slots (T1.setTop (mkF m 10 #[.val (.ref a1), .val (.int (1 : Int32)), .unset, .unset] []))
  refine own_st (fun wt wk => XS.aloadN X1.here hx rfl (hb hby d9_10) rfl rfl wk) ?_
  show Fin1 p e below s (rmA41Q Z a1 q0 q1 h0 n0) ({ frames := 0, cells := 0, slots := 0, locals := 0 } : Room).cells ({ frames := 0, cells := 0, slots := 0, locals := 0 } : Room).slots (T1.setTop (mkF m 11 #[.val (.ref a1), .val (.int (1 : Int32)), .unset, .unset] [(.ref a1)]))
  obtain ⟨T2, X2, e2, st2⟩ := getF X1 hx hZ hown (host := "") (Or.inl (hw _ (List.mem_of_getElem? (i := 32) rfl))) Via.refl e1 C0 (g := (mkF m 11 #[.val (.ref a1), .val (.int (1 : Int32)), .unset, .unset] [(.ref a1)])) rfl rfl (hb hby d9_11)
  refine own_st st2 ?_
  show Fin1 p e below s (rmA41Q Z a1 q0 q1 h0 n0) ({ frames := 0, cells := 0, slots := 0, locals := 0 } : Room).cells ({ frames := 0, cells := 0, slots := 0, locals := 0 } : Room).slots (T2.setTop (mkF m 14 #[.val (.ref a1), .val (.int (1 : Int32)), .unset, .unset] [(.ref q0)]))
  refine own_st (fun wt wk => XS.astoreN X2.here hx rfl (hb hby d9_14) rfl rfl (l' := #[.val (.ref a1), .val (.int (1 : Int32)), .val (.ref q0), .unset]) rfl (XS.iconst X2.here hx rfl (hb hby d9_15) (XS.istoreN X2.here hx rfl (hb hby d9_16) rfl (l' := #[.val (.ref a1), .val (.int (1 : Int32)), .val (.ref q0), .val (.int (0 : Int32))]) rfl (XS.iloadN X2.here hx rfl (hb hby d9_17) rfl (XS.iloadN X2.here hx rfl (hb hby d9_18) rfl wk))))) ?_
  show Fin1 p e below s (rmA41Q Z a1 q0 q1 h0 n0) ({ frames := 0, cells := 0, slots := 0, locals := 0 } : Room).cells ({ frames := 0, cells := 0, slots := 0, locals := 0 } : Room).slots (T2.setTop (mkF m 19 #[.val (.ref a1), .val (.int (1 : Int32)), .val (.ref q0), .val (.int (0 : Int32))] [(.int (1 : Int32)), (.int (0 : Int32))]))
  refine own_st (fun wt wk => XS.icmpNo X2.here hx rfl (hb hby d9_19) rfl (tlt (by decide)).2.1 wk) ?_
  show Fin1 p e below s (rmA41Q Z a1 q0 q1 h0 n0) ({ frames := 0, cells := 0, slots := 0, locals := 0 } : Room).cells ({ frames := 0, cells := 0, slots := 0, locals := 0 } : Room).slots (T2.setTop (mkF m 22 #[.val (.ref a1), .val (.int (1 : Int32)), .val (.ref q0), .val (.int (0 : Int32))] []))
  refine own_st (fun wt wk => XS.aloadN X2.here hx rfl (hb hby d9_22) rfl rfl wk) ?_
  show Fin1 p e below s (rmA41Q Z a1 q0 q1 h0 n0) ({ frames := 0, cells := 0, slots := 0, locals := 0 } : Room).cells ({ frames := 0, cells := 0, slots := 0, locals := 0 } : Room).slots (T2.setTop (mkF m 23 #[.val (.ref a1), .val (.int (1 : Int32)), .val (.ref q0), .val (.int (0 : Int32))] [(.ref q0)]))
  obtain ⟨T3, X3, e3, st3⟩ := own_getRef X2 hx hZ hown (hw _ (List.mem_of_getElem? (i := 49) rfl)) e2 C1 (g := (mkF m 23 #[.val (.ref a1), .val (.int (1 : Int32)), .val (.ref q0), .val (.int (0 : Int32))] [(.ref q0)])) rfl rfl (hb hby d9_23)
  refine own_st st3 ?_
  show Fin1 p e below s (rmA41Q Z a1 q0 q1 h0 n0) ({ frames := 0, cells := 0, slots := 0, locals := 0 } : Room).cells ({ frames := 0, cells := 0, slots := 0, locals := 0 } : Room).slots (T3.setTop (mkF m 26 #[.val (.ref a1), .val (.int (1 : Int32)), .val (.ref q0), .val (.int (0 : Int32))] [(.ref q1)]))
  refine own_st (fun wt wk => XS.astoreN X3.here hx rfl (hb hby d9_26) rfl rfl (l' := #[.val (.ref a1), .val (.int (1 : Int32)), .val (.ref q1), .val (.int (0 : Int32))]) rfl (XS.iinc X3.here hx rfl (hb hby d9_27) rfl (l' := #[.val (.ref a1), .val (.int (1 : Int32)), .val (.ref q1), .val (.int (1 : Int32))]) rfl (XS.goto X3.here hx rfl (pc0 := 30) (pc' := 17) rfl (hb hby d9_30) (by decide) (by decide) (XS.iloadN X3.here hx rfl (hb hby d9_17) rfl (XS.iloadN X3.here hx rfl (hb hby d9_18) rfl wk))))) ?_
  show Fin1 p e below s (rmA41Q Z a1 q0 q1 h0 n0) ({ frames := 0, cells := 0, slots := 0, locals := 0 } : Room).cells ({ frames := 0, cells := 0, slots := 0, locals := 0 } : Room).slots (T3.setTop (mkF m 19 #[.val (.ref a1), .val (.int (1 : Int32)), .val (.ref q1), .val (.int (1 : Int32))] [(.int (1 : Int32)), (.int (1 : Int32))]))
  refine own_st (fun wt wk => XS.icmpYes X3.here hx rfl (pc0 := 19) (pc' := 33) rfl (hb hby d9_19) rfl (flt (by decide)).2.1 (by decide) (by decide) wk) ?_
  show Fin1 p e below s (rmA41Q Z a1 q0 q1 h0 n0) ({ frames := 0, cells := 0, slots := 0, locals := 0 } : Room).cells ({ frames := 0, cells := 0, slots := 0, locals := 0 } : Room).slots (T3.setTop (mkF m 33 #[.val (.ref a1), .val (.int (1 : Int32)), .val (.ref q1), .val (.int (1 : Int32))] []))
  refine own_st (fun wt wk => XS.goto X3.here hx rfl (pc0 := 33) (pc' := 64) rfl (hb hby d9_33) (by decide) (by decide) (XS.aloadN X3.here hx rfl (hb hby d9_64) rfl rfl wk)) ?_
  show Fin1 p e below s (rmA41Q Z a1 q0 q1 h0 n0) ({ frames := 0, cells := 0, slots := 0, locals := 0 } : Room).cells ({ frames := 0, cells := 0, slots := 0, locals := 0 } : Room).slots (T3.setTop (mkF m 65 #[.val (.ref a1), .val (.int (1 : Int32)), .val (.ref q1), .val (.int (1 : Int32))] [(.ref q1)]))
  exact own_retA X3 hx hlk hret rfl rfl (hb hby d9_65) (by rw [e3]; exact ⟨rfl, N0, rfl⟩) (by decide) (by decide)
def rmG41Q (Z : State) (a1 : Addr) (q0 : Addr) (q1 : Addr) (x : Addr) (h0 : Heap) (n0 : Nat) (v : Option Value) (h : Heap) (L : List Loc) : Prop := v = some (.ref x) ∧ Fr n0 L ∧ h = h0
set_option maxRecDepth 65536 in
set_option maxHeartbeats 40000000 in
theorem rmG41 (l : Launch) (Z : State) (a0 : Array Value) (hw : ∀ d ∈ tables_1, d.before a0 Z = true) (a1 : Addr) (q0 : Addr) (q1 : Addr) (x : Addr) (h0 : Heap) (n0 : Nat) (Z0 : n0 ≤ h0.size) (E_a1 : Exa Z h0 a1 "com/example/listwright/listwright/LinkedStorage") (Z_a1 : Fld Z h0 a1 "com/example/listwright/listwright/LinkedStorage" "size" "I" (.int (4 : Int32))) (C0 : Fld Z h0 a1 "com/example/listwright/listwright/LinkedStorage" "head" "Lcom/example/listwright/listwright/LinkedStorage$Node;" (.ref q0)) (C1 : Fld Z h0 q0 "com/example/listwright/listwright/LinkedStorage$Node" "next" "Lcom/example/listwright/listwright/LinkedStorage$Node;" (.ref q1)) (El : Fld Z h0 q1 "com/example/listwright/listwright/LinkedStorage$Node" "element" "Ljava/lang/Object;" (.ref x)) :
    Ct l Z [] (⟨"com/example/listwright/listwright/LinkedStorage", "get", "(I)Ljava/lang/Object;"⟩ : MethodName) prog_19_method_3_code 2 (some (.object "java/lang/Object")) ({ frames := 1, cells := 0, slots := 0, locals := 15 } : Room) #[(.ref a1), (.int (1 : Int32))] h0 (rmG41Q Z a1 q0 q1 x h0 n0) := by
  refine own_enter (plainFor_of_name pn_5) ?_
  intro p e s m below meth c T0 X0 hx hby hml hZ hown hnm hret hlk e0
  have hown : s.vm.findClass "com/example/listwright/listwright/LinkedStorage" = some m.cls := hown
  have N0 := Fr.nil n0
  have K0 := Keep.refl h0 []
  refine own_st (fun wt wk => castTop (g' := mkF m 0 #[.val (.ref a1), .val (.int (1 : Int32))] []) (by first | (simp [entryFrame, mkF, argsToLocals, Value.category]; done) | rfl) wk) ?_
  show Fin1 p e below s (rmG41Q Z a1 q0 q1 x h0 n0) ({ frames := 1, cells := 0, slots := 0, locals := 15 } : Room).cells ({ frames := 1, cells := 0, slots := 0, locals := 15 } : Room).slots (T0.setTop (mkF m 0 #[.val (.ref a1), .val (.int (1 : Int32))] []))
  refine own_st (fun wt wk => XS.aloadN X0.here hx rfl (hb hby d14_0) rfl rfl (XS.iloadN X0.here hx rfl (hb hby d14_1) rfl wk)) ?_
  show Fin1 p e below s (rmG41Q Z a1 q0 q1 x h0 n0) ({ frames := 1, cells := 0, slots := 0, locals := 15 } : Room).cells ({ frames := 1, cells := 0, slots := 0, locals := 15 } : Room).slots (T0.setTop (mkF m 2 #[.val (.ref a1), .val (.int (1 : Int32))] [(.int (1 : Int32)), (.ref a1)]))
  obtain ⟨v1, T1, h1, L1, X1, e1, hQ1, st1⟩ := own_private X0 hx hZ hown (hw _ (List.mem_of_getElem? (i := 55) rfl)) (hw _ (List.mem_of_getElem? (i := 56) rfl)) (hw _ (List.mem_of_getElem? (i := 3) rfl)) (hw _ (List.mem_of_getElem? (i := 57) rfl)) (hw _ (List.mem_of_getElem? (i := 58) rfl)) (hw _ (List.mem_of_getElem? (i := 4) rfl)) (by decide) (a := a1) E_a1 (rmA41 l Z a0 hw a1 q0 q1 h0 n0 Z0 Z_a1 C0 C1) e0 (g := (mkF m 2 #[.val (.ref a1), .val (.int (1 : Int32))] [(.int (1 : Int32)), (.ref a1)])) rfl (by rw [hml]; rfl) (argsL := [(.int (1 : Int32))]) (rest := []) (lenOf pd_9 rfl) rfl (W := 0) (by show 2 * 0 + _ ≤ _; exact Nat.le_of_eq rfl) (hb hby d14_2) (by decide) (by decide) (by decide) (by decide)
  obtain ⟨rfl, N1q, hh1⟩ := hQ1
  have N1 := Fr.app N0 N1q
  rw [hh1] at e1
  refine own_st st1 ?_
  show Fin1 p e below s (rmG41Q Z a1 q0 q1 x h0 n0) ({ frames := 1, cells := 0, slots := 0, locals := 15 } : Room).cells ({ frames := 1, cells := 0, slots := 0, locals := 15 } : Room).slots (T1.setTop (mkF m 5 #[.val (.ref a1), .val (.int (1 : Int32))] [(.ref q1)]))
  obtain ⟨T2, X2, e2, st2⟩ := own_getRef X1 hx hZ hown (hw _ (List.mem_of_getElem? (i := 64) rfl)) e1 El (g := (mkF m 5 #[.val (.ref a1), .val (.int (1 : Int32))] [(.ref q1)])) rfl rfl (hb hby d14_5)
  refine own_st st2 ?_
  show Fin1 p e below s (rmG41Q Z a1 q0 q1 x h0 n0) ({ frames := 1, cells := 0, slots := 0, locals := 15 } : Room).cells ({ frames := 1, cells := 0, slots := 0, locals := 15 } : Room).slots (T2.setTop (mkF m 8 #[.val (.ref a1), .val (.int (1 : Int32))] [(.ref x)]))
  exact own_retA X2 hx hlk hret rfl rfl (hb hby d14_8) (by rw [e2]; exact ⟨rfl, N1, rfl⟩) (by decide) (by decide)
def rmT41Q (Z : State) (a1 : Addr) (x : Addr) (q0 : Addr) (q1 : Addr) (old : Addr) (pv : Value) (nv : Value) (h0 : Heap) (n0 : Nat) (v : Option Value) (h : Heap) (L : List Loc) : Prop := v = some (.ref old) ∧ Fr n0 L ∧ Keep h0 h [q1] ∧ Fld Z h q1 "com/example/listwright/listwright/LinkedStorage$Node" "element" "Ljava/lang/Object;" (.ref x) ∧ Fld Z h q1 "com/example/listwright/listwright/LinkedStorage$Node" "previous" "Lcom/example/listwright/listwright/LinkedStorage$Node;" pv ∧ Fld Z h q1 "com/example/listwright/listwright/LinkedStorage$Node" "next" "Lcom/example/listwright/listwright/LinkedStorage$Node;" nv
set_option maxRecDepth 65536 in
set_option maxHeartbeats 40000000 in
theorem rmT41 (l : Launch) (Z : State) (a0 : Array Value) (hw : ∀ d ∈ tables_1, d.before a0 Z = true) (a1 : Addr) (x : Addr) (q0 : Addr) (q1 : Addr) (old : Addr) (pv : Value) (nv : Value) (h0 : Heap) (n0 : Nat) (Z0 : n0 ≤ h0.size) (g_q1 : n0 ≤ q1) (E_a1 : Exa Z h0 a1 "com/example/listwright/listwright/LinkedStorage") (E_q1 : Exa Z h0 q1 "com/example/listwright/listwright/LinkedStorage$Node") (Z_a1 : Fld Z h0 a1 "com/example/listwright/listwright/LinkedStorage" "size" "I" (.int (4 : Int32))) (C0 : Fld Z h0 a1 "com/example/listwright/listwright/LinkedStorage" "head" "Lcom/example/listwright/listwright/LinkedStorage$Node;" (.ref q0)) (C1 : Fld Z h0 q0 "com/example/listwright/listwright/LinkedStorage$Node" "next" "Lcom/example/listwright/listwright/LinkedStorage$Node;" (.ref q1)) (Eq1 : Fld Z h0 q1 "com/example/listwright/listwright/LinkedStorage$Node" "element" "Ljava/lang/Object;" (.ref old)) (Pq1 : Fld Z h0 q1 "com/example/listwright/listwright/LinkedStorage$Node" "previous" "Lcom/example/listwright/listwright/LinkedStorage$Node;" pv) (Nq1 : Fld Z h0 q1 "com/example/listwright/listwright/LinkedStorage$Node" "next" "Lcom/example/listwright/listwright/LinkedStorage$Node;" nv) :
    Ct l Z [] (⟨"com/example/listwright/listwright/LinkedStorage", "set", "(ILjava/lang/Object;)Ljava/lang/Object;"⟩ : MethodName) prog_19_method_4_code 5 (some (.object "java/lang/Object")) ({ frames := 1, cells := 0, slots := 0, locals := 15 } : Room) #[(.ref a1), (.int (1 : Int32)), (.ref x)] h0 (rmT41Q Z a1 x q0 q1 old pv nv h0 n0) := by
  refine own_enter (plainFor_of_name pn_5) ?_
  intro p e s m below meth c T0 X0 hx hby hml hZ hown hnm hret hlk e0
  have hown : s.vm.findClass "com/example/listwright/listwright/LinkedStorage" = some m.cls := hown
  have N0 := Fr.nil n0
  have K0 := Keep.refl h0 [q1]
  refine own_st (fun wt wk => castTop (g' := mkF m 0 #[.val (.ref a1), .val (.int (1 : Int32)), .val (.ref x), .unset, .unset] []) (by first | (simp [entryFrame, mkF, argsToLocals, Value.category]; done) | rfl) wk) ?_
  show Fin1 p e below s (rmT41Q Z a1 x q0 q1 old pv nv h0 n0) ({ frames := 1, cells := 0, slots := 0, locals := 15 } : Room).cells ({ frames := 1, cells := 0, slots := 0, locals := 15 } : Room).slots (T0.setTop (mkF m 0 #[.val (.ref a1), .val (.int (1 : Int32)), .val (.ref x), .unset, .unset] []))
  refine own_st (fun wt wk => XS.aloadN X0.here hx rfl (hb hby d10_0) rfl rfl (XS.iloadN X0.here hx rfl (hb hby d10_1) rfl wk)) ?_
  show Fin1 p e below s (rmT41Q Z a1 x q0 q1 old pv nv h0 n0) ({ frames := 1, cells := 0, slots := 0, locals := 15 } : Room).cells ({ frames := 1, cells := 0, slots := 0, locals := 15 } : Room).slots (T0.setTop (mkF m 2 #[.val (.ref a1), .val (.int (1 : Int32)), .val (.ref x), .unset, .unset] [(.int (1 : Int32)), (.ref a1)]))
  obtain ⟨v1, T1, h1, L1, X1, e1, hQ1, st1⟩ := own_private X0 hx hZ hown (hw _ (List.mem_of_getElem? (i := 55) rfl)) (hw _ (List.mem_of_getElem? (i := 56) rfl)) (hw _ (List.mem_of_getElem? (i := 3) rfl)) (hw _ (List.mem_of_getElem? (i := 57) rfl)) (hw _ (List.mem_of_getElem? (i := 58) rfl)) (hw _ (List.mem_of_getElem? (i := 4) rfl)) (by decide) (a := a1) E_a1 (rmA41 l Z a0 hw a1 q0 q1 h0 n0 Z0 Z_a1 C0 C1) e0 (g := (mkF m 2 #[.val (.ref a1), .val (.int (1 : Int32)), .val (.ref x), .unset, .unset] [(.int (1 : Int32)), (.ref a1)])) rfl (by rw [hml]; rfl) (argsL := [(.int (1 : Int32))]) (rest := []) (lenOf pd_9 rfl) rfl (W := 0) (by show 2 * 0 + _ ≤ _; exact Nat.le_of_eq rfl) (hb hby d10_2) (by decide) (by decide) (by decide) (by decide)
  obtain ⟨rfl, N1q, hh1⟩ := hQ1
  have N1 := Fr.app N0 N1q
  rw [hh1] at e1
  refine own_st st1 ?_
  show Fin1 p e below s (rmT41Q Z a1 x q0 q1 old pv nv h0 n0) ({ frames := 1, cells := 0, slots := 0, locals := 15 } : Room).cells ({ frames := 1, cells := 0, slots := 0, locals := 15 } : Room).slots (T1.setTop (mkF m 5 #[.val (.ref a1), .val (.int (1 : Int32)), .val (.ref x), .unset, .unset] [(.ref q1)]))
  refine own_st (fun wt wk => XS.astoreN X1.here hx rfl (hb hby d10_5) rfl rfl (l' := #[.val (.ref a1), .val (.int (1 : Int32)), .val (.ref x), .val (.ref q1), .unset]) rfl (XS.aloadN X1.here hx rfl (hb hby d10_6) rfl rfl wk)) ?_
  show Fin1 p e below s (rmT41Q Z a1 x q0 q1 old pv nv h0 n0) ({ frames := 1, cells := 0, slots := 0, locals := 15 } : Room).cells ({ frames := 1, cells := 0, slots := 0, locals := 15 } : Room).slots (T1.setTop (mkF m 7 #[.val (.ref a1), .val (.int (1 : Int32)), .val (.ref x), .val (.ref q1), .unset] [(.ref q1)]))
  obtain ⟨T2, X2, e2, st2⟩ := own_getRef X1 hx hZ hown (hw _ (List.mem_of_getElem? (i := 64) rfl)) e1 Eq1 (g := (mkF m 7 #[.val (.ref a1), .val (.int (1 : Int32)), .val (.ref x), .val (.ref q1), .unset] [(.ref q1)])) rfl rfl (hb hby d10_7)
  refine own_st st2 ?_
  show Fin1 p e below s (rmT41Q Z a1 x q0 q1 old pv nv h0 n0) ({ frames := 1, cells := 0, slots := 0, locals := 15 } : Room).cells ({ frames := 1, cells := 0, slots := 0, locals := 15 } : Room).slots (T2.setTop (mkF m 10 #[.val (.ref a1), .val (.int (1 : Int32)), .val (.ref x), .val (.ref q1), .unset] [(.ref old)]))
  refine own_st (fun wt wk => XS.astore X2.here hx rfl (hb hby d10_10) rfl rfl (l' := #[.val (.ref a1), .val (.int (1 : Int32)), .val (.ref x), .val (.ref q1), .val (.ref old)]) rfl (XS.aloadN X2.here hx rfl (hb hby d10_12) rfl rfl (XS.aloadN X2.here hx rfl (hb hby d10_13) rfl rfl wk))) ?_
  show Fin1 p e below s (rmT41Q Z a1 x q0 q1 old pv nv h0 n0) ({ frames := 1, cells := 0, slots := 0, locals := 15 } : Room).cells ({ frames := 1, cells := 0, slots := 0, locals := 15 } : Room).slots (T2.setTop (mkF m 14 #[.val (.ref a1), .val (.int (1 : Int32)), .val (.ref x), .val (.ref q1), .val (.ref old)] [(.ref x), (.ref q1)]))
  obtain ⟨T3, h3, X3, e3, W3, st3⟩ := own_putRef X2 hx hZ hown (hw _ (List.mem_of_getElem? (i := 64) rfl)) e2 Eq1 E_q1 (hw _ (List.mem_of_getElem? (i := 42) rfl)) (hw _ (List.mem_of_getElem? (i := 35) rfl)) (ty := (.object "java/lang/Object")) (by decide) rfl rfl (g := (mkF m 14 #[.val (.ref a1), .val (.int (1 : Int32)), .val (.ref x), .val (.ref q1), .val (.ref old)] [(.ref x), (.ref q1)])) rfl rfl (hb hby d10_14)
  refine own_st st3 ?_
  have N3 := Fr.snoc X3 N1 g_q1
  have Z0 := Nat.le_trans Z0 (Nat.le_of_eq W3.size.symm)
  have K0 := K0.wr W3 (Or.inl (List.mem_of_getElem? (i := 0) rfl))
  have E_q1 := E_q1.wr W3
  have Eq1 := Eq1.same W3
  have Pq1 := Pq1.other W3 (Or.inr (slot_ne (Or.inl (hw _ (List.mem_of_getElem? (i := 48) rfl))) (Or.inl (hw _ (List.mem_of_getElem? (i := 42) rfl))) (by decide) (t := (.object "com/example/listwright/listwright/LinkedStorage$Node")) (t' := (.object "java/lang/Object")) (by decide) (by decide)))
  have Nq1 := Nq1.other W3 (Or.inr (slot_ne (Or.inl (hw _ (List.mem_of_getElem? (i := 50) rfl))) (Or.inl (hw _ (List.mem_of_getElem? (i := 42) rfl))) (by decide) (t := (.object "com/example/listwright/listwright/LinkedStorage$Node")) (t' := (.object "java/lang/Object")) (by decide) (by decide)))
  show Fin1 p e below s (rmT41Q Z a1 x q0 q1 old pv nv h0 n0) ({ frames := 1, cells := 0, slots := 0, locals := 15 } : Room).cells ({ frames := 1, cells := 0, slots := 0, locals := 15 } : Room).slots (T3.setTop (mkF m 17 #[.val (.ref a1), .val (.int (1 : Int32)), .val (.ref x), .val (.ref q1), .val (.ref old)] []))
  refine own_st (fun wt wk => XS.aload X3.here hx rfl (hb hby d10_17) rfl rfl wk) ?_
  show Fin1 p e below s (rmT41Q Z a1 x q0 q1 old pv nv h0 n0) ({ frames := 1, cells := 0, slots := 0, locals := 15 } : Room).cells ({ frames := 1, cells := 0, slots := 0, locals := 15 } : Room).slots (T3.setTop (mkF m 19 #[.val (.ref a1), .val (.int (1 : Int32)), .val (.ref x), .val (.ref q1), .val (.ref old)] [(.ref old)]))
  exact own_retA X3 hx hlk hret rfl rfl (hb hby d10_19) (by rw [e3]; exact ⟨rfl, N3, K0, Eq1, Pq1, Nq1⟩) (by decide) (by decide)
def rmA42Q (Z : State) (a1 : Addr) (q2 : Addr) (q3 : Addr) (h0 : Heap) (n0 : Nat) (v : Option Value) (h : Heap) (L : List Loc) : Prop := v = some (.ref q2) ∧ Fr n0 L ∧ h = h0
set_option maxRecDepth 65536 in
set_option maxHeartbeats 40000000 in
theorem rmA42 (l : Launch) (Z : State) (a0 : Array Value) (hw : ∀ d ∈ tables_1, d.before a0 Z = true) (a1 : Addr) (q2 : Addr) (q3 : Addr) (h0 : Heap) (n0 : Nat) (Z0 : n0 ≤ h0.size) (Z_a1 : Fld Z h0 a1 "com/example/listwright/listwright/LinkedStorage" "size" "I" (.int (4 : Int32))) (C0 : Fld Z h0 a1 "com/example/listwright/listwright/LinkedStorage" "tail" "Lcom/example/listwright/listwright/LinkedStorage$Node;" (.ref q3)) (C1 : Fld Z h0 q3 "com/example/listwright/listwright/LinkedStorage$Node" "previous" "Lcom/example/listwright/listwright/LinkedStorage$Node;" (.ref q2)) :
    Ct l Z [] (⟨"com/example/listwright/listwright/LinkedStorage", "nodeAt", "(I)Lcom/example/listwright/listwright/LinkedStorage$Node;"⟩ : MethodName) prog_19_method_16_code 4 (some (.object "com/example/listwright/listwright/LinkedStorage$Node")) ({ frames := 0, cells := 0, slots := 0, locals := 0 } : Room) #[(.ref a1), (.int (2 : Int32))] h0 (rmA42Q Z a1 q2 q3 h0 n0) := by
  refine own_enter (plainFor_of_name pn_5) ?_
  intro p e s m below meth c T0 X0 hx hby hml hZ hown hnm hret hlk e0
  have hown : s.vm.findClass "com/example/listwright/listwright/LinkedStorage" = some m.cls := hown
  have N0 := Fr.nil n0
  have K0 := Keep.refl h0 []
  refine own_st (fun wt wk => castTop (g' := mkF m 0 #[.val (.ref a1), .val (.int (2 : Int32)), .unset, .unset] []) (by first | (simp [entryFrame, mkF, argsToLocals, Value.category]; done) | rfl) wk) ?_
  show Fin1 p e below s (rmA42Q Z a1 q2 q3 h0 n0) ({ frames := 0, cells := 0, slots := 0, locals := 0 } : Room).cells ({ frames := 0, cells := 0, slots := 0, locals := 0 } : Room).slots (T0.setTop (mkF m 0 #[.val (.ref a1), .val (.int (2 : Int32)), .unset, .unset] []))
  refine own_st (fun wt wk => XS.iloadN X0.here hx rfl (hb hby d9_0) rfl (XS.aloadN X0.here hx rfl (hb hby d9_1) rfl rfl wk)) ?_
  show Fin1 p e below s (rmA42Q Z a1 q2 q3 h0 n0) ({ frames := 0, cells := 0, slots := 0, locals := 0 } : Room).cells ({ frames := 0, cells := 0, slots := 0, locals := 0 } : Room).slots (T0.setTop (mkF m 2 #[.val (.ref a1), .val (.int (2 : Int32)), .unset, .unset] [(.ref a1), (.int (2 : Int32))]))
  obtain ⟨T1, X1, e1, st1⟩ := getF X0 hx hZ hown (host := "") (Or.inl (hw _ (List.mem_of_getElem? (i := 53) rfl))) Via.refl e0 Z_a1 (g := (mkF m 2 #[.val (.ref a1), .val (.int (2 : Int32)), .unset, .unset] [(.ref a1), (.int (2 : Int32))])) rfl rfl (hb hby d9_2)
  refine own_st st1 ?_
  show Fin1 p e below s (rmA42Q Z a1 q2 q3 h0 n0) ({ frames := 0, cells := 0, slots := 0, locals := 0 } : Room).cells ({ frames := 0, cells := 0, slots := 0, locals := 0 } : Room).slots (T1.setTop (mkF m 5 #[.val (.ref a1), .val (.int (2 : Int32)), .unset, .unset] [(.int (4 : Int32)), (.int (2 : Int32))]))
  refine own_st (fun wt wk => XS.iconst X1.here hx rfl (hb hby d9_5) wk) ?_
  show Fin1 p e below s (rmA42Q Z a1 q2 q3 h0 n0) ({ frames := 0, cells := 0, slots := 0, locals := 0 } : Room).cells ({ frames := 0, cells := 0, slots := 0, locals := 0 } : Room).slots (T1.setTop (mkF m 6 #[.val (.ref a1), .val (.int (2 : Int32)), .unset, .unset] [(.int (2 : Int32)), (.int (4 : Int32)), (.int (2 : Int32))]))
  refine own_st (fun wt wk => XS.idiv X1.here hx rfl (hb hby d9_6) rfl (by decide) wk) ?_
  show Fin1 p e below s (rmA42Q Z a1 q2 q3 h0 n0) ({ frames := 0, cells := 0, slots := 0, locals := 0 } : Room).cells ({ frames := 0, cells := 0, slots := 0, locals := 0 } : Room).slots (T1.setTop (mkF m 7 #[.val (.ref a1), .val (.int (2 : Int32)), .unset, .unset] [(.int ((4 : Int32) / (2 : Int32))), (.int (2 : Int32))]))
  rw [show ((4 : Int32) / (2 : Int32)) = (2 : Int32) from by decide]
  show Fin1 p e below s (rmA42Q Z a1 q2 q3 h0 n0) ({ frames := 0, cells := 0, slots := 0, locals := 0 } : Room).cells ({ frames := 0, cells := 0, slots := 0, locals := 0 } : Room).slots (T1.setTop (mkF m 7 #[.val (.ref a1), .val (.int (2 : Int32)), .unset, .unset] [(.int (2 : Int32)), (.int (2 : Int32))]))
  refine own_st (fun wt wk => XS.icmpYes X1.here hx rfl (pc0 := 7) (pc' := 36) rfl (hb hby d9_7) rfl (flt (by decide)).2.1 (by decide) (by decide) wk) ?_
  show Fin1 p e below s (rmA42Q Z a1 q2 q3 h0 n0) ({ frames := 0, cells := 0, slots := 0, locals := 0 } : Room).cells ({ frames := 0, cells := 0, slots := 0, locals := 0 } : Room).slots (T1.setTop (mkF m 36 #[.val (.ref a1), .val (.int (2 : Int32)), .unset, .unset] []))
  refine own_st (fun wt wk => XS.aloadN X1.here hx rfl (hb hby d9_36) rfl rfl wk) ?_
  show Fin1 p e below s (rmA42Q Z a1 q2 q3 h0 n0) ({ frames := 0, cells := 0, slots := 0, locals := 0 } : Room).cells ({ frames := 0, cells := 0, slots := 0, locals := 0 } : Room).slots (T1.setTop (mkF m 37 #[.val (.ref a1), .val (.int (2 : Int32)), .unset, .unset] [(.ref a1)]))
  obtain ⟨T2, X2, e2, st2⟩ := getF X1 hx hZ hown (host := "") (Or.inl (hw _ (List.mem_of_getElem? (i := 51) rfl))) Via.refl e1 C0 (g := (mkF m 37 #[.val (.ref a1), .val (.int (2 : Int32)), .unset, .unset] [(.ref a1)])) rfl rfl (hb hby d9_37)
  refine own_st st2 ?_
  show Fin1 p e below s (rmA42Q Z a1 q2 q3 h0 n0) ({ frames := 0, cells := 0, slots := 0, locals := 0 } : Room).cells ({ frames := 0, cells := 0, slots := 0, locals := 0 } : Room).slots (T2.setTop (mkF m 40 #[.val (.ref a1), .val (.int (2 : Int32)), .unset, .unset] [(.ref q3)]))
  refine own_st (fun wt wk => XS.astoreN X2.here hx rfl (hb hby d9_40) rfl rfl (l' := #[.val (.ref a1), .val (.int (2 : Int32)), .val (.ref q3), .unset]) rfl (XS.aloadN X2.here hx rfl (hb hby d9_41) rfl rfl wk)) ?_
  show Fin1 p e below s (rmA42Q Z a1 q2 q3 h0 n0) ({ frames := 0, cells := 0, slots := 0, locals := 0 } : Room).cells ({ frames := 0, cells := 0, slots := 0, locals := 0 } : Room).slots (T2.setTop (mkF m 42 #[.val (.ref a1), .val (.int (2 : Int32)), .val (.ref q3), .unset] [(.ref a1)]))
  obtain ⟨T3, X3, e3, st3⟩ := getF X2 hx hZ hown (host := "") (Or.inl (hw _ (List.mem_of_getElem? (i := 53) rfl))) Via.refl e2 Z_a1 (g := (mkF m 42 #[.val (.ref a1), .val (.int (2 : Int32)), .val (.ref q3), .unset] [(.ref a1)])) rfl rfl (hb hby d9_42)
  refine own_st st3 ?_
  show Fin1 p e below s (rmA42Q Z a1 q2 q3 h0 n0) ({ frames := 0, cells := 0, slots := 0, locals := 0 } : Room).cells ({ frames := 0, cells := 0, slots := 0, locals := 0 } : Room).slots (T3.setTop (mkF m 45 #[.val (.ref a1), .val (.int (2 : Int32)), .val (.ref q3), .unset] [(.int (4 : Int32))]))
  refine own_st (fun wt wk => XS.iconst X3.here hx rfl (hb hby d9_45) (XS.isub X3.here hx rfl (hb hby d9_46) rfl wk)) ?_
  show Fin1 p e below s (rmA42Q Z a1 q2 q3 h0 n0) ({ frames := 0, cells := 0, slots := 0, locals := 0 } : Room).cells ({ frames := 0, cells := 0, slots := 0, locals := 0 } : Room).slots (T3.setTop (mkF m 47 #[.val (.ref a1), .val (.int (2 : Int32)), .val (.ref q3), .unset] [(.int ((4 : Int32) - (1 : Int32)))]))
  rw [show ((4 : Int32) - (1 : Int32)) = (3 : Int32) from by decide]
  show Fin1 p e below s (rmA42Q Z a1 q2 q3 h0 n0) ({ frames := 0, cells := 0, slots := 0, locals := 0 } : Room).cells ({ frames := 0, cells := 0, slots := 0, locals := 0 } : Room).slots (T3.setTop (mkF m 47 #[.val (.ref a1), .val (.int (2 : Int32)), .val (.ref q3), .unset] [(.int (3 : Int32))]))
  refine own_st (fun wt wk => XS.istoreN X3.here hx rfl (hb hby d9_47) rfl (l' := #[.val (.ref a1), .val (.int (2 : Int32)), .val (.ref q3), .val (.int (3 : Int32))]) rfl (XS.iloadN X3.here hx rfl (hb hby d9_48) rfl (XS.iloadN X3.here hx rfl (hb hby d9_49) rfl wk))) ?_
  show Fin1 p e below s (rmA42Q Z a1 q2 q3 h0 n0) ({ frames := 0, cells := 0, slots := 0, locals := 0 } : Room).cells ({ frames := 0, cells := 0, slots := 0, locals := 0 } : Room).slots (T3.setTop (mkF m 50 #[.val (.ref a1), .val (.int (2 : Int32)), .val (.ref q3), .val (.int (3 : Int32))] [(.int (2 : Int32)), (.int (3 : Int32))]))
  refine own_st (fun wt wk => XS.icmpNo X3.here hx rfl (hb hby d9_50) rfl (tlt (by decide)).2.2.2 wk) ?_
  show Fin1 p e below s (rmA42Q Z a1 q2 q3 h0 n0) ({ frames := 0, cells := 0, slots := 0, locals := 0 } : Room).cells ({ frames := 0, cells := 0, slots := 0, locals := 0 } : Room).slots (T3.setTop (mkF m 53 #[.val (.ref a1), .val (.int (2 : Int32)), .val (.ref q3), .val (.int (3 : Int32))] []))
  refine own_st (fun wt wk => XS.aloadN X3.here hx rfl (hb hby d9_53) rfl rfl wk) ?_
  show Fin1 p e below s (rmA42Q Z a1 q2 q3 h0 n0) ({ frames := 0, cells := 0, slots := 0, locals := 0 } : Room).cells ({ frames := 0, cells := 0, slots := 0, locals := 0 } : Room).slots (T3.setTop (mkF m 54 #[.val (.ref a1), .val (.int (2 : Int32)), .val (.ref q3), .val (.int (3 : Int32))] [(.ref q3)]))
  obtain ⟨T4, X4, e4, st4⟩ := own_getRef X3 hx hZ hown (hw _ (List.mem_of_getElem? (i := 47) rfl)) e3 C1 (g := (mkF m 54 #[.val (.ref a1), .val (.int (2 : Int32)), .val (.ref q3), .val (.int (3 : Int32))] [(.ref q3)])) rfl rfl (hb hby d9_54)
  refine own_st st4 ?_
  show Fin1 p e below s (rmA42Q Z a1 q2 q3 h0 n0) ({ frames := 0, cells := 0, slots := 0, locals := 0 } : Room).cells ({ frames := 0, cells := 0, slots := 0, locals := 0 } : Room).slots (T4.setTop (mkF m 57 #[.val (.ref a1), .val (.int (2 : Int32)), .val (.ref q3), .val (.int (3 : Int32))] [(.ref q2)]))
  refine own_st (fun wt wk => XS.astoreN X4.here hx rfl (hb hby d9_57) rfl rfl (l' := #[.val (.ref a1), .val (.int (2 : Int32)), .val (.ref q2), .val (.int (3 : Int32))]) rfl (XS.iinc X4.here hx rfl (hb hby d9_58) rfl (l' := #[.val (.ref a1), .val (.int (2 : Int32)), .val (.ref q2), .val (.int (2 : Int32))]) rfl (XS.goto X4.here hx rfl (pc0 := 61) (pc' := 48) rfl (hb hby d9_61) (by decide) (by decide) (XS.iloadN X4.here hx rfl (hb hby d9_48) rfl (XS.iloadN X4.here hx rfl (hb hby d9_49) rfl wk))))) ?_
  show Fin1 p e below s (rmA42Q Z a1 q2 q3 h0 n0) ({ frames := 0, cells := 0, slots := 0, locals := 0 } : Room).cells ({ frames := 0, cells := 0, slots := 0, locals := 0 } : Room).slots (T4.setTop (mkF m 50 #[.val (.ref a1), .val (.int (2 : Int32)), .val (.ref q2), .val (.int (2 : Int32))] [(.int (2 : Int32)), (.int (2 : Int32))]))
  refine own_st (fun wt wk => XS.icmpYes X4.here hx rfl (pc0 := 50) (pc' := 64) rfl (hb hby d9_50) rfl (flt (by decide)).2.2.2 (by decide) (by decide) wk) ?_
  show Fin1 p e below s (rmA42Q Z a1 q2 q3 h0 n0) ({ frames := 0, cells := 0, slots := 0, locals := 0 } : Room).cells ({ frames := 0, cells := 0, slots := 0, locals := 0 } : Room).slots (T4.setTop (mkF m 64 #[.val (.ref a1), .val (.int (2 : Int32)), .val (.ref q2), .val (.int (2 : Int32))] []))
  refine own_st (fun wt wk => XS.aloadN X4.here hx rfl (hb hby d9_64) rfl rfl wk) ?_
  show Fin1 p e below s (rmA42Q Z a1 q2 q3 h0 n0) ({ frames := 0, cells := 0, slots := 0, locals := 0 } : Room).cells ({ frames := 0, cells := 0, slots := 0, locals := 0 } : Room).slots (T4.setTop (mkF m 65 #[.val (.ref a1), .val (.int (2 : Int32)), .val (.ref q2), .val (.int (2 : Int32))] [(.ref q2)]))
  exact own_retA X4 hx hlk hret rfl rfl (hb hby d9_65) (by rw [e4]; exact ⟨rfl, N0, rfl⟩) (by decide) (by decide)
def rmG42Q (Z : State) (a1 : Addr) (q2 : Addr) (q3 : Addr) (x : Addr) (h0 : Heap) (n0 : Nat) (v : Option Value) (h : Heap) (L : List Loc) : Prop := v = some (.ref x) ∧ Fr n0 L ∧ h = h0
set_option maxRecDepth 65536 in
set_option maxHeartbeats 40000000 in
theorem rmG42 (l : Launch) (Z : State) (a0 : Array Value) (hw : ∀ d ∈ tables_1, d.before a0 Z = true) (a1 : Addr) (q2 : Addr) (q3 : Addr) (x : Addr) (h0 : Heap) (n0 : Nat) (Z0 : n0 ≤ h0.size) (E_a1 : Exa Z h0 a1 "com/example/listwright/listwright/LinkedStorage") (Z_a1 : Fld Z h0 a1 "com/example/listwright/listwright/LinkedStorage" "size" "I" (.int (4 : Int32))) (C0 : Fld Z h0 a1 "com/example/listwright/listwright/LinkedStorage" "tail" "Lcom/example/listwright/listwright/LinkedStorage$Node;" (.ref q3)) (C1 : Fld Z h0 q3 "com/example/listwright/listwright/LinkedStorage$Node" "previous" "Lcom/example/listwright/listwright/LinkedStorage$Node;" (.ref q2)) (El : Fld Z h0 q2 "com/example/listwright/listwright/LinkedStorage$Node" "element" "Ljava/lang/Object;" (.ref x)) :
    Ct l Z [] (⟨"com/example/listwright/listwright/LinkedStorage", "get", "(I)Ljava/lang/Object;"⟩ : MethodName) prog_19_method_3_code 2 (some (.object "java/lang/Object")) ({ frames := 1, cells := 0, slots := 0, locals := 15 } : Room) #[(.ref a1), (.int (2 : Int32))] h0 (rmG42Q Z a1 q2 q3 x h0 n0) := by
  refine own_enter (plainFor_of_name pn_5) ?_
  intro p e s m below meth c T0 X0 hx hby hml hZ hown hnm hret hlk e0
  have hown : s.vm.findClass "com/example/listwright/listwright/LinkedStorage" = some m.cls := hown
  have N0 := Fr.nil n0
  have K0 := Keep.refl h0 []
  refine own_st (fun wt wk => castTop (g' := mkF m 0 #[.val (.ref a1), .val (.int (2 : Int32))] []) (by first | (simp [entryFrame, mkF, argsToLocals, Value.category]; done) | rfl) wk) ?_
  show Fin1 p e below s (rmG42Q Z a1 q2 q3 x h0 n0) ({ frames := 1, cells := 0, slots := 0, locals := 15 } : Room).cells ({ frames := 1, cells := 0, slots := 0, locals := 15 } : Room).slots (T0.setTop (mkF m 0 #[.val (.ref a1), .val (.int (2 : Int32))] []))
  refine own_st (fun wt wk => XS.aloadN X0.here hx rfl (hb hby d14_0) rfl rfl (XS.iloadN X0.here hx rfl (hb hby d14_1) rfl wk)) ?_
  show Fin1 p e below s (rmG42Q Z a1 q2 q3 x h0 n0) ({ frames := 1, cells := 0, slots := 0, locals := 15 } : Room).cells ({ frames := 1, cells := 0, slots := 0, locals := 15 } : Room).slots (T0.setTop (mkF m 2 #[.val (.ref a1), .val (.int (2 : Int32))] [(.int (2 : Int32)), (.ref a1)]))
  obtain ⟨v1, T1, h1, L1, X1, e1, hQ1, st1⟩ := own_private X0 hx hZ hown (hw _ (List.mem_of_getElem? (i := 55) rfl)) (hw _ (List.mem_of_getElem? (i := 56) rfl)) (hw _ (List.mem_of_getElem? (i := 3) rfl)) (hw _ (List.mem_of_getElem? (i := 57) rfl)) (hw _ (List.mem_of_getElem? (i := 58) rfl)) (hw _ (List.mem_of_getElem? (i := 4) rfl)) (by decide) (a := a1) E_a1 (rmA42 l Z a0 hw a1 q2 q3 h0 n0 Z0 Z_a1 C0 C1) e0 (g := (mkF m 2 #[.val (.ref a1), .val (.int (2 : Int32))] [(.int (2 : Int32)), (.ref a1)])) rfl (by rw [hml]; rfl) (argsL := [(.int (2 : Int32))]) (rest := []) (lenOf pd_9 rfl) rfl (W := 0) (by show 2 * 0 + _ ≤ _; exact Nat.le_of_eq rfl) (hb hby d14_2) (by decide) (by decide) (by decide) (by decide)
  obtain ⟨rfl, N1q, hh1⟩ := hQ1
  have N1 := Fr.app N0 N1q
  rw [hh1] at e1
  refine own_st st1 ?_
  show Fin1 p e below s (rmG42Q Z a1 q2 q3 x h0 n0) ({ frames := 1, cells := 0, slots := 0, locals := 15 } : Room).cells ({ frames := 1, cells := 0, slots := 0, locals := 15 } : Room).slots (T1.setTop (mkF m 5 #[.val (.ref a1), .val (.int (2 : Int32))] [(.ref q2)]))
  obtain ⟨T2, X2, e2, st2⟩ := own_getRef X1 hx hZ hown (hw _ (List.mem_of_getElem? (i := 64) rfl)) e1 El (g := (mkF m 5 #[.val (.ref a1), .val (.int (2 : Int32))] [(.ref q2)])) rfl rfl (hb hby d14_5)
  refine own_st st2 ?_
  show Fin1 p e below s (rmG42Q Z a1 q2 q3 x h0 n0) ({ frames := 1, cells := 0, slots := 0, locals := 15 } : Room).cells ({ frames := 1, cells := 0, slots := 0, locals := 15 } : Room).slots (T2.setTop (mkF m 8 #[.val (.ref a1), .val (.int (2 : Int32))] [(.ref x)]))
  exact own_retA X2 hx hlk hret rfl rfl (hb hby d14_8) (by rw [e2]; exact ⟨rfl, N1, rfl⟩) (by decide) (by decide)
def rmT42Q (Z : State) (a1 : Addr) (x : Addr) (q2 : Addr) (q3 : Addr) (old : Addr) (pv : Value) (nv : Value) (h0 : Heap) (n0 : Nat) (v : Option Value) (h : Heap) (L : List Loc) : Prop := v = some (.ref old) ∧ Fr n0 L ∧ Keep h0 h [q2] ∧ Fld Z h q2 "com/example/listwright/listwright/LinkedStorage$Node" "element" "Ljava/lang/Object;" (.ref x) ∧ Fld Z h q2 "com/example/listwright/listwright/LinkedStorage$Node" "previous" "Lcom/example/listwright/listwright/LinkedStorage$Node;" pv ∧ Fld Z h q2 "com/example/listwright/listwright/LinkedStorage$Node" "next" "Lcom/example/listwright/listwright/LinkedStorage$Node;" nv
set_option maxRecDepth 65536 in
set_option maxHeartbeats 40000000 in
theorem rmT42 (l : Launch) (Z : State) (a0 : Array Value) (hw : ∀ d ∈ tables_1, d.before a0 Z = true) (a1 : Addr) (x : Addr) (q2 : Addr) (q3 : Addr) (old : Addr) (pv : Value) (nv : Value) (h0 : Heap) (n0 : Nat) (Z0 : n0 ≤ h0.size) (g_q2 : n0 ≤ q2) (E_a1 : Exa Z h0 a1 "com/example/listwright/listwright/LinkedStorage") (E_q2 : Exa Z h0 q2 "com/example/listwright/listwright/LinkedStorage$Node") (Z_a1 : Fld Z h0 a1 "com/example/listwright/listwright/LinkedStorage" "size" "I" (.int (4 : Int32))) (C0 : Fld Z h0 a1 "com/example/listwright/listwright/LinkedStorage" "tail" "Lcom/example/listwright/listwright/LinkedStorage$Node;" (.ref q3)) (C1 : Fld Z h0 q3 "com/example/listwright/listwright/LinkedStorage$Node" "previous" "Lcom/example/listwright/listwright/LinkedStorage$Node;" (.ref q2)) (Eq2 : Fld Z h0 q2 "com/example/listwright/listwright/LinkedStorage$Node" "element" "Ljava/lang/Object;" (.ref old)) (Pq2 : Fld Z h0 q2 "com/example/listwright/listwright/LinkedStorage$Node" "previous" "Lcom/example/listwright/listwright/LinkedStorage$Node;" pv) (Nq2 : Fld Z h0 q2 "com/example/listwright/listwright/LinkedStorage$Node" "next" "Lcom/example/listwright/listwright/LinkedStorage$Node;" nv) :
    Ct l Z [] (⟨"com/example/listwright/listwright/LinkedStorage", "set", "(ILjava/lang/Object;)Ljava/lang/Object;"⟩ : MethodName) prog_19_method_4_code 5 (some (.object "java/lang/Object")) ({ frames := 1, cells := 0, slots := 0, locals := 15 } : Room) #[(.ref a1), (.int (2 : Int32)), (.ref x)] h0 (rmT42Q Z a1 x q2 q3 old pv nv h0 n0) := by
  refine own_enter (plainFor_of_name pn_5) ?_
  intro p e s m below meth c T0 X0 hx hby hml hZ hown hnm hret hlk e0
  have hown : s.vm.findClass "com/example/listwright/listwright/LinkedStorage" = some m.cls := hown
  have N0 := Fr.nil n0
  have K0 := Keep.refl h0 [q2]
  refine own_st (fun wt wk => castTop (g' := mkF m 0 #[.val (.ref a1), .val (.int (2 : Int32)), .val (.ref x), .unset, .unset] []) (by first | (simp [entryFrame, mkF, argsToLocals, Value.category]; done) | rfl) wk) ?_
  show Fin1 p e below s (rmT42Q Z a1 x q2 q3 old pv nv h0 n0) ({ frames := 1, cells := 0, slots := 0, locals := 15 } : Room).cells ({ frames := 1, cells := 0, slots := 0, locals := 15 } : Room).slots (T0.setTop (mkF m 0 #[.val (.ref a1), .val (.int (2 : Int32)), .val (.ref x), .unset, .unset] []))
  refine own_st (fun wt wk => XS.aloadN X0.here hx rfl (hb hby d10_0) rfl rfl (XS.iloadN X0.here hx rfl (hb hby d10_1) rfl wk)) ?_
  show Fin1 p e below s (rmT42Q Z a1 x q2 q3 old pv nv h0 n0) ({ frames := 1, cells := 0, slots := 0, locals := 15 } : Room).cells ({ frames := 1, cells := 0, slots := 0, locals := 15 } : Room).slots (T0.setTop (mkF m 2 #[.val (.ref a1), .val (.int (2 : Int32)), .val (.ref x), .unset, .unset] [(.int (2 : Int32)), (.ref a1)]))
  obtain ⟨v1, T1, h1, L1, X1, e1, hQ1, st1⟩ := own_private X0 hx hZ hown (hw _ (List.mem_of_getElem? (i := 55) rfl)) (hw _ (List.mem_of_getElem? (i := 56) rfl)) (hw _ (List.mem_of_getElem? (i := 3) rfl)) (hw _ (List.mem_of_getElem? (i := 57) rfl)) (hw _ (List.mem_of_getElem? (i := 58) rfl)) (hw _ (List.mem_of_getElem? (i := 4) rfl)) (by decide) (a := a1) E_a1 (rmA42 l Z a0 hw a1 q2 q3 h0 n0 Z0 Z_a1 C0 C1) e0 (g := (mkF m 2 #[.val (.ref a1), .val (.int (2 : Int32)), .val (.ref x), .unset, .unset] [(.int (2 : Int32)), (.ref a1)])) rfl (by rw [hml]; rfl) (argsL := [(.int (2 : Int32))]) (rest := []) (lenOf pd_9 rfl) rfl (W := 0) (by show 2 * 0 + _ ≤ _; exact Nat.le_of_eq rfl) (hb hby d10_2) (by decide) (by decide) (by decide) (by decide)
  obtain ⟨rfl, N1q, hh1⟩ := hQ1
  have N1 := Fr.app N0 N1q
  rw [hh1] at e1
  refine own_st st1 ?_
  show Fin1 p e below s (rmT42Q Z a1 x q2 q3 old pv nv h0 n0) ({ frames := 1, cells := 0, slots := 0, locals := 15 } : Room).cells ({ frames := 1, cells := 0, slots := 0, locals := 15 } : Room).slots (T1.setTop (mkF m 5 #[.val (.ref a1), .val (.int (2 : Int32)), .val (.ref x), .unset, .unset] [(.ref q2)]))
  refine own_st (fun wt wk => XS.astoreN X1.here hx rfl (hb hby d10_5) rfl rfl (l' := #[.val (.ref a1), .val (.int (2 : Int32)), .val (.ref x), .val (.ref q2), .unset]) rfl (XS.aloadN X1.here hx rfl (hb hby d10_6) rfl rfl wk)) ?_
  show Fin1 p e below s (rmT42Q Z a1 x q2 q3 old pv nv h0 n0) ({ frames := 1, cells := 0, slots := 0, locals := 15 } : Room).cells ({ frames := 1, cells := 0, slots := 0, locals := 15 } : Room).slots (T1.setTop (mkF m 7 #[.val (.ref a1), .val (.int (2 : Int32)), .val (.ref x), .val (.ref q2), .unset] [(.ref q2)]))
  obtain ⟨T2, X2, e2, st2⟩ := own_getRef X1 hx hZ hown (hw _ (List.mem_of_getElem? (i := 64) rfl)) e1 Eq2 (g := (mkF m 7 #[.val (.ref a1), .val (.int (2 : Int32)), .val (.ref x), .val (.ref q2), .unset] [(.ref q2)])) rfl rfl (hb hby d10_7)
  refine own_st st2 ?_
  show Fin1 p e below s (rmT42Q Z a1 x q2 q3 old pv nv h0 n0) ({ frames := 1, cells := 0, slots := 0, locals := 15 } : Room).cells ({ frames := 1, cells := 0, slots := 0, locals := 15 } : Room).slots (T2.setTop (mkF m 10 #[.val (.ref a1), .val (.int (2 : Int32)), .val (.ref x), .val (.ref q2), .unset] [(.ref old)]))
  refine own_st (fun wt wk => XS.astore X2.here hx rfl (hb hby d10_10) rfl rfl (l' := #[.val (.ref a1), .val (.int (2 : Int32)), .val (.ref x), .val (.ref q2), .val (.ref old)]) rfl (XS.aloadN X2.here hx rfl (hb hby d10_12) rfl rfl (XS.aloadN X2.here hx rfl (hb hby d10_13) rfl rfl wk))) ?_
  show Fin1 p e below s (rmT42Q Z a1 x q2 q3 old pv nv h0 n0) ({ frames := 1, cells := 0, slots := 0, locals := 15 } : Room).cells ({ frames := 1, cells := 0, slots := 0, locals := 15 } : Room).slots (T2.setTop (mkF m 14 #[.val (.ref a1), .val (.int (2 : Int32)), .val (.ref x), .val (.ref q2), .val (.ref old)] [(.ref x), (.ref q2)]))
  obtain ⟨T3, h3, X3, e3, W3, st3⟩ := own_putRef X2 hx hZ hown (hw _ (List.mem_of_getElem? (i := 64) rfl)) e2 Eq2 E_q2 (hw _ (List.mem_of_getElem? (i := 42) rfl)) (hw _ (List.mem_of_getElem? (i := 35) rfl)) (ty := (.object "java/lang/Object")) (by decide) rfl rfl (g := (mkF m 14 #[.val (.ref a1), .val (.int (2 : Int32)), .val (.ref x), .val (.ref q2), .val (.ref old)] [(.ref x), (.ref q2)])) rfl rfl (hb hby d10_14)
  refine own_st st3 ?_
  have N3 := Fr.snoc X3 N1 g_q2
  have Z0 := Nat.le_trans Z0 (Nat.le_of_eq W3.size.symm)
  have K0 := K0.wr W3 (Or.inl (List.mem_of_getElem? (i := 0) rfl))
  have E_q2 := E_q2.wr W3
  have Eq2 := Eq2.same W3
  have Pq2 := Pq2.other W3 (Or.inr (slot_ne (Or.inl (hw _ (List.mem_of_getElem? (i := 48) rfl))) (Or.inl (hw _ (List.mem_of_getElem? (i := 42) rfl))) (by decide) (t := (.object "com/example/listwright/listwright/LinkedStorage$Node")) (t' := (.object "java/lang/Object")) (by decide) (by decide)))
  have Nq2 := Nq2.other W3 (Or.inr (slot_ne (Or.inl (hw _ (List.mem_of_getElem? (i := 50) rfl))) (Or.inl (hw _ (List.mem_of_getElem? (i := 42) rfl))) (by decide) (t := (.object "com/example/listwright/listwright/LinkedStorage$Node")) (t' := (.object "java/lang/Object")) (by decide) (by decide)))
  show Fin1 p e below s (rmT42Q Z a1 x q2 q3 old pv nv h0 n0) ({ frames := 1, cells := 0, slots := 0, locals := 15 } : Room).cells ({ frames := 1, cells := 0, slots := 0, locals := 15 } : Room).slots (T3.setTop (mkF m 17 #[.val (.ref a1), .val (.int (2 : Int32)), .val (.ref x), .val (.ref q2), .val (.ref old)] []))
  refine own_st (fun wt wk => XS.aload X3.here hx rfl (hb hby d10_17) rfl rfl wk) ?_
  show Fin1 p e below s (rmT42Q Z a1 x q2 q3 old pv nv h0 n0) ({ frames := 1, cells := 0, slots := 0, locals := 15 } : Room).cells ({ frames := 1, cells := 0, slots := 0, locals := 15 } : Room).slots (T3.setTop (mkF m 19 #[.val (.ref a1), .val (.int (2 : Int32)), .val (.ref x), .val (.ref q2), .val (.ref old)] [(.ref old)]))
  exact own_retA X3 hx hlk hret rfl rfl (hb hby d10_19) (by rw [e3]; exact ⟨rfl, N3, K0, Eq2, Pq2, Nq2⟩) (by decide) (by decide)
def rmA43Q (Z : State) (a1 : Addr) (q3 : Addr) (h0 : Heap) (n0 : Nat) (v : Option Value) (h : Heap) (L : List Loc) : Prop := v = some (.ref q3) ∧ Fr n0 L ∧ h = h0
set_option maxRecDepth 65536 in
set_option maxHeartbeats 40000000 in
theorem rmA43 (l : Launch) (Z : State) (a0 : Array Value) (hw : ∀ d ∈ tables_1, d.before a0 Z = true) (a1 : Addr) (q3 : Addr) (h0 : Heap) (n0 : Nat) (Z0 : n0 ≤ h0.size) (Z_a1 : Fld Z h0 a1 "com/example/listwright/listwright/LinkedStorage" "size" "I" (.int (4 : Int32))) (C0 : Fld Z h0 a1 "com/example/listwright/listwright/LinkedStorage" "tail" "Lcom/example/listwright/listwright/LinkedStorage$Node;" (.ref q3)) :
    Ct l Z [] (⟨"com/example/listwright/listwright/LinkedStorage", "nodeAt", "(I)Lcom/example/listwright/listwright/LinkedStorage$Node;"⟩ : MethodName) prog_19_method_16_code 4 (some (.object "com/example/listwright/listwright/LinkedStorage$Node")) ({ frames := 0, cells := 0, slots := 0, locals := 0 } : Room) #[(.ref a1), (.int (3 : Int32))] h0 (rmA43Q Z a1 q3 h0 n0) := by
  refine own_enter (plainFor_of_name pn_5) ?_
  intro p e s m below meth c T0 X0 hx hby hml hZ hown hnm hret hlk e0
  have hown : s.vm.findClass "com/example/listwright/listwright/LinkedStorage" = some m.cls := hown
  have N0 := Fr.nil n0
  have K0 := Keep.refl h0 []
  refine own_st (fun wt wk => castTop (g' := mkF m 0 #[.val (.ref a1), .val (.int (3 : Int32)), .unset, .unset] []) (by first | (simp [entryFrame, mkF, argsToLocals, Value.category]; done) | rfl) wk) ?_
  show Fin1 p e below s (rmA43Q Z a1 q3 h0 n0) ({ frames := 0, cells := 0, slots := 0, locals := 0 } : Room).cells ({ frames := 0, cells := 0, slots := 0, locals := 0 } : Room).slots (T0.setTop (mkF m 0 #[.val (.ref a1), .val (.int (3 : Int32)), .unset, .unset] []))
  refine own_st (fun wt wk => XS.iloadN X0.here hx rfl (hb hby d9_0) rfl (XS.aloadN X0.here hx rfl (hb hby d9_1) rfl rfl wk)) ?_
  show Fin1 p e below s (rmA43Q Z a1 q3 h0 n0) ({ frames := 0, cells := 0, slots := 0, locals := 0 } : Room).cells ({ frames := 0, cells := 0, slots := 0, locals := 0 } : Room).slots (T0.setTop (mkF m 2 #[.val (.ref a1), .val (.int (3 : Int32)), .unset, .unset] [(.ref a1), (.int (3 : Int32))]))
  obtain ⟨T1, X1, e1, st1⟩ := getF X0 hx hZ hown (host := "") (Or.inl (hw _ (List.mem_of_getElem? (i := 53) rfl))) Via.refl e0 Z_a1 (g := (mkF m 2 #[.val (.ref a1), .val (.int (3 : Int32)), .unset, .unset] [(.ref a1), (.int (3 : Int32))])) rfl rfl (hb hby d9_2)
  refine own_st st1 ?_
  show Fin1 p e below s (rmA43Q Z a1 q3 h0 n0) ({ frames := 0, cells := 0, slots := 0, locals := 0 } : Room).cells ({ frames := 0, cells := 0, slots := 0, locals := 0 } : Room).slots (T1.setTop (mkF m 5 #[.val (.ref a1), .val (.int (3 : Int32)), .unset, .unset] [(.int (4 : Int32)), (.int (3 : Int32))]))
  refine own_st (fun wt wk => XS.iconst X1.here hx rfl (hb hby d9_5) wk) ?_
  show Fin1 p e below s (rmA43Q Z a1 q3 h0 n0) ({ frames := 0, cells := 0, slots := 0, locals := 0 } : Room).cells ({ frames := 0, cells := 0, slots := 0, locals := 0 } : Room).slots (T1.setTop (mkF m 6 #[.val (.ref a1), .val (.int (3 : Int32)), .unset, .unset] [(.int (2 : Int32)), (.int (4 : Int32)), (.int (3 : Int32))]))
  refine own_st (fun wt wk => XS.idiv X1.here hx rfl (hb hby d9_6) rfl (by decide) wk) ?_
  show Fin1 p e below s (rmA43Q Z a1 q3 h0 n0) ({ frames := 0, cells := 0, slots := 0, locals := 0 } : Room).cells ({ frames := 0, cells := 0, slots := 0, locals := 0 } : Room).slots (T1.setTop (mkF m 7 #[.val (.ref a1), .val (.int (3 : Int32)), .unset, .unset] [(.int ((4 : Int32) / (2 : Int32))), (.int (3 : Int32))]))
  rw [show ((4 : Int32) / (2 : Int32)) = (2 : Int32) from by decide]
  show Fin1 p e below s (rmA43Q Z a1 q3 h0 n0) ({ frames := 0, cells := 0, slots := 0, locals := 0 } : Room).cells ({ frames := 0, cells := 0, slots := 0, locals := 0 } : Room).slots (T1.setTop (mkF m 7 #[.val (.ref a1), .val (.int (3 : Int32)), .unset, .unset] [(.int (2 : Int32)), (.int (3 : Int32))]))
  refine own_st (fun wt wk => XS.icmpYes X1.here hx rfl (pc0 := 7) (pc' := 36) rfl (hb hby d9_7) rfl (flt (by decide)).2.1 (by decide) (by decide) wk) ?_
  show Fin1 p e below s (rmA43Q Z a1 q3 h0 n0) ({ frames := 0, cells := 0, slots := 0, locals := 0 } : Room).cells ({ frames := 0, cells := 0, slots := 0, locals := 0 } : Room).slots (T1.setTop (mkF m 36 #[.val (.ref a1), .val (.int (3 : Int32)), .unset, .unset] []))
  refine own_st (fun wt wk => XS.aloadN X1.here hx rfl (hb hby d9_36) rfl rfl wk) ?_
  show Fin1 p e below s (rmA43Q Z a1 q3 h0 n0) ({ frames := 0, cells := 0, slots := 0, locals := 0 } : Room).cells ({ frames := 0, cells := 0, slots := 0, locals := 0 } : Room).slots (T1.setTop (mkF m 37 #[.val (.ref a1), .val (.int (3 : Int32)), .unset, .unset] [(.ref a1)]))
  obtain ⟨T2, X2, e2, st2⟩ := getF X1 hx hZ hown (host := "") (Or.inl (hw _ (List.mem_of_getElem? (i := 51) rfl))) Via.refl e1 C0 (g := (mkF m 37 #[.val (.ref a1), .val (.int (3 : Int32)), .unset, .unset] [(.ref a1)])) rfl rfl (hb hby d9_37)
  refine own_st st2 ?_
  show Fin1 p e below s (rmA43Q Z a1 q3 h0 n0) ({ frames := 0, cells := 0, slots := 0, locals := 0 } : Room).cells ({ frames := 0, cells := 0, slots := 0, locals := 0 } : Room).slots (T2.setTop (mkF m 40 #[.val (.ref a1), .val (.int (3 : Int32)), .unset, .unset] [(.ref q3)]))
  refine own_st (fun wt wk => XS.astoreN X2.here hx rfl (hb hby d9_40) rfl rfl (l' := #[.val (.ref a1), .val (.int (3 : Int32)), .val (.ref q3), .unset]) rfl (XS.aloadN X2.here hx rfl (hb hby d9_41) rfl rfl wk)) ?_
  show Fin1 p e below s (rmA43Q Z a1 q3 h0 n0) ({ frames := 0, cells := 0, slots := 0, locals := 0 } : Room).cells ({ frames := 0, cells := 0, slots := 0, locals := 0 } : Room).slots (T2.setTop (mkF m 42 #[.val (.ref a1), .val (.int (3 : Int32)), .val (.ref q3), .unset] [(.ref a1)]))
  obtain ⟨T3, X3, e3, st3⟩ := getF X2 hx hZ hown (host := "") (Or.inl (hw _ (List.mem_of_getElem? (i := 53) rfl))) Via.refl e2 Z_a1 (g := (mkF m 42 #[.val (.ref a1), .val (.int (3 : Int32)), .val (.ref q3), .unset] [(.ref a1)])) rfl rfl (hb hby d9_42)
  refine own_st st3 ?_
  show Fin1 p e below s (rmA43Q Z a1 q3 h0 n0) ({ frames := 0, cells := 0, slots := 0, locals := 0 } : Room).cells ({ frames := 0, cells := 0, slots := 0, locals := 0 } : Room).slots (T3.setTop (mkF m 45 #[.val (.ref a1), .val (.int (3 : Int32)), .val (.ref q3), .unset] [(.int (4 : Int32))]))
  refine own_st (fun wt wk => XS.iconst X3.here hx rfl (hb hby d9_45) (XS.isub X3.here hx rfl (hb hby d9_46) rfl wk)) ?_
  show Fin1 p e below s (rmA43Q Z a1 q3 h0 n0) ({ frames := 0, cells := 0, slots := 0, locals := 0 } : Room).cells ({ frames := 0, cells := 0, slots := 0, locals := 0 } : Room).slots (T3.setTop (mkF m 47 #[.val (.ref a1), .val (.int (3 : Int32)), .val (.ref q3), .unset] [(.int ((4 : Int32) - (1 : Int32)))]))
  rw [show ((4 : Int32) - (1 : Int32)) = (3 : Int32) from by decide]
  show Fin1 p e below s (rmA43Q Z a1 q3 h0 n0) ({ frames := 0, cells := 0, slots := 0, locals := 0 } : Room).cells ({ frames := 0, cells := 0, slots := 0, locals := 0 } : Room).slots (T3.setTop (mkF m 47 #[.val (.ref a1), .val (.int (3 : Int32)), .val (.ref q3), .unset] [(.int (3 : Int32))]))
  refine own_st (fun wt wk => XS.istoreN X3.here hx rfl (hb hby d9_47) rfl (l' := #[.val (.ref a1), .val (.int (3 : Int32)), .val (.ref q3), .val (.int (3 : Int32))]) rfl (XS.iloadN X3.here hx rfl (hb hby d9_48) rfl (XS.iloadN X3.here hx rfl (hb hby d9_49) rfl wk))) ?_
  show Fin1 p e below s (rmA43Q Z a1 q3 h0 n0) ({ frames := 0, cells := 0, slots := 0, locals := 0 } : Room).cells ({ frames := 0, cells := 0, slots := 0, locals := 0 } : Room).slots (T3.setTop (mkF m 50 #[.val (.ref a1), .val (.int (3 : Int32)), .val (.ref q3), .val (.int (3 : Int32))] [(.int (3 : Int32)), (.int (3 : Int32))]))
  refine own_st (fun wt wk => XS.icmpYes X3.here hx rfl (pc0 := 50) (pc' := 64) rfl (hb hby d9_50) rfl (flt (by decide)).2.2.2 (by decide) (by decide) wk) ?_
  show Fin1 p e below s (rmA43Q Z a1 q3 h0 n0) ({ frames := 0, cells := 0, slots := 0, locals := 0 } : Room).cells ({ frames := 0, cells := 0, slots := 0, locals := 0 } : Room).slots (T3.setTop (mkF m 64 #[.val (.ref a1), .val (.int (3 : Int32)), .val (.ref q3), .val (.int (3 : Int32))] []))
  refine own_st (fun wt wk => XS.aloadN X3.here hx rfl (hb hby d9_64) rfl rfl wk) ?_
  show Fin1 p e below s (rmA43Q Z a1 q3 h0 n0) ({ frames := 0, cells := 0, slots := 0, locals := 0 } : Room).cells ({ frames := 0, cells := 0, slots := 0, locals := 0 } : Room).slots (T3.setTop (mkF m 65 #[.val (.ref a1), .val (.int (3 : Int32)), .val (.ref q3), .val (.int (3 : Int32))] [(.ref q3)]))
  exact own_retA X3 hx hlk hret rfl rfl (hb hby d9_65) (by rw [e3]; exact ⟨rfl, N0, rfl⟩) (by decide) (by decide)
def rmG43Q (Z : State) (a1 : Addr) (q3 : Addr) (x : Addr) (h0 : Heap) (n0 : Nat) (v : Option Value) (h : Heap) (L : List Loc) : Prop := v = some (.ref x) ∧ Fr n0 L ∧ h = h0
set_option maxRecDepth 65536 in
set_option maxHeartbeats 40000000 in
theorem rmG43 (l : Launch) (Z : State) (a0 : Array Value) (hw : ∀ d ∈ tables_1, d.before a0 Z = true) (a1 : Addr) (q3 : Addr) (x : Addr) (h0 : Heap) (n0 : Nat) (Z0 : n0 ≤ h0.size) (E_a1 : Exa Z h0 a1 "com/example/listwright/listwright/LinkedStorage") (Z_a1 : Fld Z h0 a1 "com/example/listwright/listwright/LinkedStorage" "size" "I" (.int (4 : Int32))) (C0 : Fld Z h0 a1 "com/example/listwright/listwright/LinkedStorage" "tail" "Lcom/example/listwright/listwright/LinkedStorage$Node;" (.ref q3)) (El : Fld Z h0 q3 "com/example/listwright/listwright/LinkedStorage$Node" "element" "Ljava/lang/Object;" (.ref x)) :
    Ct l Z [] (⟨"com/example/listwright/listwright/LinkedStorage", "get", "(I)Ljava/lang/Object;"⟩ : MethodName) prog_19_method_3_code 2 (some (.object "java/lang/Object")) ({ frames := 1, cells := 0, slots := 0, locals := 15 } : Room) #[(.ref a1), (.int (3 : Int32))] h0 (rmG43Q Z a1 q3 x h0 n0) := by
  refine own_enter (plainFor_of_name pn_5) ?_
  intro p e s m below meth c T0 X0 hx hby hml hZ hown hnm hret hlk e0
  have hown : s.vm.findClass "com/example/listwright/listwright/LinkedStorage" = some m.cls := hown
  have N0 := Fr.nil n0
  have K0 := Keep.refl h0 []
  refine own_st (fun wt wk => castTop (g' := mkF m 0 #[.val (.ref a1), .val (.int (3 : Int32))] []) (by first | (simp [entryFrame, mkF, argsToLocals, Value.category]; done) | rfl) wk) ?_
  show Fin1 p e below s (rmG43Q Z a1 q3 x h0 n0) ({ frames := 1, cells := 0, slots := 0, locals := 15 } : Room).cells ({ frames := 1, cells := 0, slots := 0, locals := 15 } : Room).slots (T0.setTop (mkF m 0 #[.val (.ref a1), .val (.int (3 : Int32))] []))
  refine own_st (fun wt wk => XS.aloadN X0.here hx rfl (hb hby d14_0) rfl rfl (XS.iloadN X0.here hx rfl (hb hby d14_1) rfl wk)) ?_
  show Fin1 p e below s (rmG43Q Z a1 q3 x h0 n0) ({ frames := 1, cells := 0, slots := 0, locals := 15 } : Room).cells ({ frames := 1, cells := 0, slots := 0, locals := 15 } : Room).slots (T0.setTop (mkF m 2 #[.val (.ref a1), .val (.int (3 : Int32))] [(.int (3 : Int32)), (.ref a1)]))
  obtain ⟨v1, T1, h1, L1, X1, e1, hQ1, st1⟩ := own_private X0 hx hZ hown (hw _ (List.mem_of_getElem? (i := 55) rfl)) (hw _ (List.mem_of_getElem? (i := 56) rfl)) (hw _ (List.mem_of_getElem? (i := 3) rfl)) (hw _ (List.mem_of_getElem? (i := 57) rfl)) (hw _ (List.mem_of_getElem? (i := 58) rfl)) (hw _ (List.mem_of_getElem? (i := 4) rfl)) (by decide) (a := a1) E_a1 (rmA43 l Z a0 hw a1 q3 h0 n0 Z0 Z_a1 C0) e0 (g := (mkF m 2 #[.val (.ref a1), .val (.int (3 : Int32))] [(.int (3 : Int32)), (.ref a1)])) rfl (by rw [hml]; rfl) (argsL := [(.int (3 : Int32))]) (rest := []) (lenOf pd_9 rfl) rfl (W := 0) (by show 2 * 0 + _ ≤ _; exact Nat.le_of_eq rfl) (hb hby d14_2) (by decide) (by decide) (by decide) (by decide)
  obtain ⟨rfl, N1q, hh1⟩ := hQ1
  have N1 := Fr.app N0 N1q
  rw [hh1] at e1
  refine own_st st1 ?_
  show Fin1 p e below s (rmG43Q Z a1 q3 x h0 n0) ({ frames := 1, cells := 0, slots := 0, locals := 15 } : Room).cells ({ frames := 1, cells := 0, slots := 0, locals := 15 } : Room).slots (T1.setTop (mkF m 5 #[.val (.ref a1), .val (.int (3 : Int32))] [(.ref q3)]))
  obtain ⟨T2, X2, e2, st2⟩ := own_getRef X1 hx hZ hown (hw _ (List.mem_of_getElem? (i := 64) rfl)) e1 El (g := (mkF m 5 #[.val (.ref a1), .val (.int (3 : Int32))] [(.ref q3)])) rfl rfl (hb hby d14_5)
  refine own_st st2 ?_
  show Fin1 p e below s (rmG43Q Z a1 q3 x h0 n0) ({ frames := 1, cells := 0, slots := 0, locals := 15 } : Room).cells ({ frames := 1, cells := 0, slots := 0, locals := 15 } : Room).slots (T2.setTop (mkF m 8 #[.val (.ref a1), .val (.int (3 : Int32))] [(.ref x)]))
  exact own_retA X2 hx hlk hret rfl rfl (hb hby d14_8) (by rw [e2]; exact ⟨rfl, N1, rfl⟩) (by decide) (by decide)
def rmT43Q (Z : State) (a1 : Addr) (x : Addr) (q3 : Addr) (old : Addr) (pv : Value) (nv : Value) (h0 : Heap) (n0 : Nat) (v : Option Value) (h : Heap) (L : List Loc) : Prop := v = some (.ref old) ∧ Fr n0 L ∧ Keep h0 h [q3] ∧ Fld Z h q3 "com/example/listwright/listwright/LinkedStorage$Node" "element" "Ljava/lang/Object;" (.ref x) ∧ Fld Z h q3 "com/example/listwright/listwright/LinkedStorage$Node" "previous" "Lcom/example/listwright/listwright/LinkedStorage$Node;" pv ∧ Fld Z h q3 "com/example/listwright/listwright/LinkedStorage$Node" "next" "Lcom/example/listwright/listwright/LinkedStorage$Node;" nv
set_option maxRecDepth 65536 in
set_option maxHeartbeats 40000000 in
theorem rmT43 (l : Launch) (Z : State) (a0 : Array Value) (hw : ∀ d ∈ tables_1, d.before a0 Z = true) (a1 : Addr) (x : Addr) (q3 : Addr) (old : Addr) (pv : Value) (nv : Value) (h0 : Heap) (n0 : Nat) (Z0 : n0 ≤ h0.size) (g_q3 : n0 ≤ q3) (E_a1 : Exa Z h0 a1 "com/example/listwright/listwright/LinkedStorage") (E_q3 : Exa Z h0 q3 "com/example/listwright/listwright/LinkedStorage$Node") (Z_a1 : Fld Z h0 a1 "com/example/listwright/listwright/LinkedStorage" "size" "I" (.int (4 : Int32))) (C0 : Fld Z h0 a1 "com/example/listwright/listwright/LinkedStorage" "tail" "Lcom/example/listwright/listwright/LinkedStorage$Node;" (.ref q3)) (Eq3 : Fld Z h0 q3 "com/example/listwright/listwright/LinkedStorage$Node" "element" "Ljava/lang/Object;" (.ref old)) (Pq3 : Fld Z h0 q3 "com/example/listwright/listwright/LinkedStorage$Node" "previous" "Lcom/example/listwright/listwright/LinkedStorage$Node;" pv) (Nq3 : Fld Z h0 q3 "com/example/listwright/listwright/LinkedStorage$Node" "next" "Lcom/example/listwright/listwright/LinkedStorage$Node;" nv) :
    Ct l Z [] (⟨"com/example/listwright/listwright/LinkedStorage", "set", "(ILjava/lang/Object;)Ljava/lang/Object;"⟩ : MethodName) prog_19_method_4_code 5 (some (.object "java/lang/Object")) ({ frames := 1, cells := 0, slots := 0, locals := 15 } : Room) #[(.ref a1), (.int (3 : Int32)), (.ref x)] h0 (rmT43Q Z a1 x q3 old pv nv h0 n0) := by
  refine own_enter (plainFor_of_name pn_5) ?_
  intro p e s m below meth c T0 X0 hx hby hml hZ hown hnm hret hlk e0
  have hown : s.vm.findClass "com/example/listwright/listwright/LinkedStorage" = some m.cls := hown
  have N0 := Fr.nil n0
  have K0 := Keep.refl h0 [q3]
  refine own_st (fun wt wk => castTop (g' := mkF m 0 #[.val (.ref a1), .val (.int (3 : Int32)), .val (.ref x), .unset, .unset] []) (by first | (simp [entryFrame, mkF, argsToLocals, Value.category]; done) | rfl) wk) ?_
  show Fin1 p e below s (rmT43Q Z a1 x q3 old pv nv h0 n0) ({ frames := 1, cells := 0, slots := 0, locals := 15 } : Room).cells ({ frames := 1, cells := 0, slots := 0, locals := 15 } : Room).slots (T0.setTop (mkF m 0 #[.val (.ref a1), .val (.int (3 : Int32)), .val (.ref x), .unset, .unset] []))
  refine own_st (fun wt wk => XS.aloadN X0.here hx rfl (hb hby d10_0) rfl rfl (XS.iloadN X0.here hx rfl (hb hby d10_1) rfl wk)) ?_
  show Fin1 p e below s (rmT43Q Z a1 x q3 old pv nv h0 n0) ({ frames := 1, cells := 0, slots := 0, locals := 15 } : Room).cells ({ frames := 1, cells := 0, slots := 0, locals := 15 } : Room).slots (T0.setTop (mkF m 2 #[.val (.ref a1), .val (.int (3 : Int32)), .val (.ref x), .unset, .unset] [(.int (3 : Int32)), (.ref a1)]))
  obtain ⟨v1, T1, h1, L1, X1, e1, hQ1, st1⟩ := own_private X0 hx hZ hown (hw _ (List.mem_of_getElem? (i := 55) rfl)) (hw _ (List.mem_of_getElem? (i := 56) rfl)) (hw _ (List.mem_of_getElem? (i := 3) rfl)) (hw _ (List.mem_of_getElem? (i := 57) rfl)) (hw _ (List.mem_of_getElem? (i := 58) rfl)) (hw _ (List.mem_of_getElem? (i := 4) rfl)) (by decide) (a := a1) E_a1 (rmA43 l Z a0 hw a1 q3 h0 n0 Z0 Z_a1 C0) e0 (g := (mkF m 2 #[.val (.ref a1), .val (.int (3 : Int32)), .val (.ref x), .unset, .unset] [(.int (3 : Int32)), (.ref a1)])) rfl (by rw [hml]; rfl) (argsL := [(.int (3 : Int32))]) (rest := []) (lenOf pd_9 rfl) rfl (W := 0) (by show 2 * 0 + _ ≤ _; exact Nat.le_of_eq rfl) (hb hby d10_2) (by decide) (by decide) (by decide) (by decide)
  obtain ⟨rfl, N1q, hh1⟩ := hQ1
  have N1 := Fr.app N0 N1q
  rw [hh1] at e1
  refine own_st st1 ?_
  show Fin1 p e below s (rmT43Q Z a1 x q3 old pv nv h0 n0) ({ frames := 1, cells := 0, slots := 0, locals := 15 } : Room).cells ({ frames := 1, cells := 0, slots := 0, locals := 15 } : Room).slots (T1.setTop (mkF m 5 #[.val (.ref a1), .val (.int (3 : Int32)), .val (.ref x), .unset, .unset] [(.ref q3)]))
  refine own_st (fun wt wk => XS.astoreN X1.here hx rfl (hb hby d10_5) rfl rfl (l' := #[.val (.ref a1), .val (.int (3 : Int32)), .val (.ref x), .val (.ref q3), .unset]) rfl (XS.aloadN X1.here hx rfl (hb hby d10_6) rfl rfl wk)) ?_
  show Fin1 p e below s (rmT43Q Z a1 x q3 old pv nv h0 n0) ({ frames := 1, cells := 0, slots := 0, locals := 15 } : Room).cells ({ frames := 1, cells := 0, slots := 0, locals := 15 } : Room).slots (T1.setTop (mkF m 7 #[.val (.ref a1), .val (.int (3 : Int32)), .val (.ref x), .val (.ref q3), .unset] [(.ref q3)]))
  obtain ⟨T2, X2, e2, st2⟩ := own_getRef X1 hx hZ hown (hw _ (List.mem_of_getElem? (i := 64) rfl)) e1 Eq3 (g := (mkF m 7 #[.val (.ref a1), .val (.int (3 : Int32)), .val (.ref x), .val (.ref q3), .unset] [(.ref q3)])) rfl rfl (hb hby d10_7)
  refine own_st st2 ?_
  show Fin1 p e below s (rmT43Q Z a1 x q3 old pv nv h0 n0) ({ frames := 1, cells := 0, slots := 0, locals := 15 } : Room).cells ({ frames := 1, cells := 0, slots := 0, locals := 15 } : Room).slots (T2.setTop (mkF m 10 #[.val (.ref a1), .val (.int (3 : Int32)), .val (.ref x), .val (.ref q3), .unset] [(.ref old)]))
  refine own_st (fun wt wk => XS.astore X2.here hx rfl (hb hby d10_10) rfl rfl (l' := #[.val (.ref a1), .val (.int (3 : Int32)), .val (.ref x), .val (.ref q3), .val (.ref old)]) rfl (XS.aloadN X2.here hx rfl (hb hby d10_12) rfl rfl (XS.aloadN X2.here hx rfl (hb hby d10_13) rfl rfl wk))) ?_
  show Fin1 p e below s (rmT43Q Z a1 x q3 old pv nv h0 n0) ({ frames := 1, cells := 0, slots := 0, locals := 15 } : Room).cells ({ frames := 1, cells := 0, slots := 0, locals := 15 } : Room).slots (T2.setTop (mkF m 14 #[.val (.ref a1), .val (.int (3 : Int32)), .val (.ref x), .val (.ref q3), .val (.ref old)] [(.ref x), (.ref q3)]))
  obtain ⟨T3, h3, X3, e3, W3, st3⟩ := own_putRef X2 hx hZ hown (hw _ (List.mem_of_getElem? (i := 64) rfl)) e2 Eq3 E_q3 (hw _ (List.mem_of_getElem? (i := 42) rfl)) (hw _ (List.mem_of_getElem? (i := 35) rfl)) (ty := (.object "java/lang/Object")) (by decide) rfl rfl (g := (mkF m 14 #[.val (.ref a1), .val (.int (3 : Int32)), .val (.ref x), .val (.ref q3), .val (.ref old)] [(.ref x), (.ref q3)])) rfl rfl (hb hby d10_14)
  refine own_st st3 ?_
  have N3 := Fr.snoc X3 N1 g_q3
  have Z0 := Nat.le_trans Z0 (Nat.le_of_eq W3.size.symm)
  have K0 := K0.wr W3 (Or.inl (List.mem_of_getElem? (i := 0) rfl))
  have E_q3 := E_q3.wr W3
  have Eq3 := Eq3.same W3
  have Pq3 := Pq3.other W3 (Or.inr (slot_ne (Or.inl (hw _ (List.mem_of_getElem? (i := 48) rfl))) (Or.inl (hw _ (List.mem_of_getElem? (i := 42) rfl))) (by decide) (t := (.object "com/example/listwright/listwright/LinkedStorage$Node")) (t' := (.object "java/lang/Object")) (by decide) (by decide)))
  have Nq3 := Nq3.other W3 (Or.inr (slot_ne (Or.inl (hw _ (List.mem_of_getElem? (i := 50) rfl))) (Or.inl (hw _ (List.mem_of_getElem? (i := 42) rfl))) (by decide) (t := (.object "com/example/listwright/listwright/LinkedStorage$Node")) (t' := (.object "java/lang/Object")) (by decide) (by decide)))
  show Fin1 p e below s (rmT43Q Z a1 x q3 old pv nv h0 n0) ({ frames := 1, cells := 0, slots := 0, locals := 15 } : Room).cells ({ frames := 1, cells := 0, slots := 0, locals := 15 } : Room).slots (T3.setTop (mkF m 17 #[.val (.ref a1), .val (.int (3 : Int32)), .val (.ref x), .val (.ref q3), .val (.ref old)] []))
  refine own_st (fun wt wk => XS.aload X3.here hx rfl (hb hby d10_17) rfl rfl wk) ?_
  show Fin1 p e below s (rmT43Q Z a1 x q3 old pv nv h0 n0) ({ frames := 1, cells := 0, slots := 0, locals := 15 } : Room).cells ({ frames := 1, cells := 0, slots := 0, locals := 15 } : Room).slots (T3.setTop (mkF m 19 #[.val (.ref a1), .val (.int (3 : Int32)), .val (.ref x), .val (.ref q3), .val (.ref old)] [(.ref old)]))
  exact own_retA X3 hx hlk hret rfl rfl (hb hby d10_19) (by rw [e3]; exact ⟨rfl, N3, K0, Eq3, Pq3, Nq3⟩) (by decide) (by decide)
theorem d5_0 : decode prog_19_method_5_code 0 = .ok (.aload_n 0, 1) := by decide +kernel
theorem d5_1 : decode prog_19_method_5_code 1 = .ok (.iload_n 1, 1) := by decide +kernel
theorem d5_2 : decode prog_19_method_5_code 2 = .ok (.ifCond .ne 7, 3) := by decide +kernel
theorem d5_5 : decode prog_19_method_5_code 5 = .ok (.aconst_null, 1) := by decide +kernel
theorem d5_6 : decode prog_19_method_5_code 6 = .ok (.goto 10, 3) := by decide +kernel
theorem d5_9 : decode prog_19_method_5_code 9 = .ok (.aload_n 0, 1) := by decide +kernel
theorem d5_10 : decode prog_19_method_5_code 10 = .ok (.iload_n 1, 1) := by decide +kernel
theorem d5_11 : decode prog_19_method_5_code 11 = .ok (.iconst 1, 1) := by decide +kernel
theorem d5_12 : decode prog_19_method_5_code 12 = .ok (.isub, 1) := by decide +kernel
theorem d5_13 : decode prog_19_method_5_code 13 = .ok (.invokevirtual 13, 3) := by decide +kernel
theorem d5_16 : decode prog_19_method_5_code 16 = .ok (.aload_n 2, 1) := by decide +kernel
theorem d5_17 : decode prog_19_method_5_code 17 = .ok (.invokevirtual 23, 3) := by decide +kernel
theorem d5_20 : decode prog_19_method_5_code 20 = .ok (.pop, 1) := by decide +kernel
theorem d5_21 : decode prog_19_method_5_code 21 = .ok (.return_, 1) := by decide +kernel
theorem pd_10 : parseMethodDescriptor "(Lcom/example/listwright/listwright/LinkedStorage$Node;Ljava/lang/Object;)Lcom/example/listwright/listwright/LinkedStorage$Node;" = some ⟨[(.object "com/example/listwright/listwright/LinkedStorage$Node"), (.object "java/lang/Object")], some (.object "com/example/listwright/listwright/LinkedStorage$Node")⟩ := by decide +kernel
def rmI0Q (Z : State) (a1 : Addr) (x : Addr) (h0 : Heap) (n0 : Nat) (v : Option Value) (h : Heap) (L : List Loc) : Prop := v = none ∧ Fr n0 L ∧ ∃ b : Addr, h0.size ≤ b ∧ Keep h0 h [a1] ∧ Exa Z h b "com/example/listwright/listwright/LinkedStorage$Node" ∧ Fld Z h a1 "com/example/listwright/listwright/LinkedStorage" "head" "Lcom/example/listwright/listwright/LinkedStorage$Node;" (.ref b) ∧ Fld Z h a1 "com/example/listwright/listwright/LinkedStorage" "tail" "Lcom/example/listwright/listwright/LinkedStorage$Node;" (.ref b) ∧ Fld Z h a1 "com/example/listwright/listwright/LinkedStorage" "size" "I" (.int (1 : Int32)) ∧ Fld Z h b "com/example/listwright/listwright/LinkedStorage$Node" "element" "Ljava/lang/Object;" (.ref x) ∧ Fld Z h b "com/example/listwright/listwright/LinkedStorage$Node" "previous" "Lcom/example/listwright/listwright/LinkedStorage$Node;" .null ∧ Fld Z h b "com/example/listwright/listwright/LinkedStorage$Node" "next" "Lcom/example/listwright/listwright/LinkedStorage$Node;" .null
set_option maxRecDepth 65536 in
set_option maxHeartbeats 40000000 in
theorem rmI0 (l : Launch) (Z : State) (a0 : Array Value) (hw : ∀ d ∈ tables_1, d.before a0 Z = true) (a1 : Addr) (x : Addr) (h0 : Heap) (n0 : Nat) (Z0 : n0 ≤ h0.size) (g_a1 : n0 ≤ a1) (E_a1 : Exa Z h0 a1 "com/example/listwright/listwright/LinkedStorage") (Ha1 : Fld Z h0 a1 "com/example/listwright/listwright/LinkedStorage" "head" "Lcom/example/listwright/listwright/LinkedStorage$Node;" .null) (Ta1 : Fld Z h0 a1 "com/example/listwright/listwright/LinkedStorage" "tail" "Lcom/example/listwright/listwright/LinkedStorage$Node;" .null) (Sa1 : Fld Z h0 a1 "com/example/listwright/listwright/LinkedStorage" "size" "I" (.int (0 : Int32))) :
    Ct l Z [] (⟨"com/example/listwright/listwright/LinkedStorage", "insert", "(ILjava/lang/Object;)V"⟩ : MethodName) prog_19_method_5_code 3 none ({ frames := 3, cells := 1, slots := 3, locals := 42 } : Room) #[(.ref a1), (.int (0 : Int32)), (.ref x)] h0 (rmI0Q Z a1 x h0 n0) := by
  refine own_enter (plainFor_of_name pn_5) ?_
  intro p e s m below meth c T0 X0 hx hby hml hZ hown hnm hret hlk e0
  have hown : s.vm.findClass "com/example/listwright/listwright/LinkedStorage" = some m.cls := hown
  have N0 := Fr.nil n0
  have K0 := Keep.refl h0 [a1]
  refine own_st (fun wt wk => castTop (g' := mkF m 0 #[.val (.ref a1), .val (.int (0 : Int32)), .val (.ref x)] []) (by first | (simp [entryFrame, mkF, argsToLocals, Value.category]; done) | rfl) wk) ?_
  show Fin1 p e below s (rmI0Q Z a1 x h0 n0) ({ frames := 3, cells := 1, slots := 3, locals := 42 } : Room).cells ({ frames := 3, cells := 1, slots := 3, locals := 42 } : Room).slots (T0.setTop (mkF m 0 #[.val (.ref a1), .val (.int (0 : Int32)), .val (.ref x)] []))
  refine own_st (fun wt wk => XS.aloadN X0.here hx rfl (hb hby d5_0) rfl rfl (XS.iloadN X0.here hx rfl (hb hby d5_1) rfl wk)) ?_
  show Fin1 p e below s (rmI0Q Z a1 x h0 n0) ({ frames := 3, cells := 1, slots := 3, locals := 42 } : Room).cells ({ frames := 3, cells := 1, slots := 3, locals := 42 } : Room).slots (T0.setTop (mkF m 2 #[.val (.ref a1), .val (.int (0 : Int32)), .val (.ref x)] [(.int (0 : Int32)), (.ref a1)]))
  refine own_st (fun wt wk => XS.ifNo X0.here hx rfl (hb hby d5_2) rfl ((if0 _ _).trans (teq (by decide)).2) wk) ?_
  show Fin1 p e below s (rmI0Q Z a1 x h0 n0) ({ frames := 3, cells := 1, slots := 3, locals := 42 } : Room).cells ({ frames := 3, cells := 1, slots := 3, locals := 42 } : Room).slots (T0.setTop (mkF m 5 #[.val (.ref a1), .val (.int (0 : Int32)), .val (.ref x)] [(.ref a1)]))
  refine own_st (fun wt wk => XS.aconstNull X0.here hx rfl (hb hby d5_5) (XS.goto X0.here hx rfl (pc0 := 6) (pc' := 16) rfl (hb hby d5_6) (by decide) (by decide) (XS.aloadN X0.here hx rfl (hb hby d5_16) rfl rfl wk))) ?_
  show Fin1 p e below s (rmI0Q Z a1 x h0 n0) ({ frames := 3, cells := 1, slots := 3, locals := 42 } : Room).cells ({ frames := 3, cells := 1, slots := 3, locals := 42 } : Room).slots (T0.setTop (mkF m 17 #[.val (.ref a1), .val (.int (0 : Int32)), .val (.ref x)] [(.ref x), .null, (.ref a1)]))
  obtain ⟨v1, T1, h1, L1, X1, e1, hQ1, st1⟩ := own_private X0 hx hZ hown (hw _ (List.mem_of_getElem? (i := 28) rfl)) (hw _ (List.mem_of_getElem? (i := 29) rfl)) (hw _ (List.mem_of_getElem? (i := 3) rfl)) (hw _ (List.mem_of_getElem? (i := 30) rfl)) (hw _ (List.mem_of_getElem? (i := 31) rfl)) (hw _ (List.mem_of_getElem? (i := 4) rfl)) (by decide) (a := a1) E_a1 (rmL0 l Z a0 hw a1 x h0 n0 Z0 g_a1 E_a1 Ha1 Ta1 Sa1) e0 (g := (mkF m 17 #[.val (.ref a1), .val (.int (0 : Int32)), .val (.ref x)] [(.ref x), .null, (.ref a1)])) rfl (by rw [hml]; rfl) (argsL := [.null, (.ref x)]) (rest := []) (lenOf pd_10 rfl) rfl (W := 0) (by show 2 * 0 + _ ≤ _; exact Nat.le_of_eq rfl) (hb hby d5_17) (by decide) (by decide) (by decide) (by decide)
  obtain ⟨b, rfl, N1q, s_b, K1, E_b, Ha1, Ta1, Sa1, Eb, Pb, Nb⟩ := hQ1
  have N1 := Fr.app N0 N1q
  have ne_a1_b : a1 ≠ b := Nat.ne_of_lt (Nat.lt_of_lt_of_le E_a1.lt s_b)
  have sz_b : h0.size ≤ b := Nat.le_trans K0.1 s_b
  have g_b : n0 ≤ b := Nat.le_trans Z0 s_b
  have Z0 := Nat.le_trans Z0 K1.1
  have K0 := K0.trans K1 (allS (P := fun x => x ∈ [a1] ∨ h0.size ≤ x) (Or.inl (List.mem_of_getElem? (i := 0) rfl)) all0)
  have E_a1 := E_a1.keep K1
  refine own_st st1 ?_
  show Fin1 p e below s (rmI0Q Z a1 x h0 n0) ({ frames := 3, cells := 1, slots := 3, locals := 42 } : Room).cells ({ frames := 3, cells := 1, slots := 3, locals := 42 } : Room).slots (T1.setTop (mkF m 20 #[.val (.ref a1), .val (.int (0 : Int32)), .val (.ref x)] [(.ref b)]))
  refine own_st (fun wt wk => XS.pop X1.here hx rfl (hb hby d5_20) rfl rfl wk) ?_
  show Fin1 p e below s (rmI0Q Z a1 x h0 n0) ({ frames := 3, cells := 1, slots := 3, locals := 42 } : Room).cells ({ frames := 3, cells := 1, slots := 3, locals := 42 } : Room).slots (T1.setTop (mkF m 21 #[.val (.ref a1), .val (.int (0 : Int32)), .val (.ref x)] []))
  exact own_retV X1 hx hlk hret (hb hby d5_21) (by rw [e1]; exact ⟨rfl, N1, b, sz_b, K0, E_b, Ha1, Ta1, Sa1, Eb, Pb, Nb⟩) (by decide) (by decide)
def rmI1Q (Z : State) (a1 : Addr) (x : Addr) (q : Addr) (hd : Addr) (pe : Addr) (pv : Value) (h0 : Heap) (n0 : Nat) (v : Option Value) (h : Heap) (L : List Loc) : Prop := v = none ∧ Fr n0 L ∧ ∃ b : Addr, h0.size ≤ b ∧ Keep h0 h [a1, q] ∧ Exa Z h b "com/example/listwright/listwright/LinkedStorage$Node" ∧ Fld Z h a1 "com/example/listwright/listwright/LinkedStorage" "head" "Lcom/example/listwright/listwright/LinkedStorage$Node;" (.ref hd) ∧ Fld Z h a1 "com/example/listwright/listwright/LinkedStorage" "tail" "Lcom/example/listwright/listwright/LinkedStorage$Node;" (.ref b) ∧ Fld Z h a1 "com/example/listwright/listwright/LinkedStorage" "size" "I" (.int (2 : Int32)) ∧ Fld Z h q "com/example/listwright/listwright/LinkedStorage$Node" "element" "Ljava/lang/Object;" (.ref pe) ∧ Fld Z h q "com/example/listwright/listwright/LinkedStorage$Node" "previous" "Lcom/example/listwright/listwright/LinkedStorage$Node;" pv ∧ Fld Z h q "com/example/listwright/listwright/LinkedStorage$Node" "next" "Lcom/example/listwright/listwright/LinkedStorage$Node;" (.ref b) ∧ Fld Z h b "com/example/listwright/listwright/LinkedStorage$Node" "element" "Ljava/lang/Object;" (.ref x) ∧ Fld Z h b "com/example/listwright/listwright/LinkedStorage$Node" "previous" "Lcom/example/listwright/listwright/LinkedStorage$Node;" (.ref q) ∧ Fld Z h b "com/example/listwright/listwright/LinkedStorage$Node" "next" "Lcom/example/listwright/listwright/LinkedStorage$Node;" .null
set_option maxRecDepth 65536 in
set_option maxHeartbeats 40000000 in
theorem rmI1 (l : Launch) (Z : State) (a0 : Array Value) (hw : ∀ d ∈ tables_1, d.before a0 Z = true) (a1 : Addr) (x : Addr) (q : Addr) (hd : Addr) (pe : Addr) (pv : Value) (h0 : Heap) (n0 : Nat) (Z0 : n0 ≤ h0.size) (g_a1 : n0 ≤ a1) (g_q : n0 ≤ q) (E_a1 : Exa Z h0 a1 "com/example/listwright/listwright/LinkedStorage") (E_q : Exa Z h0 q "com/example/listwright/listwright/LinkedStorage$Node") (Ha1 : Fld Z h0 a1 "com/example/listwright/listwright/LinkedStorage" "head" "Lcom/example/listwright/listwright/LinkedStorage$Node;" (.ref hd)) (Ta1 : Fld Z h0 a1 "com/example/listwright/listwright/LinkedStorage" "tail" "Lcom/example/listwright/listwright/LinkedStorage$Node;" (.ref q)) (Sa1 : Fld Z h0 a1 "com/example/listwright/listwright/LinkedStorage" "size" "I" (.int (1 : Int32))) (Eq : Fld Z h0 q "com/example/listwright/listwright/LinkedStorage$Node" "element" "Ljava/lang/Object;" (.ref pe)) (Pq : Fld Z h0 q "com/example/listwright/listwright/LinkedStorage$Node" "previous" "Lcom/example/listwright/listwright/LinkedStorage$Node;" pv) (Nq : Fld Z h0 q "com/example/listwright/listwright/LinkedStorage$Node" "next" "Lcom/example/listwright/listwright/LinkedStorage$Node;" .null) (ne_a1_q : a1 ≠ q) :
    Ct l Z [] (⟨"com/example/listwright/listwright/LinkedStorage", "insert", "(ILjava/lang/Object;)V"⟩ : MethodName) prog_19_method_5_code 3 none ({ frames := 3, cells := 1, slots := 3, locals := 42 } : Room) #[(.ref a1), (.int (1 : Int32)), (.ref x)] h0 (rmI1Q Z a1 x q hd pe pv h0 n0) := by
  refine own_enter (plainFor_of_name pn_5) ?_
  intro p e s m below meth c T0 X0 hx hby hml hZ hown hnm hret hlk e0
  have hown : s.vm.findClass "com/example/listwright/listwright/LinkedStorage" = some m.cls := hown
  have N0 := Fr.nil n0
  have K0 := Keep.refl h0 [a1, q]
  refine own_st (fun wt wk => castTop (g' := mkF m 0 #[.val (.ref a1), .val (.int (1 : Int32)), .val (.ref x)] []) (by first | (simp [entryFrame, mkF, argsToLocals, Value.category]; done) | rfl) wk) ?_
  show Fin1 p e below s (rmI1Q Z a1 x q hd pe pv h0 n0) ({ frames := 3, cells := 1, slots := 3, locals := 42 } : Room).cells ({ frames := 3, cells := 1, slots := 3, locals := 42 } : Room).slots (T0.setTop (mkF m 0 #[.val (.ref a1), .val (.int (1 : Int32)), .val (.ref x)] []))
  refine own_st (fun wt wk => XS.aloadN X0.here hx rfl (hb hby d5_0) rfl rfl (XS.iloadN X0.here hx rfl (hb hby d5_1) rfl wk)) ?_
  show Fin1 p e below s (rmI1Q Z a1 x q hd pe pv h0 n0) ({ frames := 3, cells := 1, slots := 3, locals := 42 } : Room).cells ({ frames := 3, cells := 1, slots := 3, locals := 42 } : Room).slots (T0.setTop (mkF m 2 #[.val (.ref a1), .val (.int (1 : Int32)), .val (.ref x)] [(.int (1 : Int32)), (.ref a1)]))
  refine own_st (fun wt wk => XS.ifYes X0.here hx rfl (pc0 := 2) (pc' := 9) rfl (hb hby d5_2) rfl ((if0 _ _).trans (feq (by decide)).2) (by decide) (by decide) wk) ?_
  show Fin1 p e below s (rmI1Q Z a1 x q hd pe pv h0 n0) ({ frames := 3, cells := 1, slots := 3, locals := 42 } : Room).cells ({ frames := 3, cells := 1, slots := 3, locals := 42 } : Room).slots (T0.setTop (mkF m 9 #[.val (.ref a1), .val (.int (1 : Int32)), .val (.ref x)] [(.ref a1)]))
  refine own_st (fun wt wk => XS.aloadN X0.here hx rfl (hb hby d5_9) rfl rfl (XS.iloadN X0.here hx rfl (hb hby d5_10) rfl (XS.iconst X0.here hx rfl (hb hby d5_11) (XS.isub X0.here hx rfl (hb hby d5_12) rfl wk)))) ?_
  show Fin1 p e below s (rmI1Q Z a1 x q hd pe pv h0 n0) ({ frames := 3, cells := 1, slots := 3, locals := 42 } : Room).cells ({ frames := 3, cells := 1, slots := 3, locals := 42 } : Room).slots (T0.setTop (mkF m 13 #[.val (.ref a1), .val (.int (1 : Int32)), .val (.ref x)] [(.int ((1 : Int32) - (1 : Int32))), (.ref a1), (.ref a1)]))
  rw [show ((1 : Int32) - (1 : Int32)) = (0 : Int32) from by decide]
  show Fin1 p e below s (rmI1Q Z a1 x q hd pe pv h0 n0) ({ frames := 3, cells := 1, slots := 3, locals := 42 } : Room).cells ({ frames := 3, cells := 1, slots := 3, locals := 42 } : Room).slots (T0.setTop (mkF m 13 #[.val (.ref a1), .val (.int (1 : Int32)), .val (.ref x)] [(.int (0 : Int32)), (.ref a1), (.ref a1)]))
  obtain ⟨v1, T1, h1, L1, X1, e1, hQ1, st1⟩ := own_private X0 hx hZ hown (hw _ (List.mem_of_getElem? (i := 55) rfl)) (hw _ (List.mem_of_getElem? (i := 56) rfl)) (hw _ (List.mem_of_getElem? (i := 3) rfl)) (hw _ (List.mem_of_getElem? (i := 57) rfl)) (hw _ (List.mem_of_getElem? (i := 58) rfl)) (hw _ (List.mem_of_getElem? (i := 4) rfl)) (by decide) (a := a1) E_a1 (rmA10 l Z a0 hw a1 q h0 n0 Z0 Sa1 Ta1) e0 (g := (mkF m 13 #[.val (.ref a1), .val (.int (1 : Int32)), .val (.ref x)] [(.int (0 : Int32)), (.ref a1), (.ref a1)])) rfl (by rw [hml]; rfl) (argsL := [(.int (0 : Int32))]) (rest := [(.ref a1)]) (lenOf pd_9 rfl) rfl (W := 1) (by show 2 * 0 + _ ≤ _; exact Nat.le_of_eq rfl) (hb hby d5_13) (by decide) (by decide) (by decide) (by decide)
  obtain ⟨rfl, N1q, hh1⟩ := hQ1
  have N1 := Fr.app N0 N1q
  rw [hh1] at e1
  refine own_st st1 ?_
  show Fin1 p e below s (rmI1Q Z a1 x q hd pe pv h0 n0) ({ frames := 3, cells := 1, slots := 3, locals := 42 } : Room).cells ({ frames := 3, cells := 1, slots := 3, locals := 42 } : Room).slots (T1.setTop (mkF m 16 #[.val (.ref a1), .val (.int (1 : Int32)), .val (.ref x)] [(.ref q), (.ref a1)]))
  refine own_st (fun wt wk => XS.aloadN X1.here hx rfl (hb hby d5_16) rfl rfl wk) ?_
  show Fin1 p e below s (rmI1Q Z a1 x q hd pe pv h0 n0) ({ frames := 3, cells := 1, slots := 3, locals := 42 } : Room).cells ({ frames := 3, cells := 1, slots := 3, locals := 42 } : Room).slots (T1.setTop (mkF m 17 #[.val (.ref a1), .val (.int (1 : Int32)), .val (.ref x)] [(.ref x), (.ref q), (.ref a1)]))
  obtain ⟨v2, T2, h2, L2, X2, e2, hQ2, st2⟩ := own_private X1 hx hZ hown (hw _ (List.mem_of_getElem? (i := 28) rfl)) (hw _ (List.mem_of_getElem? (i := 29) rfl)) (hw _ (List.mem_of_getElem? (i := 3) rfl)) (hw _ (List.mem_of_getElem? (i := 30) rfl)) (hw _ (List.mem_of_getElem? (i := 31) rfl)) (hw _ (List.mem_of_getElem? (i := 4) rfl)) (by decide) (a := a1) E_a1 (rmL1 l Z a0 hw a1 q x hd pe pv h0 n0 Z0 g_a1 g_q E_a1 E_q Ha1 Ta1 Sa1 Eq Pq Nq ne_a1_q) e1 (g := (mkF m 17 #[.val (.ref a1), .val (.int (1 : Int32)), .val (.ref x)] [(.ref x), (.ref q), (.ref a1)])) rfl (by rw [hml]; rfl) (argsL := [(.ref q), (.ref x)]) (rest := []) (lenOf pd_10 rfl) rfl (W := 0) (by show 2 * 0 + _ ≤ _; exact Nat.le_of_eq rfl) (hb hby d5_17) (by decide) (by decide) (by decide) (by decide)
  obtain ⟨b, rfl, N2q, s_b, K2, E_b, Ha1, Ta1, Sa1, Eq, Pq, Nq, Eb, Pb, Nb⟩ := hQ2
  have N2 := Fr.app N1 N2q
  have ne_a1_b : a1 ≠ b := Nat.ne_of_lt (Nat.lt_of_lt_of_le E_a1.lt s_b)
  have ne_q_b : q ≠ b := Nat.ne_of_lt (Nat.lt_of_lt_of_le E_q.lt s_b)
  have sz_b : h0.size ≤ b := Nat.le_trans K0.1 s_b
  have g_b : n0 ≤ b := Nat.le_trans Z0 s_b
  have Z0 := Nat.le_trans Z0 K2.1
  have K0 := K0.trans K2 (allS (P := fun x => x ∈ [a1, q] ∨ h0.size ≤ x) (Or.inl (List.mem_of_getElem? (i := 0) rfl)) (allS (P := fun x => x ∈ [a1, q] ∨ h0.size ≤ x) (Or.inl (List.mem_of_getElem? (i := 1) rfl)) all0))
  have E_a1 := E_a1.keep K2
  have E_q := E_q.keep K2
  refine own_st st2 ?_
  show Fin1 p e below s (rmI1Q Z a1 x q hd pe pv h0 n0) ({ frames := 3, cells := 1, slots := 3, locals := 42 } : Room).cells ({ frames := 3, cells := 1, slots := 3, locals := 42 } : Room).slots (T2.setTop (mkF m 20 #[.val (.ref a1), .val (.int (1 : Int32)), .val (.ref x)] [(.ref b)]))
  refine own_st (fun wt wk => XS.pop X2.here hx rfl (hb hby d5_20) rfl rfl wk) ?_
  show Fin1 p e below s (rmI1Q Z a1 x q hd pe pv h0 n0) ({ frames := 3, cells := 1, slots := 3, locals := 42 } : Room).cells ({ frames := 3, cells := 1, slots := 3, locals := 42 } : Room).slots (T2.setTop (mkF m 21 #[.val (.ref a1), .val (.int (1 : Int32)), .val (.ref x)] []))
  exact own_retV X2 hx hlk hret (hb hby d5_21) (by rw [e2]; exact ⟨rfl, N2, b, sz_b, K0, E_b, Ha1, Ta1, Sa1, Eq, Pq, Nq, Eb, Pb, Nb⟩) (by decide) (by decide)
def rmI2Q (Z : State) (a1 : Addr) (x : Addr) (q : Addr) (hd : Addr) (pe : Addr) (pv : Value) (h0 : Heap) (n0 : Nat) (v : Option Value) (h : Heap) (L : List Loc) : Prop := v = none ∧ Fr n0 L ∧ ∃ b : Addr, h0.size ≤ b ∧ Keep h0 h [a1, q] ∧ Exa Z h b "com/example/listwright/listwright/LinkedStorage$Node" ∧ Fld Z h a1 "com/example/listwright/listwright/LinkedStorage" "head" "Lcom/example/listwright/listwright/LinkedStorage$Node;" (.ref hd) ∧ Fld Z h a1 "com/example/listwright/listwright/LinkedStorage" "tail" "Lcom/example/listwright/listwright/LinkedStorage$Node;" (.ref b) ∧ Fld Z h a1 "com/example/listwright/listwright/LinkedStorage" "size" "I" (.int (3 : Int32)) ∧ Fld Z h q "com/example/listwright/listwright/LinkedStorage$Node" "element" "Ljava/lang/Object;" (.ref pe) ∧ Fld Z h q "com/example/listwright/listwright/LinkedStorage$Node" "previous" "Lcom/example/listwright/listwright/LinkedStorage$Node;" pv ∧ Fld Z h q "com/example/listwright/listwright/LinkedStorage$Node" "next" "Lcom/example/listwright/listwright/LinkedStorage$Node;" (.ref b) ∧ Fld Z h b "com/example/listwright/listwright/LinkedStorage$Node" "element" "Ljava/lang/Object;" (.ref x) ∧ Fld Z h b "com/example/listwright/listwright/LinkedStorage$Node" "previous" "Lcom/example/listwright/listwright/LinkedStorage$Node;" (.ref q) ∧ Fld Z h b "com/example/listwright/listwright/LinkedStorage$Node" "next" "Lcom/example/listwright/listwright/LinkedStorage$Node;" .null
set_option maxRecDepth 65536 in
set_option maxHeartbeats 40000000 in
theorem rmI2 (l : Launch) (Z : State) (a0 : Array Value) (hw : ∀ d ∈ tables_1, d.before a0 Z = true) (a1 : Addr) (x : Addr) (q : Addr) (hd : Addr) (pe : Addr) (pv : Value) (h0 : Heap) (n0 : Nat) (Z0 : n0 ≤ h0.size) (g_a1 : n0 ≤ a1) (g_q : n0 ≤ q) (E_a1 : Exa Z h0 a1 "com/example/listwright/listwright/LinkedStorage") (E_q : Exa Z h0 q "com/example/listwright/listwright/LinkedStorage$Node") (Ha1 : Fld Z h0 a1 "com/example/listwright/listwright/LinkedStorage" "head" "Lcom/example/listwright/listwright/LinkedStorage$Node;" (.ref hd)) (Ta1 : Fld Z h0 a1 "com/example/listwright/listwright/LinkedStorage" "tail" "Lcom/example/listwright/listwright/LinkedStorage$Node;" (.ref q)) (Sa1 : Fld Z h0 a1 "com/example/listwright/listwright/LinkedStorage" "size" "I" (.int (2 : Int32))) (Eq : Fld Z h0 q "com/example/listwright/listwright/LinkedStorage$Node" "element" "Ljava/lang/Object;" (.ref pe)) (Pq : Fld Z h0 q "com/example/listwright/listwright/LinkedStorage$Node" "previous" "Lcom/example/listwright/listwright/LinkedStorage$Node;" pv) (Nq : Fld Z h0 q "com/example/listwright/listwright/LinkedStorage$Node" "next" "Lcom/example/listwright/listwright/LinkedStorage$Node;" .null) (ne_a1_q : a1 ≠ q) :
    Ct l Z [] (⟨"com/example/listwright/listwright/LinkedStorage", "insert", "(ILjava/lang/Object;)V"⟩ : MethodName) prog_19_method_5_code 3 none ({ frames := 3, cells := 1, slots := 3, locals := 42 } : Room) #[(.ref a1), (.int (2 : Int32)), (.ref x)] h0 (rmI2Q Z a1 x q hd pe pv h0 n0) := by
  refine own_enter (plainFor_of_name pn_5) ?_
  intro p e s m below meth c T0 X0 hx hby hml hZ hown hnm hret hlk e0
  have hown : s.vm.findClass "com/example/listwright/listwright/LinkedStorage" = some m.cls := hown
  have N0 := Fr.nil n0
  have K0 := Keep.refl h0 [a1, q]
  refine own_st (fun wt wk => castTop (g' := mkF m 0 #[.val (.ref a1), .val (.int (2 : Int32)), .val (.ref x)] []) (by first | (simp [entryFrame, mkF, argsToLocals, Value.category]; done) | rfl) wk) ?_
  show Fin1 p e below s (rmI2Q Z a1 x q hd pe pv h0 n0) ({ frames := 3, cells := 1, slots := 3, locals := 42 } : Room).cells ({ frames := 3, cells := 1, slots := 3, locals := 42 } : Room).slots (T0.setTop (mkF m 0 #[.val (.ref a1), .val (.int (2 : Int32)), .val (.ref x)] []))
  refine own_st (fun wt wk => XS.aloadN X0.here hx rfl (hb hby d5_0) rfl rfl (XS.iloadN X0.here hx rfl (hb hby d5_1) rfl wk)) ?_
  show Fin1 p e below s (rmI2Q Z a1 x q hd pe pv h0 n0) ({ frames := 3, cells := 1, slots := 3, locals := 42 } : Room).cells ({ frames := 3, cells := 1, slots := 3, locals := 42 } : Room).slots (T0.setTop (mkF m 2 #[.val (.ref a1), .val (.int (2 : Int32)), .val (.ref x)] [(.int (2 : Int32)), (.ref a1)]))
  refine own_st (fun wt wk => XS.ifYes X0.here hx rfl (pc0 := 2) (pc' := 9) rfl (hb hby d5_2) rfl ((if0 _ _).trans (feq (by decide)).2) (by decide) (by decide) wk) ?_
  show Fin1 p e below s (rmI2Q Z a1 x q hd pe pv h0 n0) ({ frames := 3, cells := 1, slots := 3, locals := 42 } : Room).cells ({ frames := 3, cells := 1, slots := 3, locals := 42 } : Room).slots (T0.setTop (mkF m 9 #[.val (.ref a1), .val (.int (2 : Int32)), .val (.ref x)] [(.ref a1)]))
  refine own_st (fun wt wk => XS.aloadN X0.here hx rfl (hb hby d5_9) rfl rfl (XS.iloadN X0.here hx rfl (hb hby d5_10) rfl (XS.iconst X0.here hx rfl (hb hby d5_11) (XS.isub X0.here hx rfl (hb hby d5_12) rfl wk)))) ?_
  show Fin1 p e below s (rmI2Q Z a1 x q hd pe pv h0 n0) ({ frames := 3, cells := 1, slots := 3, locals := 42 } : Room).cells ({ frames := 3, cells := 1, slots := 3, locals := 42 } : Room).slots (T0.setTop (mkF m 13 #[.val (.ref a1), .val (.int (2 : Int32)), .val (.ref x)] [(.int ((2 : Int32) - (1 : Int32))), (.ref a1), (.ref a1)]))
  rw [show ((2 : Int32) - (1 : Int32)) = (1 : Int32) from by decide]
  show Fin1 p e below s (rmI2Q Z a1 x q hd pe pv h0 n0) ({ frames := 3, cells := 1, slots := 3, locals := 42 } : Room).cells ({ frames := 3, cells := 1, slots := 3, locals := 42 } : Room).slots (T0.setTop (mkF m 13 #[.val (.ref a1), .val (.int (2 : Int32)), .val (.ref x)] [(.int (1 : Int32)), (.ref a1), (.ref a1)]))
  obtain ⟨v1, T1, h1, L1, X1, e1, hQ1, st1⟩ := own_private X0 hx hZ hown (hw _ (List.mem_of_getElem? (i := 55) rfl)) (hw _ (List.mem_of_getElem? (i := 56) rfl)) (hw _ (List.mem_of_getElem? (i := 3) rfl)) (hw _ (List.mem_of_getElem? (i := 57) rfl)) (hw _ (List.mem_of_getElem? (i := 58) rfl)) (hw _ (List.mem_of_getElem? (i := 4) rfl)) (by decide) (a := a1) E_a1 (rmA21 l Z a0 hw a1 q h0 n0 Z0 Sa1 Ta1) e0 (g := (mkF m 13 #[.val (.ref a1), .val (.int (2 : Int32)), .val (.ref x)] [(.int (1 : Int32)), (.ref a1), (.ref a1)])) rfl (by rw [hml]; rfl) (argsL := [(.int (1 : Int32))]) (rest := [(.ref a1)]) (lenOf pd_9 rfl) rfl (W := 1) (by show 2 * 0 + _ ≤ _; exact Nat.le_of_eq rfl) (hb hby d5_13) (by decide) (by decide) (by decide) (by decide)
  obtain ⟨rfl, N1q, hh1⟩ := hQ1
  have N1 := Fr.app N0 N1q
  rw [hh1] at e1
  refine own_st st1 ?_
  show Fin1 p e below s (rmI2Q Z a1 x q hd pe pv h0 n0) ({ frames := 3, cells := 1, slots := 3, locals := 42 } : Room).cells ({ frames := 3, cells := 1, slots := 3, locals := 42 } : Room).slots (T1.setTop (mkF m 16 #[.val (.ref a1), .val (.int (2 : Int32)), .val (.ref x)] [(.ref q), (.ref a1)]))
  refine own_st (fun wt wk => XS.aloadN X1.here hx rfl (hb hby d5_16) rfl rfl wk) ?_
  show Fin1 p e below s (rmI2Q Z a1 x q hd pe pv h0 n0) ({ frames := 3, cells := 1, slots := 3, locals := 42 } : Room).cells ({ frames := 3, cells := 1, slots := 3, locals := 42 } : Room).slots (T1.setTop (mkF m 17 #[.val (.ref a1), .val (.int (2 : Int32)), .val (.ref x)] [(.ref x), (.ref q), (.ref a1)]))
  obtain ⟨v2, T2, h2, L2, X2, e2, hQ2, st2⟩ := own_private X1 hx hZ hown (hw _ (List.mem_of_getElem? (i := 28) rfl)) (hw _ (List.mem_of_getElem? (i := 29) rfl)) (hw _ (List.mem_of_getElem? (i := 3) rfl)) (hw _ (List.mem_of_getElem? (i := 30) rfl)) (hw _ (List.mem_of_getElem? (i := 31) rfl)) (hw _ (List.mem_of_getElem? (i := 4) rfl)) (by decide) (a := a1) E_a1 (rmL2 l Z a0 hw a1 q x hd pe pv h0 n0 Z0 g_a1 g_q E_a1 E_q Ha1 Ta1 Sa1 Eq Pq Nq ne_a1_q) e1 (g := (mkF m 17 #[.val (.ref a1), .val (.int (2 : Int32)), .val (.ref x)] [(.ref x), (.ref q), (.ref a1)])) rfl (by rw [hml]; rfl) (argsL := [(.ref q), (.ref x)]) (rest := []) (lenOf pd_10 rfl) rfl (W := 0) (by show 2 * 0 + _ ≤ _; exact Nat.le_of_eq rfl) (hb hby d5_17) (by decide) (by decide) (by decide) (by decide)
  obtain ⟨b, rfl, N2q, s_b, K2, E_b, Ha1, Ta1, Sa1, Eq, Pq, Nq, Eb, Pb, Nb⟩ := hQ2
  have N2 := Fr.app N1 N2q
  have ne_a1_b : a1 ≠ b := Nat.ne_of_lt (Nat.lt_of_lt_of_le E_a1.lt s_b)
  have ne_q_b : q ≠ b := Nat.ne_of_lt (Nat.lt_of_lt_of_le E_q.lt s_b)
  have sz_b : h0.size ≤ b := Nat.le_trans K0.1 s_b
  have g_b : n0 ≤ b := Nat.le_trans Z0 s_b
  have Z0 := Nat.le_trans Z0 K2.1
  have K0 := K0.trans K2 (allS (P := fun x => x ∈ [a1, q] ∨ h0.size ≤ x) (Or.inl (List.mem_of_getElem? (i := 0) rfl)) (allS (P := fun x => x ∈ [a1, q] ∨ h0.size ≤ x) (Or.inl (List.mem_of_getElem? (i := 1) rfl)) all0))
  have E_a1 := E_a1.keep K2
  have E_q := E_q.keep K2
  refine own_st st2 ?_
  show Fin1 p e below s (rmI2Q Z a1 x q hd pe pv h0 n0) ({ frames := 3, cells := 1, slots := 3, locals := 42 } : Room).cells ({ frames := 3, cells := 1, slots := 3, locals := 42 } : Room).slots (T2.setTop (mkF m 20 #[.val (.ref a1), .val (.int (2 : Int32)), .val (.ref x)] [(.ref b)]))
  refine own_st (fun wt wk => XS.pop X2.here hx rfl (hb hby d5_20) rfl rfl wk) ?_
  show Fin1 p e below s (rmI2Q Z a1 x q hd pe pv h0 n0) ({ frames := 3, cells := 1, slots := 3, locals := 42 } : Room).cells ({ frames := 3, cells := 1, slots := 3, locals := 42 } : Room).slots (T2.setTop (mkF m 21 #[.val (.ref a1), .val (.int (2 : Int32)), .val (.ref x)] []))
  exact own_retV X2 hx hlk hret (hb hby d5_21) (by rw [e2]; exact ⟨rfl, N2, b, sz_b, K0, E_b, Ha1, Ta1, Sa1, Eq, Pq, Nq, Eb, Pb, Nb⟩) (by decide) (by decide)
def rmI3Q (Z : State) (a1 : Addr) (x : Addr) (q : Addr) (hd : Addr) (pe : Addr) (pv : Value) (h0 : Heap) (n0 : Nat) (v : Option Value) (h : Heap) (L : List Loc) : Prop := v = none ∧ Fr n0 L ∧ ∃ b : Addr, h0.size ≤ b ∧ Keep h0 h [a1, q] ∧ Exa Z h b "com/example/listwright/listwright/LinkedStorage$Node" ∧ Fld Z h a1 "com/example/listwright/listwright/LinkedStorage" "head" "Lcom/example/listwright/listwright/LinkedStorage$Node;" (.ref hd) ∧ Fld Z h a1 "com/example/listwright/listwright/LinkedStorage" "tail" "Lcom/example/listwright/listwright/LinkedStorage$Node;" (.ref b) ∧ Fld Z h a1 "com/example/listwright/listwright/LinkedStorage" "size" "I" (.int (4 : Int32)) ∧ Fld Z h q "com/example/listwright/listwright/LinkedStorage$Node" "element" "Ljava/lang/Object;" (.ref pe) ∧ Fld Z h q "com/example/listwright/listwright/LinkedStorage$Node" "previous" "Lcom/example/listwright/listwright/LinkedStorage$Node;" pv ∧ Fld Z h q "com/example/listwright/listwright/LinkedStorage$Node" "next" "Lcom/example/listwright/listwright/LinkedStorage$Node;" (.ref b) ∧ Fld Z h b "com/example/listwright/listwright/LinkedStorage$Node" "element" "Ljava/lang/Object;" (.ref x) ∧ Fld Z h b "com/example/listwright/listwright/LinkedStorage$Node" "previous" "Lcom/example/listwright/listwright/LinkedStorage$Node;" (.ref q) ∧ Fld Z h b "com/example/listwright/listwright/LinkedStorage$Node" "next" "Lcom/example/listwright/listwright/LinkedStorage$Node;" .null
set_option maxRecDepth 65536 in
set_option maxHeartbeats 40000000 in
theorem rmI3 (l : Launch) (Z : State) (a0 : Array Value) (hw : ∀ d ∈ tables_1, d.before a0 Z = true) (a1 : Addr) (x : Addr) (q : Addr) (hd : Addr) (pe : Addr) (pv : Value) (h0 : Heap) (n0 : Nat) (Z0 : n0 ≤ h0.size) (g_a1 : n0 ≤ a1) (g_q : n0 ≤ q) (E_a1 : Exa Z h0 a1 "com/example/listwright/listwright/LinkedStorage") (E_q : Exa Z h0 q "com/example/listwright/listwright/LinkedStorage$Node") (Ha1 : Fld Z h0 a1 "com/example/listwright/listwright/LinkedStorage" "head" "Lcom/example/listwright/listwright/LinkedStorage$Node;" (.ref hd)) (Ta1 : Fld Z h0 a1 "com/example/listwright/listwright/LinkedStorage" "tail" "Lcom/example/listwright/listwright/LinkedStorage$Node;" (.ref q)) (Sa1 : Fld Z h0 a1 "com/example/listwright/listwright/LinkedStorage" "size" "I" (.int (3 : Int32))) (Eq : Fld Z h0 q "com/example/listwright/listwright/LinkedStorage$Node" "element" "Ljava/lang/Object;" (.ref pe)) (Pq : Fld Z h0 q "com/example/listwright/listwright/LinkedStorage$Node" "previous" "Lcom/example/listwright/listwright/LinkedStorage$Node;" pv) (Nq : Fld Z h0 q "com/example/listwright/listwright/LinkedStorage$Node" "next" "Lcom/example/listwright/listwright/LinkedStorage$Node;" .null) (ne_a1_q : a1 ≠ q) :
    Ct l Z [] (⟨"com/example/listwright/listwright/LinkedStorage", "insert", "(ILjava/lang/Object;)V"⟩ : MethodName) prog_19_method_5_code 3 none ({ frames := 3, cells := 1, slots := 3, locals := 42 } : Room) #[(.ref a1), (.int (3 : Int32)), (.ref x)] h0 (rmI3Q Z a1 x q hd pe pv h0 n0) := by
  refine own_enter (plainFor_of_name pn_5) ?_
  intro p e s m below meth c T0 X0 hx hby hml hZ hown hnm hret hlk e0
  have hown : s.vm.findClass "com/example/listwright/listwright/LinkedStorage" = some m.cls := hown
  have N0 := Fr.nil n0
  have K0 := Keep.refl h0 [a1, q]
  refine own_st (fun wt wk => castTop (g' := mkF m 0 #[.val (.ref a1), .val (.int (3 : Int32)), .val (.ref x)] []) (by first | (simp [entryFrame, mkF, argsToLocals, Value.category]; done) | rfl) wk) ?_
  show Fin1 p e below s (rmI3Q Z a1 x q hd pe pv h0 n0) ({ frames := 3, cells := 1, slots := 3, locals := 42 } : Room).cells ({ frames := 3, cells := 1, slots := 3, locals := 42 } : Room).slots (T0.setTop (mkF m 0 #[.val (.ref a1), .val (.int (3 : Int32)), .val (.ref x)] []))
  refine own_st (fun wt wk => XS.aloadN X0.here hx rfl (hb hby d5_0) rfl rfl (XS.iloadN X0.here hx rfl (hb hby d5_1) rfl wk)) ?_
  show Fin1 p e below s (rmI3Q Z a1 x q hd pe pv h0 n0) ({ frames := 3, cells := 1, slots := 3, locals := 42 } : Room).cells ({ frames := 3, cells := 1, slots := 3, locals := 42 } : Room).slots (T0.setTop (mkF m 2 #[.val (.ref a1), .val (.int (3 : Int32)), .val (.ref x)] [(.int (3 : Int32)), (.ref a1)]))
  refine own_st (fun wt wk => XS.ifYes X0.here hx rfl (pc0 := 2) (pc' := 9) rfl (hb hby d5_2) rfl ((if0 _ _).trans (feq (by decide)).2) (by decide) (by decide) wk) ?_
  show Fin1 p e below s (rmI3Q Z a1 x q hd pe pv h0 n0) ({ frames := 3, cells := 1, slots := 3, locals := 42 } : Room).cells ({ frames := 3, cells := 1, slots := 3, locals := 42 } : Room).slots (T0.setTop (mkF m 9 #[.val (.ref a1), .val (.int (3 : Int32)), .val (.ref x)] [(.ref a1)]))
  refine own_st (fun wt wk => XS.aloadN X0.here hx rfl (hb hby d5_9) rfl rfl (XS.iloadN X0.here hx rfl (hb hby d5_10) rfl (XS.iconst X0.here hx rfl (hb hby d5_11) (XS.isub X0.here hx rfl (hb hby d5_12) rfl wk)))) ?_
  show Fin1 p e below s (rmI3Q Z a1 x q hd pe pv h0 n0) ({ frames := 3, cells := 1, slots := 3, locals := 42 } : Room).cells ({ frames := 3, cells := 1, slots := 3, locals := 42 } : Room).slots (T0.setTop (mkF m 13 #[.val (.ref a1), .val (.int (3 : Int32)), .val (.ref x)] [(.int ((3 : Int32) - (1 : Int32))), (.ref a1), (.ref a1)]))
  rw [show ((3 : Int32) - (1 : Int32)) = (2 : Int32) from by decide]
  show Fin1 p e below s (rmI3Q Z a1 x q hd pe pv h0 n0) ({ frames := 3, cells := 1, slots := 3, locals := 42 } : Room).cells ({ frames := 3, cells := 1, slots := 3, locals := 42 } : Room).slots (T0.setTop (mkF m 13 #[.val (.ref a1), .val (.int (3 : Int32)), .val (.ref x)] [(.int (2 : Int32)), (.ref a1), (.ref a1)]))
  obtain ⟨v1, T1, h1, L1, X1, e1, hQ1, st1⟩ := own_private X0 hx hZ hown (hw _ (List.mem_of_getElem? (i := 55) rfl)) (hw _ (List.mem_of_getElem? (i := 56) rfl)) (hw _ (List.mem_of_getElem? (i := 3) rfl)) (hw _ (List.mem_of_getElem? (i := 57) rfl)) (hw _ (List.mem_of_getElem? (i := 58) rfl)) (hw _ (List.mem_of_getElem? (i := 4) rfl)) (by decide) (a := a1) E_a1 (rmA32 l Z a0 hw a1 q h0 n0 Z0 Sa1 Ta1) e0 (g := (mkF m 13 #[.val (.ref a1), .val (.int (3 : Int32)), .val (.ref x)] [(.int (2 : Int32)), (.ref a1), (.ref a1)])) rfl (by rw [hml]; rfl) (argsL := [(.int (2 : Int32))]) (rest := [(.ref a1)]) (lenOf pd_9 rfl) rfl (W := 1) (by show 2 * 0 + _ ≤ _; exact Nat.le_of_eq rfl) (hb hby d5_13) (by decide) (by decide) (by decide) (by decide)
  obtain ⟨rfl, N1q, hh1⟩ := hQ1
  have N1 := Fr.app N0 N1q
  rw [hh1] at e1
  refine own_st st1 ?_
  show Fin1 p e below s (rmI3Q Z a1 x q hd pe pv h0 n0) ({ frames := 3, cells := 1, slots := 3, locals := 42 } : Room).cells ({ frames := 3, cells := 1, slots := 3, locals := 42 } : Room).slots (T1.setTop (mkF m 16 #[.val (.ref a1), .val (.int (3 : Int32)), .val (.ref x)] [(.ref q), (.ref a1)]))
  refine own_st (fun wt wk => XS.aloadN X1.here hx rfl (hb hby d5_16) rfl rfl wk) ?_
  show Fin1 p e below s (rmI3Q Z a1 x q hd pe pv h0 n0) ({ frames := 3, cells := 1, slots := 3, locals := 42 } : Room).cells ({ frames := 3, cells := 1, slots := 3, locals := 42 } : Room).slots (T1.setTop (mkF m 17 #[.val (.ref a1), .val (.int (3 : Int32)), .val (.ref x)] [(.ref x), (.ref q), (.ref a1)]))
  obtain ⟨v2, T2, h2, L2, X2, e2, hQ2, st2⟩ := own_private X1 hx hZ hown (hw _ (List.mem_of_getElem? (i := 28) rfl)) (hw _ (List.mem_of_getElem? (i := 29) rfl)) (hw _ (List.mem_of_getElem? (i := 3) rfl)) (hw _ (List.mem_of_getElem? (i := 30) rfl)) (hw _ (List.mem_of_getElem? (i := 31) rfl)) (hw _ (List.mem_of_getElem? (i := 4) rfl)) (by decide) (a := a1) E_a1 (rmL3 l Z a0 hw a1 q x hd pe pv h0 n0 Z0 g_a1 g_q E_a1 E_q Ha1 Ta1 Sa1 Eq Pq Nq ne_a1_q) e1 (g := (mkF m 17 #[.val (.ref a1), .val (.int (3 : Int32)), .val (.ref x)] [(.ref x), (.ref q), (.ref a1)])) rfl (by rw [hml]; rfl) (argsL := [(.ref q), (.ref x)]) (rest := []) (lenOf pd_10 rfl) rfl (W := 0) (by show 2 * 0 + _ ≤ _; exact Nat.le_of_eq rfl) (hb hby d5_17) (by decide) (by decide) (by decide) (by decide)
  obtain ⟨b, rfl, N2q, s_b, K2, E_b, Ha1, Ta1, Sa1, Eq, Pq, Nq, Eb, Pb, Nb⟩ := hQ2
  have N2 := Fr.app N1 N2q
  have ne_a1_b : a1 ≠ b := Nat.ne_of_lt (Nat.lt_of_lt_of_le E_a1.lt s_b)
  have ne_q_b : q ≠ b := Nat.ne_of_lt (Nat.lt_of_lt_of_le E_q.lt s_b)
  have sz_b : h0.size ≤ b := Nat.le_trans K0.1 s_b
  have g_b : n0 ≤ b := Nat.le_trans Z0 s_b
  have Z0 := Nat.le_trans Z0 K2.1
  have K0 := K0.trans K2 (allS (P := fun x => x ∈ [a1, q] ∨ h0.size ≤ x) (Or.inl (List.mem_of_getElem? (i := 0) rfl)) (allS (P := fun x => x ∈ [a1, q] ∨ h0.size ≤ x) (Or.inl (List.mem_of_getElem? (i := 1) rfl)) all0))
  have E_a1 := E_a1.keep K2
  have E_q := E_q.keep K2
  refine own_st st2 ?_
  show Fin1 p e below s (rmI3Q Z a1 x q hd pe pv h0 n0) ({ frames := 3, cells := 1, slots := 3, locals := 42 } : Room).cells ({ frames := 3, cells := 1, slots := 3, locals := 42 } : Room).slots (T2.setTop (mkF m 20 #[.val (.ref a1), .val (.int (3 : Int32)), .val (.ref x)] [(.ref b)]))
  refine own_st (fun wt wk => XS.pop X2.here hx rfl (hb hby d5_20) rfl rfl wk) ?_
  show Fin1 p e below s (rmI3Q Z a1 x q hd pe pv h0 n0) ({ frames := 3, cells := 1, slots := 3, locals := 42 } : Room).cells ({ frames := 3, cells := 1, slots := 3, locals := 42 } : Room).slots (T2.setTop (mkF m 21 #[.val (.ref a1), .val (.int (3 : Int32)), .val (.ref x)] []))
  exact own_retV X2 hx hlk hret (hb hby d5_21) (by rw [e2]; exact ⟨rfl, N2, b, sz_b, K0, E_b, Ha1, Ta1, Sa1, Eq, Pq, Nq, Eb, Pb, Nb⟩) (by decide) (by decide)
theorem d13_0 : decode prog_19_method_2_code 0 = .ok (.aload_n 0, 1) := by decide +kernel
theorem d13_1 : decode prog_19_method_2_code 1 = .ok (.getfield 7, 3) := by decide +kernel
theorem d13_4 : decode prog_19_method_2_code 4 = .ok (.ireturn, 1) := by decide +kernel
def rmZQ (Z : State) (a1 : Addr) (z : Int32) (h0 : Heap) (n0 : Nat) (v : Option Value) (h : Heap) (L : List Loc) : Prop := v = some (.int z) ∧ Fr n0 L ∧ h = h0
set_option maxRecDepth 65536 in
set_option maxHeartbeats 40000000 in
theorem rmZ (l : Launch) (Z : State) (a0 : Array Value) (hw : ∀ d ∈ tables_1, d.before a0 Z = true) (a1 : Addr) (z : Int32) (h0 : Heap) (n0 : Nat) (Z0 : n0 ≤ h0.size) (Sa1 : Fld Z h0 a1 "com/example/listwright/listwright/LinkedStorage" "size" "I" (.int z)) :
    Ct l Z [] (⟨"com/example/listwright/listwright/LinkedStorage", "size", "()I"⟩ : MethodName) prog_19_method_2_code 1 (some .int) ({ frames := 0, cells := 0, slots := 0, locals := 0 } : Room) #[(.ref a1)] h0 (rmZQ Z a1 z h0 n0) := by
  refine own_enter (plainFor_of_name pn_5) ?_
  intro p e s m below meth c T0 X0 hx hby hml hZ hown hnm hret hlk e0
  have hown : s.vm.findClass "com/example/listwright/listwright/LinkedStorage" = some m.cls := hown
  have N0 := Fr.nil n0
  have K0 := Keep.refl h0 []
  refine own_st (fun wt wk => castTop (g' := mkF m 0 #[.val (.ref a1)] []) (by first | (simp [entryFrame, mkF, argsToLocals, Value.category]; done) | rfl) wk) ?_
  show Fin1 p e below s (rmZQ Z a1 z h0 n0) ({ frames := 0, cells := 0, slots := 0, locals := 0 } : Room).cells ({ frames := 0, cells := 0, slots := 0, locals := 0 } : Room).slots (T0.setTop (mkF m 0 #[.val (.ref a1)] []))
  refine own_st (fun wt wk => XS.aloadN X0.here hx rfl (hb hby d13_0) rfl rfl wk) ?_
  show Fin1 p e below s (rmZQ Z a1 z h0 n0) ({ frames := 0, cells := 0, slots := 0, locals := 0 } : Room).cells ({ frames := 0, cells := 0, slots := 0, locals := 0 } : Room).slots (T0.setTop (mkF m 1 #[.val (.ref a1)] [(.ref a1)]))
  obtain ⟨T1, X1, e1, st1⟩ := getF X0 hx hZ hown (host := "") (Or.inl (hw _ (List.mem_of_getElem? (i := 53) rfl))) Via.refl e0 Sa1 (g := (mkF m 1 #[.val (.ref a1)] [(.ref a1)])) rfl rfl (hb hby d13_1)
  refine own_st st1 ?_
  show Fin1 p e below s (rmZQ Z a1 z h0 n0) ({ frames := 0, cells := 0, slots := 0, locals := 0 } : Room).cells ({ frames := 0, cells := 0, slots := 0, locals := 0 } : Room).slots (T1.setTop (mkF m 4 #[.val (.ref a1)] [(.int z)]))
  exact own_retI X1 hx hlk hret (hb hby d13_4) (by rw [e1]; exact ⟨rfl, N0, rfl⟩) (by decide) (by decide)
theorem d12_0 : decode jdk_33_method_27_code 0 = .ok (.aload_n 0, 1) := by decide +kernel
theorem d12_1 : decode jdk_33_method_27_code 1 = .ok (.getfield 205, 3) := by decide +kernel
theorem d12_4 : decode jdk_33_method_27_code 4 = .ok (.ireturn, 1) := by decide +kernel
def rmIVQ (Z : State) (r : Addr) (y : Int32) (h0 : Heap) (n0 : Nat) (v : Option Value) (h : Heap) (L : List Loc) : Prop := v = some (.int y) ∧ Fr n0 L ∧ h = h0
set_option maxRecDepth 65536 in
set_option maxHeartbeats 40000000 in
theorem rmIV (l : Launch) (Z : State) (a0 : Array Value) (hw : ∀ d ∈ tables_1, d.before a0 Z = true) (r : Addr) (y : Int32) (h0 : Heap) (n0 : Nat) (Z0 : n0 ≤ h0.size) (Vr : Fld Z h0 r "java/lang/Integer" "value" "I" (.int y)) :
    Ct l Z [] (⟨"java/lang/Integer", "intValue", "()I"⟩ : MethodName) jdk_33_method_27_code 1 (some .int) ({ frames := 0, cells := 0, slots := 0, locals := 0 } : Room) #[(.ref r)] h0 (rmIVQ Z r y h0 n0) := by
  refine own_enter (plainFor_of_name pn_1) ?_
  intro p e s m below meth c T0 X0 hx hby hml hZ hown hnm hret hlk e0
  have hown : s.vm.findClass "java/lang/Integer" = some m.cls := hown
  have N0 := Fr.nil n0
  have K0 := Keep.refl h0 []
  refine own_st (fun wt wk => castTop (g' := mkF m 0 #[.val (.ref r)] []) (by first | (simp [entryFrame, mkF, argsToLocals, Value.category]; done) | rfl) wk) ?_
  show Fin1 p e below s (rmIVQ Z r y h0 n0) ({ frames := 0, cells := 0, slots := 0, locals := 0 } : Room).cells ({ frames := 0, cells := 0, slots := 0, locals := 0 } : Room).slots (T0.setTop (mkF m 0 #[.val (.ref r)] []))
  refine own_st (fun wt wk => XS.aloadN X0.here hx rfl (hb hby d12_0) rfl rfl wk) ?_
  show Fin1 p e below s (rmIVQ Z r y h0 n0) ({ frames := 0, cells := 0, slots := 0, locals := 0 } : Room).cells ({ frames := 0, cells := 0, slots := 0, locals := 0 } : Room).slots (T0.setTop (mkF m 1 #[.val (.ref r)] [(.ref r)]))
  obtain ⟨T1, X1, e1, st1⟩ := getF X0 hx hZ hown (host := "") (Or.inl (hw _ (List.mem_of_getElem? (i := 76) rfl))) Via.refl e0 Vr (g := (mkF m 1 #[.val (.ref r)] [(.ref r)])) rfl rfl (hb hby d12_1)
  refine own_st st1 ?_
  show Fin1 p e below s (rmIVQ Z r y h0 n0) ({ frames := 0, cells := 0, slots := 0, locals := 0 } : Room).cells ({ frames := 0, cells := 0, slots := 0, locals := 0 } : Room).slots (T1.setTop (mkF m 4 #[.val (.ref r)] [(.int y)]))
  exact own_retI X1 hx hlk hret (hb hby d12_4) (by rw [e1]; exact ⟨rfl, N0, rfl⟩) (by decide) (by decide)
theorem d11_0 : decode method_2_code 0 = .ok (.aload_n 0, 1) := by decide +kernel
theorem d11_1 : decode method_2_code 1 = .ok (.ifnull 15, 3) := by decide +kernel
theorem d11_4 : decode method_2_code 4 = .ok (.aload_n 0, 1) := by decide +kernel
theorem d11_5 : decode method_2_code 5 = .ok (.invokevirtual 7, 3) := by decide +kernel
theorem d11_8 : decode method_2_code 8 = .ok (.iload_n 1, 1) := by decide +kernel
theorem d11_9 : decode method_2_code 9 = .ok (.if_icmp .ne 7, 3) := by decide +kernel
theorem d11_12 : decode method_2_code 12 = .ok (.iconst 1, 1) := by decide +kernel
theorem d11_13 : decode method_2_code 13 = .ok (.goto 4, 3) := by decide +kernel
theorem d11_16 : decode method_2_code 16 = .ok (.iconst 0, 1) := by decide +kernel
theorem d11_17 : decode method_2_code 17 = .ok (.ireturn, 1) := by decide +kernel
theorem pn_11 : plainName "com/example/listwright/listwright/LinkedStorageSetPinLaw" = true := by first | (simp [plainName, overriddenIn]; done) | decide +kernel
theorem pd_12 : parseMethodDescriptor "()I" = some ⟨[], some .int⟩ := by decide +kernel
def rmEqQ (Z : State) (r : Addr) (y : Int32) (h0 : Heap) (n0 : Nat) (v : Option Value) (h : Heap) (L : List Loc) : Prop := v = some (.int (1 : Int32)) ∧ Fr n0 L ∧ h = h0
set_option maxRecDepth 65536 in
set_option maxHeartbeats 40000000 in
theorem rmEq (l : Launch) (Z : State) (a0 : Array Value) (hw : ∀ d ∈ tables_1, d.before a0 Z = true) (r : Addr) (y : Int32) (h0 : Heap) (n0 : Nat) (Z0 : n0 ≤ h0.size) (E_r : Exa Z h0 r "java/lang/Integer") (Vr : Fld Z h0 r "java/lang/Integer" "value" "I" (.int y)) :
    Ct l Z [] (⟨"com/example/listwright/listwright/LinkedStorageSetPinLaw", "eq", "(Ljava/lang/Integer;I)Z"⟩ : MethodName) method_2_code 2 (some .boolean) ({ frames := 1, cells := 0, slots := 0, locals := 12 } : Room) #[(.ref r), (.int y)] h0 (rmEqQ Z r y h0 n0) := by
  refine own_enter (plainFor_of_name pn_11) ?_
  intro p e s m below meth c T0 X0 hx hby hml hZ hown hnm hret hlk e0
  have hown : s.vm.findClass "com/example/listwright/listwright/LinkedStorageSetPinLaw" = some m.cls := hown
  have N0 := Fr.nil n0
  have K0 := Keep.refl h0 []
  refine own_st (fun wt wk => castTop (g' := mkF m 0 #[.val (.ref r), .val (.int y)] []) (by first | (simp [entryFrame, mkF, argsToLocals, Value.category]; done) | rfl) wk) ?_
  show Fin1 p e below s (rmEqQ Z r y h0 n0) ({ frames := 1, cells := 0, slots := 0, locals := 12 } : Room).cells ({ frames := 1, cells := 0, slots := 0, locals := 12 } : Room).slots (T0.setTop (mkF m 0 #[.val (.ref r), .val (.int y)] []))
  refine own_st (fun wt wk => XS.aloadN X0.here hx rfl (hb hby d11_0) rfl rfl wk) ?_
  show Fin1 p e below s (rmEqQ Z r y h0 n0) ({ frames := 1, cells := 0, slots := 0, locals := 12 } : Room).cells ({ frames := 1, cells := 0, slots := 0, locals := 12 } : Room).slots (T0.setTop (mkF m 1 #[.val (.ref r), .val (.int y)] [(.ref r)]))
  refine own_st (fun wt wk => XS.ifnullNo X0.here hx rfl (hb hby d11_1) rfl wk) ?_
  show Fin1 p e below s (rmEqQ Z r y h0 n0) ({ frames := 1, cells := 0, slots := 0, locals := 12 } : Room).cells ({ frames := 1, cells := 0, slots := 0, locals := 12 } : Room).slots (T0.setTop (mkF m 4 #[.val (.ref r), .val (.int y)] []))
  refine own_st (fun wt wk => XS.aloadN X0.here hx rfl (hb hby d11_4) rfl rfl wk) ?_
  show Fin1 p e below s (rmEqQ Z r y h0 n0) ({ frames := 1, cells := 0, slots := 0, locals := 12 } : Room).cells ({ frames := 1, cells := 0, slots := 0, locals := 12 } : Room).slots (T0.setTop (mkF m 5 #[.val (.ref r), .val (.int y)] [(.ref r)]))
  obtain ⟨v1, T1, h1, L1, X1, e1, hQ1, st1⟩ := own_virtual X0 hx hZ hown (hw _ (List.mem_of_getElem? (i := 71) rfl)) (hw _ (List.mem_of_getElem? (i := 72) rfl)) (hw _ (List.mem_of_getElem? (i := 74) rfl)) (hw _ (List.mem_of_getElem? (i := 73) rfl)) (hw _ (List.mem_of_getElem? (i := 75) rfl)) (hw _ (List.mem_of_getElem? (i := 18) rfl)) (by decide) (a := r) E_r (rmIV l Z a0 hw r y h0 n0 Z0 Vr) e0 (g := (mkF m 5 #[.val (.ref r), .val (.int y)] [(.ref r)])) rfl (by rw [hml]; rfl) (argsL := []) (rest := []) (lenOf pd_12 rfl) rfl (W := 0) (by show 2 * 0 + _ ≤ _; exact Nat.le_of_eq rfl) (hb hby d11_5) (by decide) (by decide) (by decide) (by decide)
  obtain ⟨rfl, N1q, hh1⟩ := hQ1
  have N1 := Fr.app N0 N1q
  rw [hh1] at e1
  refine own_st st1 ?_
  show Fin1 p e below s (rmEqQ Z r y h0 n0) ({ frames := 1, cells := 0, slots := 0, locals := 12 } : Room).cells ({ frames := 1, cells := 0, slots := 0, locals := 12 } : Room).slots (T1.setTop (mkF m 8 #[.val (.ref r), .val (.int y)] [(.int y)]))
  refine own_st (fun wt wk => XS.iloadN X1.here hx rfl (hb hby d11_8) rfl wk) ?_
  show Fin1 p e below s (rmEqQ Z r y h0 n0) ({ frames := 1, cells := 0, slots := 0, locals := 12 } : Room).cells ({ frames := 1, cells := 0, slots := 0, locals := 12 } : Room).slots (T1.setTop (mkF m 9 #[.val (.ref r), .val (.int y)] [(.int y), (.int y)]))
  refine own_st (fun wt wk => XS.icmpNo X1.here hx rfl (hb hby d11_9) rfl (teq (rfl : y = y)).2 wk) ?_
  show Fin1 p e below s (rmEqQ Z r y h0 n0) ({ frames := 1, cells := 0, slots := 0, locals := 12 } : Room).cells ({ frames := 1, cells := 0, slots := 0, locals := 12 } : Room).slots (T1.setTop (mkF m 12 #[.val (.ref r), .val (.int y)] []))
  refine own_st (fun wt wk => XS.iconst X1.here hx rfl (hb hby d11_12) (XS.goto X1.here hx rfl (pc0 := 13) (pc' := 17) rfl (hb hby d11_13) (by decide) (by decide) wk)) ?_
  show Fin1 p e below s (rmEqQ Z r y h0 n0) ({ frames := 1, cells := 0, slots := 0, locals := 12 } : Room).cells ({ frames := 1, cells := 0, slots := 0, locals := 12 } : Room).slots (T1.setTop (mkF m 17 #[.val (.ref r), .val (.int y)] [(.int (1 : Int32))]))
  exact own_retZ X1 hx hlk hret (hb hby d11_17) (z := (1 : Int32)) (by decide) (by rw [e1]; exact ⟨rfl, N1, rfl⟩) (by decide) (by decide)
theorem own_rem (y n d : Int) (hn : n = d) (h0 : 0 ≤ y) (hd : 0 < d) : 0 ≤ y % n ∧ y % n < d := by subst hn; exact ⟨Int.emod_nonneg _ (by omega), Int.emod_lt_of_pos _ hd⟩
theorem own_nums (x : Int32) (y : Int32) : ¬ ((1 : Int32) + (x &&& (3 : Int32))) = (0 : Int32) ∧ ∀ k, k = (y &&& (2147483647 : Int32)) % ((1 : Int32) + (x &&& (3 : Int32))) → (((1 : Int32) + (x &&& (3 : Int32))) = 1 ∧ k = 0) ∨ (((1 : Int32) + (x &&& (3 : Int32))) = 2 ∧ (k = 0 ∨ k = 1)) ∨ (((1 : Int32) + (x &&& (3 : Int32))) = 3 ∧ (k = 0 ∨ k = 1 ∨ k = 2)) ∨ (((1 : Int32) + (x &&& (3 : Int32))) = 4 ∧ (k = 0 ∨ k = 1 ∨ k = 2 ∨ k = 3)) := by
  have q := c_and x (3 : Int32) (by decide)
  have e3 : (3 : Int32).toInt = 3 := rfl
  have hm : (x &&& (3 : Int32)) = 0 ∨ (x &&& (3 : Int32)) = 1 ∨ (x &&& (3 : Int32)) = 2 ∨ (x &&& (3 : Int32)) = 3 := by
    generalize (x &&& (3 : Int32)) = z at q ⊢
    have qz : z.toInt = 0 ∨ z.toInt = 1 ∨ z.toInt = 2 ∨ z.toInt = 3 := by omega
    rcases qz with q | q | q | q
    · exact Or.inl (Int32.toInt_inj.mp q)
    · exact Or.inr (Or.inl (Int32.toInt_inj.mp q))
    · exact Or.inr (Or.inr (Or.inl (Int32.toInt_inj.mp q)))
    · exact Or.inr (Or.inr (Or.inr (Int32.toInt_inj.mp q)))
  have q2 := (c_and y (2147483647 : Int32) (by decide)).1
  generalize (y &&& (2147483647 : Int32)) = w at q2 ⊢
  rcases hm with e | e | e | e <;> rw [e] <;> refine ⟨by decide, fun k hk => ?_⟩ <;> subst hk
  · have t := (c_irem w ((1 : Int32) + 0) 1 rfl).1 q2
    exact Or.inl ⟨by decide, Int32.toInt_inj.mp (t.trans (by show w.toInt % 1 = 0; omega))⟩
  · have t := (c_irem w ((1 : Int32) + 1) 2 rfl).1 q2
    have u : w.toInt % 2 = 0 ∨ w.toInt % 2 = 1 := by omega
    exact Or.inr (Or.inl ⟨by decide, u.imp (fun u => Int32.toInt_inj.mp (t.trans u)) (fun u => Int32.toInt_inj.mp (t.trans u))⟩)
  · have t := (c_irem w ((1 : Int32) + 2) 3 rfl).1 q2
    have u : w.toInt % 3 = 0 ∨ w.toInt % 3 = 1 ∨ w.toInt % 3 = 2 := by omega
    exact Or.inr (Or.inr (Or.inl ⟨by decide, u.imp (fun u => Int32.toInt_inj.mp (t.trans u)) (fun u => u.imp (fun u => Int32.toInt_inj.mp (t.trans u)) (fun u => Int32.toInt_inj.mp (t.trans u)))⟩))
  · have t := (c_irem w ((1 : Int32) + 3) 4 rfl).1 q2
    have u : w.toInt % 4 = 0 ∨ w.toInt % 4 = 1 ∨ w.toInt % 4 = 2 ∨ w.toInt % 4 = 3 := by omega
    exact Or.inr (Or.inr (Or.inr ⟨by decide, u.imp (fun u => Int32.toInt_inj.mp (t.trans u)) (fun u => u.imp (fun u => Int32.toInt_inj.mp (t.trans u)) (fun u => u.imp (fun u => Int32.toInt_inj.mp (t.trans u)) (fun u => Int32.toInt_inj.mp (t.trans u))))⟩))
theorem pd_13 : parseMethodDescriptor "(I)Ljava/lang/Integer;" = some ⟨[.int], some (.object "java/lang/Integer")⟩ := by decide +kernel
theorem pd_14 : parseMethodDescriptor "(ILjava/lang/Object;)V" = some ⟨[.int, (.object "java/lang/Object")], none⟩ := by decide +kernel
theorem pd_15 : parseMethodDescriptor "(ILjava/lang/Object;)Ljava/lang/Object;" = some ⟨[.int, (.object "java/lang/Object")], some (.object "java/lang/Object")⟩ := by decide +kernel
theorem pd_16 : parseMethodDescriptor "(Ljava/lang/Integer;I)Z" = some ⟨[(.object "java/lang/Integer"), .int], some .boolean⟩ := by decide +kernel
theorem pd_17 : parseMethodDescriptor "(I)Ljava/lang/Object;" = some ⟨[.int], some (.object "java/lang/Object")⟩ := by decide +kernel
def rm0Q (Z : State) (i0 : Int32) (i1 : Int32) (i2 : Int32) (i3 : Int32) (i4 : Int32) (i5 : Int32) (h0 : Heap) (n0 : Nat) (v : Option Value) (h : Heap) (L : List Loc) : Prop := v = some (.int (1 : Int32)) ∧ Fr n0 L
set_option maxRecDepth 65536 in
set_option maxHeartbeats 40000000 in
theorem rm0 (l : Launch) (Z : State) (a0 : Array Value) (hw : ∀ d ∈ tables_1, d.before a0 Z = true) (i0 : Int32) (i1 : Int32) (i2 : Int32) (i3 : Int32) (i4 : Int32) (i5 : Int32) (h0 : Heap) (n0 : Nat) (Z0 : n0 ≤ h0.size) (O : Old Z n0 h0) (hic : own_IC Z) :
    Ct l Z tables_1 x code maxLocals ret room_1 #[(.int i0), (.int i1), (.int i2), (.int i3), (.int i4), (.int i5)] h0 (rm0Q Z i0 i1 i2 i3 i4 i5 h0 n0) := by
  refine own_enter (plainFor_of_name pn_11) ?_
  intro p e s m below meth c T0 X0 hx hby hml hZ hown hnm hret hlk e0
  have hown : s.vm.findClass "com/example/listwright/listwright/LinkedStorageSetPinLaw" = some m.cls := hown
  have N0 := Fr.nil n0
  have K0 := Keep.refl h0 []
  refine own_st (fun wt wk => castTop (g' := mkF m 0 #[.val (.int i0), .val (.int i1), .val (.int i2), .val (.int i3), .val (.int i4), .val (.int i5), .unset, .unset, .unset, .unset, .unset, .unset, .unset] []) (by first | (simp [entryFrame, mkF, argsToLocals, Value.category, maxLocals]; done) | rfl) wk) ?_
  show Fin1 p e below s (rm0Q Z i0 i1 i2 i3 i4 i5 h0 n0) room_1.cells room_1.slots (T0.setTop (mkF m 0 #[.val (.int i0), .val (.int i1), .val (.int i2), .val (.int i3), .val (.int i4), .val (.int i5), .unset, .unset, .unset, .unset, .unset, .unset, .unset] []))
  refine own_st (fun wt wk => XS.iconst X0.here hx rfl (hb hby at_0) (XS.iload X0.here hx rfl (hb hby at_1) rfl (XS.iconst X0.here hx rfl (hb hby at_3) (XS.iand X0.here hx rfl (hb hby at_4) rfl (XS.iadd X0.here hx rfl (hb hby at_5) rfl wk))))) ?_
  show Fin1 p e below s (rm0Q Z i0 i1 i2 i3 i4 i5 h0 n0) room_1.cells room_1.slots (T0.setTop (mkF m 6 #[.val (.int i0), .val (.int i1), .val (.int i2), .val (.int i3), .val (.int i4), .val (.int i5), .unset, .unset, .unset, .unset, .unset, .unset, .unset] [(.int ((1 : Int32) + (i5 &&& (3 : Int32))))]))
  refine own_st (fun wt wk => XS.istore X0.here hx rfl (hb hby at_6) rfl (l' := #[.val (.int i0), .val (.int i1), .val (.int i2), .val (.int i3), .val (.int i4), .val (.int i5), .val (.int ((1 : Int32) + (i5 &&& (3 : Int32)))), .unset, .unset, .unset, .unset, .unset, .unset]) rfl (XS.iload X0.here hx rfl (hb hby at_8) rfl (XS.iconst X0.here hx rfl (hb hby at_10) (XS.iushr X0.here hx rfl (hb hby at_11) rfl wk)))) ?_
  show Fin1 p e below s (rm0Q Z i0 i1 i2 i3 i4 i5 h0 n0) room_1.cells room_1.slots (T0.setTop (mkF m 12 #[.val (.int i0), .val (.int i1), .val (.int i2), .val (.int i3), .val (.int i4), .val (.int i5), .val (.int ((1 : Int32) + (i5 &&& (3 : Int32)))), .unset, .unset, .unset, .unset, .unset, .unset] [(.int ((i5.toUInt32 >>> ((2 : Int32) &&& 31).toUInt32).toInt32))]))
  refine own_st (X0.ldcInt hx hown (mvT hZ (hw _ (List.mem_of_getElem? (i := 0) rfl))) (g := (mkF m 12 #[.val (.int i0), .val (.int i1), .val (.int i2), .val (.int i3), .val (.int i4), .val (.int i5), .val (.int ((1 : Int32) + (i5 &&& (3 : Int32)))), .unset, .unset, .unset, .unset, .unset, .unset] [(.int ((i5.toUInt32 >>> ((2 : Int32) &&& 31).toUInt32).toInt32))])) rfl (hb hby at_12)) ?_
  show Fin1 p e below s (rm0Q Z i0 i1 i2 i3 i4 i5 h0 n0) room_1.cells room_1.slots (T0.setTop (mkF m 14 #[.val (.int i0), .val (.int i1), .val (.int i2), .val (.int i3), .val (.int i4), .val (.int i5), .val (.int ((1 : Int32) + (i5 &&& (3 : Int32)))), .unset, .unset, .unset, .unset, .unset, .unset] [(.int (2147483647 : Int32)), (.int ((i5.toUInt32 >>> ((2 : Int32) &&& 31).toUInt32).toInt32))]))
  refine own_st (fun wt wk => XS.iand X0.here hx rfl (hb hby at_14) rfl (XS.iload X0.here hx rfl (hb hby at_15) rfl wk)) ?_
  show Fin1 p e below s (rm0Q Z i0 i1 i2 i3 i4 i5 h0 n0) room_1.cells room_1.slots (T0.setTop (mkF m 17 #[.val (.int i0), .val (.int i1), .val (.int i2), .val (.int i3), .val (.int i4), .val (.int i5), .val (.int ((1 : Int32) + (i5 &&& (3 : Int32)))), .unset, .unset, .unset, .unset, .unset, .unset] [(.int ((1 : Int32) + (i5 &&& (3 : Int32)))), (.int (((i5.toUInt32 >>> ((2 : Int32) &&& 31).toUInt32).toInt32) &&& (2147483647 : Int32)))]))
  refine own_st (fun wt wk => iremM X0 hx rfl (hb hby at_17) rfl (own_nums i5 0).1 wk) ?_
  show Fin1 p e below s (rm0Q Z i0 i1 i2 i3 i4 i5 h0 n0) room_1.cells room_1.slots (T0.setTop (mkF m 18 #[.val (.int i0), .val (.int i1), .val (.int i2), .val (.int i3), .val (.int i4), .val (.int i5), .val (.int ((1 : Int32) + (i5 &&& (3 : Int32)))), .unset, .unset, .unset, .unset, .unset, .unset] [(.int ((((i5.toUInt32 >>> ((2 : Int32) &&& 31).toUInt32).toInt32) &&& (2147483647 : Int32)) % ((1 : Int32) + (i5 &&& (3 : Int32)))))]))
  refine own_st (fun wt wk => XS.istore X0.here hx rfl (hb hby at_18) rfl (l' := #[.val (.int i0), .val (.int i1), .val (.int i2), .val (.int i3), .val (.int i4), .val (.int i5), .val (.int ((1 : Int32) + (i5 &&& (3 : Int32)))), .val (.int ((((i5.toUInt32 >>> ((2 : Int32) &&& 31).toUInt32).toInt32) &&& (2147483647 : Int32)) % ((1 : Int32) + (i5 &&& (3 : Int32))))), .unset, .unset, .unset, .unset, .unset]) rfl wk) ?_
  show Fin1 p e below s (rm0Q Z i0 i1 i2 i3 i4 i5 h0 n0) room_1.cells room_1.slots (T0.setTop (mkF m 20 #[.val (.int i0), .val (.int i1), .val (.int i2), .val (.int i3), .val (.int i4), .val (.int i5), .val (.int ((1 : Int32) + (i5 &&& (3 : Int32)))), .val (.int ((((i5.toUInt32 >>> ((2 : Int32) &&& 31).toUInt32).toInt32) &&& (2147483647 : Int32)) % ((1 : Int32) + (i5 &&& (3 : Int32))))), .unset, .unset, .unset, .unset, .unset] []))
  suffices K20 : ∀ (k6 : Int32) (k7 : Int32), ((k6 = 1 ∧ k7 = 0) ∨ (k6 = 2 ∧ (k7 = 0 ∨ k7 = 1)) ∨ (k6 = 3 ∧ (k7 = 0 ∨ k7 = 1 ∨ k7 = 2)) ∨ (k6 = 4 ∧ (k7 = 0 ∨ k7 = 1 ∨ k7 = 2 ∨ k7 = 3))) → Fin1 p e below s (rm0Q Z i0 i1 i2 i3 i4 i5 h0 n0) room_1.cells room_1.slots (T0.setTop (mkF m 20 #[.val (.int i0), .val (.int i1), .val (.int i2), .val (.int i3), .val (.int i4), .val (.int i5), .val (.int k6), .val (.int k7), .unset, .unset, .unset, .unset, .unset] [])) by
    exact K20 _ _ ((own_nums i5 _).2 _ rfl)
  intro k6 k7 hk
  refine own_st (fun wt wk => XS.iconst X0.here hx rfl (hb hby at_20) wk) ?_
  show Fin1 p e below s (rm0Q Z i0 i1 i2 i3 i4 i5 h0 n0) room_1.cells room_1.slots (T0.setTop (mkF m 21 #[.val (.int i0), .val (.int i1), .val (.int i2), .val (.int i3), .val (.int i4), .val (.int i5), .val (.int k6), .val (.int k7), .unset, .unset, .unset, .unset, .unset] [(.int (4 : Int32))]))
  obtain ⟨T1, h1, kc1, X1, e1, E1, A1, st1⟩ := newP X0 hx hZ (hw _ (List.mem_of_getElem? (i := 1) rfl)) e0 (g := (mkF m 21 #[.val (.int i0), .val (.int i1), .val (.int i2), .val (.int i3), .val (.int i4), .val (.int i5), .val (.int k6), .val (.int k7), .unset, .unset, .unset, .unset, .unset] [(.int (4 : Int32))])) rfl (hb hby at_21) rfl (by decide) (cap := 4) (by decide) (by decide) (by decide) (by decide)
  obtain ⟨ex, gz_ex⟩ : ∃ z, z = h0.size := ⟨_, rfl⟩
  rw [← gz_ex] at A1 st1
  have g_ex : n0 ≤ ex := Nat.le_trans Z0 (Nat.le_of_eq gz_ex.symm)
  have Z0 := Nat.le_trans Z0 E1.1
  have O := O.ext E1
  refine own_st st1 ?_
  have V_ex : Arv Z h1 ex kc1 .int (4 : Int32) [(.int (0 : Int32)), (.int (0 : Int32)), (.int (0 : Int32)), (.int (0 : Int32))] (.int (0 : Int32)) := (Arv.new A1 (by decide)).pad (pad_rep [] (.int (0 : Int32)) 4)
  show Fin1 p e below s (rm0Q Z i0 i1 i2 i3 i4 i5 h0 n0) room_1.cells room_1.slots (T1.setTop (mkF m 23 #[.val (.int i0), .val (.int i1), .val (.int i2), .val (.int i3), .val (.int i4), .val (.int i5), .val (.int k6), .val (.int k7), .unset, .unset, .unset, .unset, .unset] [(.ref ex)]))
  refine own_st (fun wt wk => XS.dup X1.here hx rfl (hb hby at_23) rfl rfl (XS.iconst X1.here hx rfl (hb hby at_24) (XS.iloadN X1.here hx rfl (hb hby at_25) rfl wk))) ?_
  show Fin1 p e below s (rm0Q Z i0 i1 i2 i3 i4 i5 h0 n0) room_1.cells room_1.slots (T1.setTop (mkF m 26 #[.val (.int i0), .val (.int i1), .val (.int i2), .val (.int i3), .val (.int i4), .val (.int i5), .val (.int k6), .val (.int k7), .unset, .unset, .unset, .unset, .unset] [(.int i0), (.int (0 : Int32)), (.ref ex), (.ref ex)]))
  obtain ⟨T2, h2, X2, e2, W2, U2, st2⟩ := own_stI (j := (0 : Int32)) X1 hx hZ e1 V_ex ⟨by decide, by decide⟩ 0 rfl (by simp) (g := (mkF m 26 #[.val (.int i0), .val (.int i1), .val (.int i2), .val (.int i3), .val (.int i4), .val (.int i5), .val (.int k6), .val (.int k7), .unset, .unset, .unset, .unset, .unset] [(.int i0), (.int (0 : Int32)), (.ref ex), (.ref ex)])) rfl rfl (hb hby at_26)
  have N2 := Fr.snoc X2 N0 g_ex
  have Z0 := Nat.le_trans Z0 (Nat.le_of_eq W2.size.symm)
  have O := O.wr W2 g_ex
  have V_ex : Arv Z h2 ex kc1 .int (4 : Int32) [(.int i0), (.int (0 : Int32)), (.int (0 : Int32)), (.int (0 : Int32))] (.int (0 : Int32)) := U2
  refine own_st st2 ?_
  show Fin1 p e below s (rm0Q Z i0 i1 i2 i3 i4 i5 h0 n0) room_1.cells room_1.slots (T2.setTop (mkF m 27 #[.val (.int i0), .val (.int i1), .val (.int i2), .val (.int i3), .val (.int i4), .val (.int i5), .val (.int k6), .val (.int k7), .unset, .unset, .unset, .unset, .unset] [(.ref ex)]))
  refine own_st (fun wt wk => XS.dup X2.here hx rfl (hb hby at_27) rfl rfl (XS.iconst X2.here hx rfl (hb hby at_28) (XS.iloadN X2.here hx rfl (hb hby at_29) rfl wk))) ?_
  show Fin1 p e below s (rm0Q Z i0 i1 i2 i3 i4 i5 h0 n0) room_1.cells room_1.slots (T2.setTop (mkF m 30 #[.val (.int i0), .val (.int i1), .val (.int i2), .val (.int i3), .val (.int i4), .val (.int i5), .val (.int k6), .val (.int k7), .unset, .unset, .unset, .unset, .unset] [(.int i1), (.int (1 : Int32)), (.ref ex), (.ref ex)]))
  obtain ⟨T3, h3, X3, e3, W3, U3, st3⟩ := own_stI (j := (1 : Int32)) X2 hx hZ e2 V_ex ⟨by decide, by decide⟩ 1 rfl (by simp) (g := (mkF m 30 #[.val (.int i0), .val (.int i1), .val (.int i2), .val (.int i3), .val (.int i4), .val (.int i5), .val (.int k6), .val (.int k7), .unset, .unset, .unset, .unset, .unset] [(.int i1), (.int (1 : Int32)), (.ref ex), (.ref ex)])) rfl rfl (hb hby at_30)
  have N3 := Fr.snoc X3 N2 g_ex
  have Z0 := Nat.le_trans Z0 (Nat.le_of_eq W3.size.symm)
  have O := O.wr W3 g_ex
  have V_ex : Arv Z h3 ex kc1 .int (4 : Int32) [(.int i0), (.int i1), (.int (0 : Int32)), (.int (0 : Int32))] (.int (0 : Int32)) := U3
  refine own_st st3 ?_
  show Fin1 p e below s (rm0Q Z i0 i1 i2 i3 i4 i5 h0 n0) room_1.cells room_1.slots (T3.setTop (mkF m 31 #[.val (.int i0), .val (.int i1), .val (.int i2), .val (.int i3), .val (.int i4), .val (.int i5), .val (.int k6), .val (.int k7), .unset, .unset, .unset, .unset, .unset] [(.ref ex)]))
  refine own_st (fun wt wk => XS.dup X3.here hx rfl (hb hby at_31) rfl rfl (XS.iconst X3.here hx rfl (hb hby at_32) (XS.iloadN X3.here hx rfl (hb hby at_33) rfl wk))) ?_
  show Fin1 p e below s (rm0Q Z i0 i1 i2 i3 i4 i5 h0 n0) room_1.cells room_1.slots (T3.setTop (mkF m 34 #[.val (.int i0), .val (.int i1), .val (.int i2), .val (.int i3), .val (.int i4), .val (.int i5), .val (.int k6), .val (.int k7), .unset, .unset, .unset, .unset, .unset] [(.int i2), (.int (2 : Int32)), (.ref ex), (.ref ex)]))
  obtain ⟨T4, h4, X4, e4, W4, U4, st4⟩ := own_stI (j := (2 : Int32)) X3 hx hZ e3 V_ex ⟨by decide, by decide⟩ 2 rfl (by simp) (g := (mkF m 34 #[.val (.int i0), .val (.int i1), .val (.int i2), .val (.int i3), .val (.int i4), .val (.int i5), .val (.int k6), .val (.int k7), .unset, .unset, .unset, .unset, .unset] [(.int i2), (.int (2 : Int32)), (.ref ex), (.ref ex)])) rfl rfl (hb hby at_34)
  have N4 := Fr.snoc X4 N3 g_ex
  have Z0 := Nat.le_trans Z0 (Nat.le_of_eq W4.size.symm)
  have O := O.wr W4 g_ex
  have V_ex : Arv Z h4 ex kc1 .int (4 : Int32) [(.int i0), (.int i1), (.int i2), (.int (0 : Int32))] (.int (0 : Int32)) := U4
  refine own_st st4 ?_
  show Fin1 p e below s (rm0Q Z i0 i1 i2 i3 i4 i5 h0 n0) room_1.cells room_1.slots (T4.setTop (mkF m 35 #[.val (.int i0), .val (.int i1), .val (.int i2), .val (.int i3), .val (.int i4), .val (.int i5), .val (.int k6), .val (.int k7), .unset, .unset, .unset, .unset, .unset] [(.ref ex)]))
  refine own_st (fun wt wk => XS.dup X4.here hx rfl (hb hby at_35) rfl rfl (XS.iconst X4.here hx rfl (hb hby at_36) (XS.iloadN X4.here hx rfl (hb hby at_37) rfl wk))) ?_
  show Fin1 p e below s (rm0Q Z i0 i1 i2 i3 i4 i5 h0 n0) room_1.cells room_1.slots (T4.setTop (mkF m 38 #[.val (.int i0), .val (.int i1), .val (.int i2), .val (.int i3), .val (.int i4), .val (.int i5), .val (.int k6), .val (.int k7), .unset, .unset, .unset, .unset, .unset] [(.int i3), (.int (3 : Int32)), (.ref ex), (.ref ex)]))
  obtain ⟨T5, h5, X5, e5, W5, U5, st5⟩ := own_stI (j := (3 : Int32)) X4 hx hZ e4 V_ex ⟨by decide, by decide⟩ 3 rfl (by simp) (g := (mkF m 38 #[.val (.int i0), .val (.int i1), .val (.int i2), .val (.int i3), .val (.int i4), .val (.int i5), .val (.int k6), .val (.int k7), .unset, .unset, .unset, .unset, .unset] [(.int i3), (.int (3 : Int32)), (.ref ex), (.ref ex)])) rfl rfl (hb hby at_38)
  have N5 := Fr.snoc X5 N4 g_ex
  have Z0 := Nat.le_trans Z0 (Nat.le_of_eq W5.size.symm)
  have O := O.wr W5 g_ex
  have V_ex : Arv Z h5 ex kc1 .int (4 : Int32) [(.int i0), (.int i1), (.int i2), (.int i3)] (.int (0 : Int32)) := U5
  refine own_st st5 ?_
  show Fin1 p e below s (rm0Q Z i0 i1 i2 i3 i4 i5 h0 n0) room_1.cells room_1.slots (T5.setTop (mkF m 39 #[.val (.int i0), .val (.int i1), .val (.int i2), .val (.int i3), .val (.int i4), .val (.int i5), .val (.int k6), .val (.int k7), .unset, .unset, .unset, .unset, .unset] [(.ref ex)]))
  refine own_st (fun wt wk => XS.astore X5.here hx rfl (hb hby at_39) rfl rfl (l' := #[.val (.int i0), .val (.int i1), .val (.int i2), .val (.int i3), .val (.int i4), .val (.int i5), .val (.int k6), .val (.int k7), .val (.ref ex), .unset, .unset, .unset, .unset]) rfl wk) ?_
  show Fin1 p e below s (rm0Q Z i0 i1 i2 i3 i4 i5 h0 n0) room_1.cells room_1.slots (T5.setTop (mkF m 41 #[.val (.int i0), .val (.int i1), .val (.int i2), .val (.int i3), .val (.int i4), .val (.int i5), .val (.int k6), .val (.int k7), .val (.ref ex), .unset, .unset, .unset, .unset] []))
  obtain ⟨T6, h6, X6, e6, E6, A6, D6, -, st6⟩ := newO X5 hx hZ hown (hw _ (List.mem_of_getElem? (i := 2) rfl)) (hw _ (List.mem_of_getElem? (i := 3) rfl)) (hw _ (List.mem_of_getElem? (i := 4) rfl)) e5 (g := (mkF m 41 #[.val (.int i0), .val (.int i1), .val (.int i2), .val (.int i3), .val (.int i4), .val (.int i5), .val (.int k6), .val (.int k7), .val (.ref ex), .unset, .unset, .unset, .unset] [])) rfl (hb hby at_41) (by decide) (by decide)
  obtain ⟨s1, gz_s1⟩ : ∃ z, z = h5.size := ⟨_, rfl⟩
  rw [← gz_s1] at A6 D6 st6
  have ne_ex_s1 : ex ≠ s1 := Nat.ne_of_lt (Nat.lt_of_lt_of_le V_ex.lt (Nat.le_of_eq gz_s1.symm))
  have g_s1 : n0 ≤ s1 := Nat.le_trans Z0 (Nat.le_of_eq gz_s1.symm)
  have Z0 := Nat.le_trans Z0 E6.1
  have O := O.ext E6
  have V_ex := V_ex.ext E6
  refine own_st st6 ?_
  have E_s1 := A6
  have F_head_s1 : Fld Z h6 s1 "com/example/listwright/listwright/LinkedStorage" "head" "Lcom/example/listwright/listwright/LinkedStorage$Node;" .null := D6 (Or.inl (hw _ (List.mem_of_getElem? (i := 33) rfl))) (ty := (.object "com/example/listwright/listwright/LinkedStorage$Node")) (by decide)
  have F_tail_s1 : Fld Z h6 s1 "com/example/listwright/listwright/LinkedStorage" "tail" "Lcom/example/listwright/listwright/LinkedStorage$Node;" .null := D6 (Or.inl (hw _ (List.mem_of_getElem? (i := 52) rfl))) (ty := (.object "com/example/listwright/listwright/LinkedStorage$Node")) (by decide)
  have F_size_s1 : Fld Z h6 s1 "com/example/listwright/listwright/LinkedStorage" "size" "I" (.int (0 : Int32)) := D6 (Or.inl (hw _ (List.mem_of_getElem? (i := 54) rfl))) (ty := .int) (by decide)
  show Fin1 p e below s (rm0Q Z i0 i1 i2 i3 i4 i5 h0 n0) room_1.cells room_1.slots (T6.setTop (mkF m 44 #[.val (.int i0), .val (.int i1), .val (.int i2), .val (.int i3), .val (.int i4), .val (.int i5), .val (.int k6), .val (.int k7), .val (.ref ex), .unset, .unset, .unset, .unset] [(.ref s1)]))
  refine own_st (fun wt wk => XS.dup X6.here hx rfl (hb hby at_44) rfl rfl wk) ?_
  show Fin1 p e below s (rm0Q Z i0 i1 i2 i3 i4 i5 h0 n0) room_1.cells room_1.slots (T6.setTop (mkF m 45 #[.val (.int i0), .val (.int i1), .val (.int i2), .val (.int i3), .val (.int i4), .val (.int i5), .val (.int k6), .val (.int k7), .val (.ref ex), .unset, .unset, .unset, .unset] [(.ref s1), (.ref s1)]))
  obtain ⟨v7, T7, h7, L7, X7, e7, hQ7, st7⟩ := own_special X6 hx hZ hown rfl (hw _ (List.mem_of_getElem? (i := 5) rfl)) (hw _ (List.mem_of_getElem? (i := 6) rfl)) (hw _ (List.mem_of_getElem? (i := 7) rfl)) (hw _ (List.mem_of_getElem? (i := 4) rfl)) (by decide) (a := s1) (rmC l Z a0 hw s1 h6 n0 Z0) e6 (g := (mkF m 45 #[.val (.int i0), .val (.int i1), .val (.int i2), .val (.int i3), .val (.int i4), .val (.int i5), .val (.int k6), .val (.int k7), .val (.ref ex), .unset, .unset, .unset, .unset] [(.ref s1), (.ref s1)])) rfl (by rw [hml]; rfl) (argsL := []) (rest := [(.ref s1)]) (lenOf pd_2 rfl) rfl (W := 1) (by show 2 * 0 + _ ≤ _; exact Nat.le_of_eq rfl) (hb hby at_45) (by decide) (by decide) (by decide) (by decide)
  obtain ⟨rfl, N7q, hh7⟩ := hQ7
  have N7 := Fr.app N5 N7q
  rw [hh7] at e7
  refine own_st st7 ?_
  show Fin1 p e below s (rm0Q Z i0 i1 i2 i3 i4 i5 h0 n0) room_1.cells room_1.slots (T7.setTop (mkF m 48 #[.val (.int i0), .val (.int i1), .val (.int i2), .val (.int i3), .val (.int i4), .val (.int i5), .val (.int k6), .val (.int k7), .val (.ref ex), .unset, .unset, .unset, .unset] [(.ref s1)]))
  refine own_st (fun wt wk => XS.astore X7.here hx rfl (hb hby at_48) rfl rfl (l' := #[.val (.int i0), .val (.int i1), .val (.int i2), .val (.int i3), .val (.int i4), .val (.int i5), .val (.int k6), .val (.int k7), .val (.ref ex), .val (.ref s1), .unset, .unset, .unset]) rfl (XS.aload X7.here hx rfl (hb hby at_50) rfl rfl (XS.iconst X7.here hx rfl (hb hby at_52) (XS.iloadN X7.here hx rfl (hb hby at_53) rfl wk)))) ?_
  show Fin1 p e below s (rm0Q Z i0 i1 i2 i3 i4 i5 h0 n0) room_1.cells room_1.slots (T7.setTop (mkF m 54 #[.val (.int i0), .val (.int i1), .val (.int i2), .val (.int i3), .val (.int i4), .val (.int i5), .val (.int k6), .val (.int k7), .val (.ref ex), .val (.ref s1), .unset, .unset, .unset] [(.int i0), (.int (0 : Int32)), (.ref s1)]))
  have Hs1 := F_head_s1
  have Ts1 := F_tail_s1
  have Ss1 := F_size_s1
  obtain ⟨v8, T8, h8, L8, X8, e8, hQ8, st8⟩ := own_static X7 hx hZ hown (hw _ (List.mem_of_getElem? (i := 16) rfl)) (hw _ (List.mem_of_getElem? (i := 17) rfl)) (hw _ (List.mem_of_getElem? (i := 18) rfl)) (hw _ (List.mem_of_getElem? (i := 19) rfl)) (by decide) (rmV l Z a0 hw i0 h6 n0 Z0 O hic) e7 (g := (mkF m 54 #[.val (.int i0), .val (.int i1), .val (.int i2), .val (.int i3), .val (.int i4), .val (.int i5), .val (.int k6), .val (.int k7), .val (.ref ex), .val (.ref s1), .unset, .unset, .unset] [(.int i0), (.int (0 : Int32)), (.ref s1)])) rfl (by rw [hml]; rfl) (argsL := [(.int i0)]) (rest := [(.int (0 : Int32)), (.ref s1)]) (lenOf pd_13 rfl) rfl (W := 2) (by show 2 * 0 + _ ≤ _; exact Nat.le_of_eq rfl) (hb hby at_54) (by decide) (by decide) (by decide) (by decide)
  obtain ⟨r0, rfl, N8q, K8, E_r0, V_r0⟩ := hQ8
  have N8 := Fr.app N7 N8q
  have Z0 := Nat.le_trans Z0 K8.1
  have O := O.keep K8 all0
  have V_ex := V_ex.keep K8 nin0
  have E_s1 := E_s1.keep K8
  have Hs1 := Hs1.keep K8 nin0
  have Ts1 := Ts1.keep K8 nin0
  have Ss1 := Ss1.keep K8 nin0
  refine own_st st8 ?_
  show Fin1 p e below s (rm0Q Z i0 i1 i2 i3 i4 i5 h0 n0) room_1.cells room_1.slots (T8.setTop (mkF m 57 #[.val (.int i0), .val (.int i1), .val (.int i2), .val (.int i3), .val (.int i4), .val (.int i5), .val (.int k6), .val (.int k7), .val (.ref ex), .val (.ref s1), .unset, .unset, .unset] [(.ref r0), (.int (0 : Int32)), (.ref s1)]))
  have ne_r0_ex : r0 ≠ ex := own_ne_arv E_r0 (hw _ (List.mem_of_getElem? (i := 89) rfl)) V_ex
  have ne_r0_s1 : r0 ≠ s1 := ne_exa E_r0 E_s1 (by decide)
  obtain ⟨v9, T9, h9, L9, X9, e9, hQ9, st9⟩ := own_virtual X8 hx hZ hown (hw _ (List.mem_of_getElem? (i := 23) rfl)) (hw _ (List.mem_of_getElem? (i := 24) rfl)) (hw _ (List.mem_of_getElem? (i := 26) rfl)) (hw _ (List.mem_of_getElem? (i := 25) rfl)) (hw _ (List.mem_of_getElem? (i := 27) rfl)) (hw _ (List.mem_of_getElem? (i := 4) rfl)) (by decide) (a := s1) E_s1 (rmI0 l Z a0 hw s1 r0 h8 n0 Z0 g_s1 E_s1 Hs1 Ts1 Ss1) e8 (g := (mkF m 57 #[.val (.int i0), .val (.int i1), .val (.int i2), .val (.int i3), .val (.int i4), .val (.int i5), .val (.int k6), .val (.int k7), .val (.ref ex), .val (.ref s1), .unset, .unset, .unset] [(.ref r0), (.int (0 : Int32)), (.ref s1)])) rfl (by rw [hml]; rfl) (argsL := [(.int (0 : Int32)), (.ref r0)]) (rest := []) (lenOf pd_14 rfl) rfl (W := 0) (by show 2 * 0 + _ ≤ _; exact Nat.le_of_eq rfl) (hb hby at_57) (by decide) (by decide) (by decide) (by decide)
  obtain ⟨rfl, N9q, q0, s_q0, K9, E_q0, Hs1, Ts1, Ss1, Eq0, Pq0, Nq0⟩ := hQ9
  have N9 := Fr.app N8 N9q
  have ne_ex_q0 : ex ≠ q0 := Nat.ne_of_lt (Nat.lt_of_lt_of_le V_ex.lt s_q0)
  have ne_s1_q0 : s1 ≠ q0 := Nat.ne_of_lt (Nat.lt_of_lt_of_le E_s1.lt s_q0)
  have ne_r0_q0 : r0 ≠ q0 := Nat.ne_of_lt (Nat.lt_of_lt_of_le E_r0.lt s_q0)
  have g_q0 : n0 ≤ q0 := Nat.le_trans Z0 s_q0
  have Z0 := Nat.le_trans Z0 K9.1
  have O := O.keep K9 (allS (P := fun x => n0 ≤ x) g_s1 all0)
  have V_ex := V_ex.keep K9 (ninS ne_ex_s1 nin0)
  have E_s1 := E_s1.keep K9
  have E_r0 := E_r0.keep K9
  have V_r0 := V_r0.keep K9 (ninS ne_r0_s1 nin0)
  refine own_st st9 ?_
  show Fin1 p e below s (rm0Q Z i0 i1 i2 i3 i4 i5 h0 n0) room_1.cells room_1.slots (T9.setTop (mkF m 60 #[.val (.int i0), .val (.int i1), .val (.int i2), .val (.int i3), .val (.int i4), .val (.int i5), .val (.int k6), .val (.int k7), .val (.ref ex), .val (.ref s1), .unset, .unset, .unset] []))
  refine own_st (fun wt wk => XS.iload X9.here hx rfl (hb hby at_60) rfl (XS.iconst X9.here hx rfl (hb hby at_62) wk)) ?_
  show Fin1 p e below s (rm0Q Z i0 i1 i2 i3 i4 i5 h0 n0) room_1.cells room_1.slots (T9.setTop (mkF m 63 #[.val (.int i0), .val (.int i1), .val (.int i2), .val (.int i3), .val (.int i4), .val (.int i5), .val (.int k6), .val (.int k7), .val (.ref ex), .val (.ref s1), .unset, .unset, .unset] [(.int (1 : Int32)), (.int k6)]))
  rcases hk with ⟨rfl, rfl⟩ | ⟨rfl, hk⟩ | ⟨rfl, hk⟩ | ⟨rfl, hk⟩
  · show Fin1 p e below s (rm0Q Z i0 i1 i2 i3 i4 i5 h0 n0) room_1.cells room_1.slots (T9.setTop (mkF m 63 #[.val (.int i0), .val (.int i1), .val (.int i2), .val (.int i3), .val (.int i4), .val (.int i5), .val (.int (1 : Int32)), .val (.int (0 : Int32)), .val (.ref ex), .val (.ref s1), .unset, .unset, .unset] [(.int (1 : Int32)), (.int (1 : Int32))]))
    refine own_st (fun wt wk => XS.icmpYes X9.here hx rfl (pc0 := 63) (pc' := 76) rfl (hb hby at_63) rfl (flt (by decide)).2.2.2 (by decide) (by decide) wk) ?_
    show Fin1 p e below s (rm0Q Z i0 i1 i2 i3 i4 i5 h0 n0) room_1.cells room_1.slots (T9.setTop (mkF m 76 #[.val (.int i0), .val (.int i1), .val (.int i2), .val (.int i3), .val (.int i4), .val (.int i5), .val (.int (1 : Int32)), .val (.int (0 : Int32)), .val (.ref ex), .val (.ref s1), .unset, .unset, .unset] []))
    refine own_st (fun wt wk => XS.iload X9.here hx rfl (hb hby at_76) rfl (XS.iconst X9.here hx rfl (hb hby at_78) wk)) ?_
    show Fin1 p e below s (rm0Q Z i0 i1 i2 i3 i4 i5 h0 n0) room_1.cells room_1.slots (T9.setTop (mkF m 79 #[.val (.int i0), .val (.int i1), .val (.int i2), .val (.int i3), .val (.int i4), .val (.int i5), .val (.int (1 : Int32)), .val (.int (0 : Int32)), .val (.ref ex), .val (.ref s1), .unset, .unset, .unset] [(.int (2 : Int32)), (.int (1 : Int32))]))
    refine own_st (fun wt wk => XS.icmpYes X9.here hx rfl (pc0 := 79) (pc' := 92) rfl (hb hby at_79) rfl (flt (by decide)).2.2.2 (by decide) (by decide) wk) ?_
    show Fin1 p e below s (rm0Q Z i0 i1 i2 i3 i4 i5 h0 n0) room_1.cells room_1.slots (T9.setTop (mkF m 92 #[.val (.int i0), .val (.int i1), .val (.int i2), .val (.int i3), .val (.int i4), .val (.int i5), .val (.int (1 : Int32)), .val (.int (0 : Int32)), .val (.ref ex), .val (.ref s1), .unset, .unset, .unset] []))
    refine own_st (fun wt wk => XS.iload X9.here hx rfl (hb hby at_92) rfl (XS.iconst X9.here hx rfl (hb hby at_94) wk)) ?_
    show Fin1 p e below s (rm0Q Z i0 i1 i2 i3 i4 i5 h0 n0) room_1.cells room_1.slots (T9.setTop (mkF m 95 #[.val (.int i0), .val (.int i1), .val (.int i2), .val (.int i3), .val (.int i4), .val (.int i5), .val (.int (1 : Int32)), .val (.int (0 : Int32)), .val (.ref ex), .val (.ref s1), .unset, .unset, .unset] [(.int (3 : Int32)), (.int (1 : Int32))]))
    refine own_st (fun wt wk => XS.icmpYes X9.here hx rfl (pc0 := 95) (pc' := 108) rfl (hb hby at_95) rfl (flt (by decide)).2.2.2 (by decide) (by decide) wk) ?_
    show Fin1 p e below s (rm0Q Z i0 i1 i2 i3 i4 i5 h0 n0) room_1.cells room_1.slots (T9.setTop (mkF m 108 #[.val (.int i0), .val (.int i1), .val (.int i2), .val (.int i3), .val (.int i4), .val (.int i5), .val (.int (1 : Int32)), .val (.int (0 : Int32)), .val (.ref ex), .val (.ref s1), .unset, .unset, .unset] []))
    refine own_st (fun wt wk => XS.aload X9.here hx rfl (hb hby at_108) rfl rfl (XS.iload X9.here hx rfl (hb hby at_110) rfl wk)) ?_
    show Fin1 p e below s (rm0Q Z i0 i1 i2 i3 i4 i5 h0 n0) room_1.cells room_1.slots (T9.setTop (mkF m 112 #[.val (.int i0), .val (.int i1), .val (.int i2), .val (.int i3), .val (.int i4), .val (.int i5), .val (.int (1 : Int32)), .val (.int (0 : Int32)), .val (.ref ex), .val (.ref s1), .unset, .unset, .unset] [(.int (0 : Int32)), (.ref ex)]))
    refine own_st (own_ld (j := (0 : Int32)) (v := (.int i0)) X9 hx hZ e9 V_ex ⟨by decide, by decide⟩ rfl (g := (mkF m 112 #[.val (.int i0), .val (.int i1), .val (.int i2), .val (.int i3), .val (.int i4), .val (.int i5), .val (.int (1 : Int32)), .val (.int (0 : Int32)), .val (.ref ex), .val (.ref s1), .unset, .unset, .unset] [(.int (0 : Int32)), (.ref ex)])) rfl rfl (Or.inl ⟨rfl, rfl⟩) (hb hby at_112)) ?_
    show Fin1 p e below s (rm0Q Z i0 i1 i2 i3 i4 i5 h0 n0) room_1.cells room_1.slots (T9.setTop (mkF m 113 #[.val (.int i0), .val (.int i1), .val (.int i2), .val (.int i3), .val (.int i4), .val (.int i5), .val (.int (1 : Int32)), .val (.int (0 : Int32)), .val (.ref ex), .val (.ref s1), .unset, .unset, .unset] [(.int i0)]))
    refine own_st (fun wt wk => XS.istore X9.here hx rfl (hb hby at_113) rfl (l' := #[.val (.int i0), .val (.int i1), .val (.int i2), .val (.int i3), .val (.int i4), .val (.int i5), .val (.int (1 : Int32)), .val (.int (0 : Int32)), .val (.ref ex), .val (.ref s1), .val (.int i0), .unset, .unset]) rfl (XS.aload X9.here hx rfl (hb hby at_115) rfl rfl (XS.iload X9.here hx rfl (hb hby at_117) rfl (XS.iload X9.here hx rfl (hb hby at_119) rfl wk)))) ?_
    show Fin1 p e below s (rm0Q Z i0 i1 i2 i3 i4 i5 h0 n0) room_1.cells room_1.slots (T9.setTop (mkF m 121 #[.val (.int i0), .val (.int i1), .val (.int i2), .val (.int i3), .val (.int i4), .val (.int i5), .val (.int (1 : Int32)), .val (.int (0 : Int32)), .val (.ref ex), .val (.ref s1), .val (.int i0), .unset, .unset] [(.int i4), (.int (0 : Int32)), (.ref ex)]))
    obtain ⟨T10, h10, X10, e10, W10, U10, st10⟩ := own_stI (j := (0 : Int32)) X9 hx hZ e9 V_ex ⟨by decide, by decide⟩ 0 rfl (by simp) (g := (mkF m 121 #[.val (.int i0), .val (.int i1), .val (.int i2), .val (.int i3), .val (.int i4), .val (.int i5), .val (.int (1 : Int32)), .val (.int (0 : Int32)), .val (.ref ex), .val (.ref s1), .val (.int i0), .unset, .unset] [(.int i4), (.int (0 : Int32)), (.ref ex)])) rfl rfl (hb hby at_121)
    have N10 := Fr.snoc X10 N9 g_ex
    have Z0 := Nat.le_trans Z0 (Nat.le_of_eq W10.size.symm)
    have O := O.wr W10 g_ex
    have E_s1 := E_s1.wr W10
    have E_r0 := E_r0.wr W10
    have V_r0 := V_r0.other W10 (Or.inl ne_r0_ex)
    have E_q0 := E_q0.wr W10
    have Hs1 := Hs1.other W10 (Or.inl (Ne.symm ne_ex_s1))
    have Ts1 := Ts1.other W10 (Or.inl (Ne.symm ne_ex_s1))
    have Ss1 := Ss1.other W10 (Or.inl (Ne.symm ne_ex_s1))
    have Eq0 := Eq0.other W10 (Or.inl (Ne.symm ne_ex_q0))
    have Pq0 := Pq0.other W10 (Or.inl (Ne.symm ne_ex_q0))
    have Nq0 := Nq0.other W10 (Or.inl (Ne.symm ne_ex_q0))
    have V_ex : Arv Z h10 ex kc1 .int (4 : Int32) [(.int i4), (.int i1), (.int i2), (.int i3)] (.int (0 : Int32)) := U10
    refine own_st st10 ?_
    show Fin1 p e below s (rm0Q Z i0 i1 i2 i3 i4 i5 h0 n0) room_1.cells room_1.slots (T10.setTop (mkF m 122 #[.val (.int i0), .val (.int i1), .val (.int i2), .val (.int i3), .val (.int i4), .val (.int i5), .val (.int (1 : Int32)), .val (.int (0 : Int32)), .val (.ref ex), .val (.ref s1), .val (.int i0), .unset, .unset] []))
    refine own_st (fun wt wk => XS.aload X10.here hx rfl (hb hby at_122) rfl rfl (XS.iload X10.here hx rfl (hb hby at_124) rfl (XS.iload X10.here hx rfl (hb hby at_126) rfl wk))) ?_
    show Fin1 p e below s (rm0Q Z i0 i1 i2 i3 i4 i5 h0 n0) room_1.cells room_1.slots (T10.setTop (mkF m 128 #[.val (.int i0), .val (.int i1), .val (.int i2), .val (.int i3), .val (.int i4), .val (.int i5), .val (.int (1 : Int32)), .val (.int (0 : Int32)), .val (.ref ex), .val (.ref s1), .val (.int i0), .unset, .unset] [(.int i4), (.int (0 : Int32)), (.ref s1)]))
    obtain ⟨v11, T11, h11, L11, X11, e11, hQ11, st11⟩ := own_static X10 hx hZ hown (hw _ (List.mem_of_getElem? (i := 16) rfl)) (hw _ (List.mem_of_getElem? (i := 17) rfl)) (hw _ (List.mem_of_getElem? (i := 18) rfl)) (hw _ (List.mem_of_getElem? (i := 19) rfl)) (by decide) (rmV l Z a0 hw i4 h10 n0 Z0 O hic) e10 (g := (mkF m 128 #[.val (.int i0), .val (.int i1), .val (.int i2), .val (.int i3), .val (.int i4), .val (.int i5), .val (.int (1 : Int32)), .val (.int (0 : Int32)), .val (.ref ex), .val (.ref s1), .val (.int i0), .unset, .unset] [(.int i4), (.int (0 : Int32)), (.ref s1)])) rfl (by rw [hml]; rfl) (argsL := [(.int i4)]) (rest := [(.int (0 : Int32)), (.ref s1)]) (lenOf pd_13 rfl) rfl (W := 2) (by show 2 * 0 + _ ≤ _; exact Nat.le_of_eq rfl) (hb hby at_128) (by decide) (by decide) (by decide) (by decide)
    obtain ⟨re, rfl, N11q, K11, E_re, V_re⟩ := hQ11
    have N11 := Fr.app N10 N11q
    have Z0 := Nat.le_trans Z0 K11.1
    have O := O.keep K11 all0
    have V_ex := V_ex.keep K11 nin0
    have E_s1 := E_s1.keep K11
    have E_r0 := E_r0.keep K11
    have V_r0 := V_r0.keep K11 nin0
    have E_q0 := E_q0.keep K11
    have Hs1 := Hs1.keep K11 nin0
    have Ts1 := Ts1.keep K11 nin0
    have Ss1 := Ss1.keep K11 nin0
    have Eq0 := Eq0.keep K11 nin0
    have Pq0 := Pq0.keep K11 nin0
    have Nq0 := Nq0.keep K11 nin0
    refine own_st st11 ?_
    show Fin1 p e below s (rm0Q Z i0 i1 i2 i3 i4 i5 h0 n0) room_1.cells room_1.slots (T11.setTop (mkF m 131 #[.val (.int i0), .val (.int i1), .val (.int i2), .val (.int i3), .val (.int i4), .val (.int i5), .val (.int (1 : Int32)), .val (.int (0 : Int32)), .val (.ref ex), .val (.ref s1), .val (.int i0), .unset, .unset] [(.ref re), (.int (0 : Int32)), (.ref s1)]))
    have ne_re_ex : re ≠ ex := own_ne_arv E_re (hw _ (List.mem_of_getElem? (i := 89) rfl)) V_ex
    have ne_re_s1 : re ≠ s1 := ne_exa E_re E_s1 (by decide)
    have ne_re_q0 : re ≠ q0 := ne_exa E_re E_q0 (by decide)
    obtain ⟨v12, T12, h12, L12, X12, e12, hQ12, st12⟩ := own_virtual X11 hx hZ hown (hw _ (List.mem_of_getElem? (i := 59) rfl)) (hw _ (List.mem_of_getElem? (i := 60) rfl)) (hw _ (List.mem_of_getElem? (i := 62) rfl)) (hw _ (List.mem_of_getElem? (i := 61) rfl)) (hw _ (List.mem_of_getElem? (i := 63) rfl)) (hw _ (List.mem_of_getElem? (i := 4) rfl)) (by decide) (a := s1) E_s1 (rmT10 l Z a0 hw s1 re q0 r0 .null .null h11 n0 Z0 g_q0 E_s1 E_q0 Ss1 Ts1 Eq0 Pq0 Nq0) e11 (g := (mkF m 131 #[.val (.int i0), .val (.int i1), .val (.int i2), .val (.int i3), .val (.int i4), .val (.int i5), .val (.int (1 : Int32)), .val (.int (0 : Int32)), .val (.ref ex), .val (.ref s1), .val (.int i0), .unset, .unset] [(.ref re), (.int (0 : Int32)), (.ref s1)])) rfl (by rw [hml]; rfl) (argsL := [(.int (0 : Int32)), (.ref re)]) (rest := []) (lenOf pd_15 rfl) rfl (W := 0) (by show 2 * 0 + _ ≤ _; exact Nat.le_of_eq rfl) (hb hby at_131) (by decide) (by decide) (by decide) (by decide)
    obtain ⟨rfl, N12q, K12, Eq0, Pq0, Nq0⟩ := hQ12
    have N12 := Fr.app N11 N12q
    have Z0 := Nat.le_trans Z0 K12.1
    have O := O.keep K12 (allS (P := fun x => n0 ≤ x) g_q0 all0)
    have V_ex := V_ex.keep K12 (ninS ne_ex_q0 nin0)
    have E_s1 := E_s1.keep K12
    have E_r0 := E_r0.keep K12
    have V_r0 := V_r0.keep K12 (ninS ne_r0_q0 nin0)
    have E_q0 := E_q0.keep K12
    have Hs1 := Hs1.keep K12 (ninS ne_s1_q0 nin0)
    have Ts1 := Ts1.keep K12 (ninS ne_s1_q0 nin0)
    have Ss1 := Ss1.keep K12 (ninS ne_s1_q0 nin0)
    have E_re := E_re.keep K12
    have V_re := V_re.keep K12 (ninS ne_re_q0 nin0)
    refine own_st st12 ?_
    show Fin1 p e below s (rm0Q Z i0 i1 i2 i3 i4 i5 h0 n0) room_1.cells room_1.slots (T12.setTop (mkF m 134 #[.val (.int i0), .val (.int i1), .val (.int i2), .val (.int i3), .val (.int i4), .val (.int i5), .val (.int (1 : Int32)), .val (.int (0 : Int32)), .val (.ref ex), .val (.ref s1), .val (.int i0), .unset, .unset] [(.ref r0)]))
    obtain ⟨T13, X13, e13, st13⟩ := castY X12 hx hZ hown (hw _ (List.mem_of_getElem? (i := 65) rfl)) e12 (Ins.self E_r0) (g := (mkF m 134 #[.val (.int i0), .val (.int i1), .val (.int i2), .val (.int i3), .val (.int i4), .val (.int i5), .val (.int (1 : Int32)), .val (.int (0 : Int32)), .val (.ref ex), .val (.ref s1), .val (.int i0), .unset, .unset] [(.ref r0)])) rfl rfl (hb hby at_134)
    refine own_st st13 ?_
    show Fin1 p e below s (rm0Q Z i0 i1 i2 i3 i4 i5 h0 n0) room_1.cells room_1.slots (T13.setTop (mkF m 137 #[.val (.int i0), .val (.int i1), .val (.int i2), .val (.int i3), .val (.int i4), .val (.int i5), .val (.int (1 : Int32)), .val (.int (0 : Int32)), .val (.ref ex), .val (.ref s1), .val (.int i0), .unset, .unset] [(.ref r0)]))
    refine own_st (fun wt wk => XS.astore X13.here hx rfl (hb hby at_137) rfl rfl (l' := #[.val (.int i0), .val (.int i1), .val (.int i2), .val (.int i3), .val (.int i4), .val (.int i5), .val (.int (1 : Int32)), .val (.int (0 : Int32)), .val (.ref ex), .val (.ref s1), .val (.int i0), .val (.ref r0), .unset]) rfl (XS.aload X13.here hx rfl (hb hby at_139) rfl rfl (XS.iload X13.here hx rfl (hb hby at_141) rfl wk))) ?_
    show Fin1 p e below s (rm0Q Z i0 i1 i2 i3 i4 i5 h0 n0) room_1.cells room_1.slots (T13.setTop (mkF m 143 #[.val (.int i0), .val (.int i1), .val (.int i2), .val (.int i3), .val (.int i4), .val (.int i5), .val (.int (1 : Int32)), .val (.int (0 : Int32)), .val (.ref ex), .val (.ref s1), .val (.int i0), .val (.ref r0), .unset] [(.int i0), (.ref r0)]))
    obtain ⟨v14, T14, h14, L14, X14, e14, hQ14, st14⟩ := own_static X13 hx hZ hown (hw _ (List.mem_of_getElem? (i := 67) rfl)) (hw _ (List.mem_of_getElem? (i := 68) rfl)) (hw _ (List.mem_of_getElem? (i := 69) rfl)) (hw _ (List.mem_of_getElem? (i := 70) rfl)) (by decide) (rmEq l Z a0 hw r0 i0 h12 n0 Z0 E_r0 V_r0) e13 (g := (mkF m 143 #[.val (.int i0), .val (.int i1), .val (.int i2), .val (.int i3), .val (.int i4), .val (.int i5), .val (.int (1 : Int32)), .val (.int (0 : Int32)), .val (.ref ex), .val (.ref s1), .val (.int i0), .val (.ref r0), .unset] [(.int i0), (.ref r0)])) rfl (by rw [hml]; rfl) (argsL := [(.ref r0), (.int i0)]) (rest := []) (lenOf pd_16 rfl) rfl (W := 0) (by show 2 * 0 + _ ≤ _; exact Nat.le_of_eq rfl) (hb hby at_143) (by decide) (by decide) (by decide) (by decide)
    obtain ⟨rfl, N14q, hh14⟩ := hQ14
    have N14 := Fr.app N12 N14q
    rw [hh14] at e14
    refine own_st st14 ?_
    show Fin1 p e below s (rm0Q Z i0 i1 i2 i3 i4 i5 h0 n0) room_1.cells room_1.slots (T14.setTop (mkF m 146 #[.val (.int i0), .val (.int i1), .val (.int i2), .val (.int i3), .val (.int i4), .val (.int i5), .val (.int (1 : Int32)), .val (.int (0 : Int32)), .val (.ref ex), .val (.ref s1), .val (.int i0), .val (.ref r0), .unset] [(.int (1 : Int32))]))
    refine own_st (fun wt wk => XS.ifNo X14.here hx rfl (hb hby at_146) rfl ((if0 _ _).trans (feq (by decide)).1) wk) ?_
    show Fin1 p e below s (rm0Q Z i0 i1 i2 i3 i4 i5 h0 n0) room_1.cells room_1.slots (T14.setTop (mkF m 149 #[.val (.int i0), .val (.int i1), .val (.int i2), .val (.int i3), .val (.int i4), .val (.int i5), .val (.int (1 : Int32)), .val (.int (0 : Int32)), .val (.ref ex), .val (.ref s1), .val (.int i0), .val (.ref r0), .unset] []))
    refine own_st (fun wt wk => XS.aload X14.here hx rfl (hb hby at_149) rfl rfl wk) ?_
    show Fin1 p e below s (rm0Q Z i0 i1 i2 i3 i4 i5 h0 n0) room_1.cells room_1.slots (T14.setTop (mkF m 151 #[.val (.int i0), .val (.int i1), .val (.int i2), .val (.int i3), .val (.int i4), .val (.int i5), .val (.int (1 : Int32)), .val (.int (0 : Int32)), .val (.ref ex), .val (.ref s1), .val (.int i0), .val (.ref r0), .unset] [(.ref s1)]))
    obtain ⟨v15, T15, h15, L15, X15, e15, hQ15, st15⟩ := own_virtual X14 hx hZ hown (hw _ (List.mem_of_getElem? (i := 78) rfl)) (hw _ (List.mem_of_getElem? (i := 79) rfl)) (hw _ (List.mem_of_getElem? (i := 81) rfl)) (hw _ (List.mem_of_getElem? (i := 80) rfl)) (hw _ (List.mem_of_getElem? (i := 82) rfl)) (hw _ (List.mem_of_getElem? (i := 4) rfl)) (by decide) (a := s1) E_s1 (rmZ l Z a0 hw s1 (1 : Int32) h12 n0 Z0 Ss1) e14 (g := (mkF m 151 #[.val (.int i0), .val (.int i1), .val (.int i2), .val (.int i3), .val (.int i4), .val (.int i5), .val (.int (1 : Int32)), .val (.int (0 : Int32)), .val (.ref ex), .val (.ref s1), .val (.int i0), .val (.ref r0), .unset] [(.ref s1)])) rfl (by rw [hml]; rfl) (argsL := []) (rest := []) (lenOf pd_12 rfl) rfl (W := 0) (by show 2 * 0 + _ ≤ _; exact Nat.le_of_eq rfl) (hb hby at_151) (by decide) (by decide) (by decide) (by decide)
    obtain ⟨rfl, N15q, hh15⟩ := hQ15
    have N15 := Fr.app N14 N15q
    rw [hh15] at e15
    refine own_st st15 ?_
    show Fin1 p e below s (rm0Q Z i0 i1 i2 i3 i4 i5 h0 n0) room_1.cells room_1.slots (T15.setTop (mkF m 154 #[.val (.int i0), .val (.int i1), .val (.int i2), .val (.int i3), .val (.int i4), .val (.int i5), .val (.int (1 : Int32)), .val (.int (0 : Int32)), .val (.ref ex), .val (.ref s1), .val (.int i0), .val (.ref r0), .unset] [(.int (1 : Int32))]))
    refine own_st (fun wt wk => XS.iload X15.here hx rfl (hb hby at_154) rfl wk) ?_
    show Fin1 p e below s (rm0Q Z i0 i1 i2 i3 i4 i5 h0 n0) room_1.cells room_1.slots (T15.setTop (mkF m 156 #[.val (.int i0), .val (.int i1), .val (.int i2), .val (.int i3), .val (.int i4), .val (.int i5), .val (.int (1 : Int32)), .val (.int (0 : Int32)), .val (.ref ex), .val (.ref s1), .val (.int i0), .val (.ref r0), .unset] [(.int (1 : Int32)), (.int (1 : Int32))]))
    refine own_st (fun wt wk => XS.icmpNo X15.here hx rfl (hb hby at_156) rfl (teq (by decide)).2 wk) ?_
    show Fin1 p e below s (rm0Q Z i0 i1 i2 i3 i4 i5 h0 n0) room_1.cells room_1.slots (T15.setTop (mkF m 159 #[.val (.int i0), .val (.int i1), .val (.int i2), .val (.int i3), .val (.int i4), .val (.int i5), .val (.int (1 : Int32)), .val (.int (0 : Int32)), .val (.ref ex), .val (.ref s1), .val (.int i0), .val (.ref r0), .unset] []))
    refine own_st (fun wt wk => XS.iconst X15.here hx rfl (hb hby at_159) (XS.goto X15.here hx rfl (pc0 := 160) (pc' := 164) rfl (hb hby at_160) (by decide) (by decide) (XS.istore X15.here hx rfl (hb hby at_164) rfl (l' := #[.val (.int i0), .val (.int i1), .val (.int i2), .val (.int i3), .val (.int i4), .val (.int i5), .val (.int (1 : Int32)), .val (.int (0 : Int32)), .val (.ref ex), .val (.ref s1), .val (.int i0), .val (.ref r0), .val (.int (1 : Int32))]) rfl (XS.iload X15.here hx rfl (hb hby at_166) rfl wk)))) ?_
    show Fin1 p e below s (rm0Q Z i0 i1 i2 i3 i4 i5 h0 n0) room_1.cells room_1.slots (T15.setTop (mkF m 168 #[.val (.int i0), .val (.int i1), .val (.int i2), .val (.int i3), .val (.int i4), .val (.int i5), .val (.int (1 : Int32)), .val (.int (0 : Int32)), .val (.ref ex), .val (.ref s1), .val (.int i0), .val (.ref r0), .val (.int (1 : Int32))] [(.int (1 : Int32))]))
    refine own_st (fun wt wk => XS.ifNo X15.here hx rfl (hb hby at_168) rfl ((if0 _ _).trans (feq (by decide)).1) wk) ?_
    show Fin1 p e below s (rm0Q Z i0 i1 i2 i3 i4 i5 h0 n0) room_1.cells room_1.slots (T15.setTop (mkF m 171 #[.val (.int i0), .val (.int i1), .val (.int i2), .val (.int i3), .val (.int i4), .val (.int i5), .val (.int (1 : Int32)), .val (.int (0 : Int32)), .val (.ref ex), .val (.ref s1), .val (.int i0), .val (.ref r0), .val (.int (1 : Int32))] []))
    refine own_st (fun wt wk => XS.aload X15.here hx rfl (hb hby at_171) rfl rfl (XS.iconst X15.here hx rfl (hb hby at_173) wk)) ?_
    show Fin1 p e below s (rm0Q Z i0 i1 i2 i3 i4 i5 h0 n0) room_1.cells room_1.slots (T15.setTop (mkF m 174 #[.val (.int i0), .val (.int i1), .val (.int i2), .val (.int i3), .val (.int i4), .val (.int i5), .val (.int (1 : Int32)), .val (.int (0 : Int32)), .val (.ref ex), .val (.ref s1), .val (.int i0), .val (.ref r0), .val (.int (1 : Int32))] [(.int (0 : Int32)), (.ref s1)]))
    obtain ⟨v16, T16, h16, L16, X16, e16, hQ16, st16⟩ := own_virtual X15 hx hZ hown (hw _ (List.mem_of_getElem? (i := 83) rfl)) (hw _ (List.mem_of_getElem? (i := 84) rfl)) (hw _ (List.mem_of_getElem? (i := 86) rfl)) (hw _ (List.mem_of_getElem? (i := 85) rfl)) (hw _ (List.mem_of_getElem? (i := 87) rfl)) (hw _ (List.mem_of_getElem? (i := 4) rfl)) (by decide) (a := s1) E_s1 (rmG10 l Z a0 hw s1 q0 re h12 n0 Z0 E_s1 Ss1 Ts1 Eq0) e15 (g := (mkF m 174 #[.val (.int i0), .val (.int i1), .val (.int i2), .val (.int i3), .val (.int i4), .val (.int i5), .val (.int (1 : Int32)), .val (.int (0 : Int32)), .val (.ref ex), .val (.ref s1), .val (.int i0), .val (.ref r0), .val (.int (1 : Int32))] [(.int (0 : Int32)), (.ref s1)])) rfl (by rw [hml]; rfl) (argsL := [(.int (0 : Int32))]) (rest := []) (lenOf pd_17 rfl) rfl (W := 0) (by show 2 * 0 + _ ≤ _; exact Nat.le_of_eq rfl) (hb hby at_174) (by decide) (by decide) (by decide) (by decide)
    obtain ⟨rfl, N16q, hh16⟩ := hQ16
    have N16 := Fr.app N15 N16q
    rw [hh16] at e16
    refine own_st st16 ?_
    show Fin1 p e below s (rm0Q Z i0 i1 i2 i3 i4 i5 h0 n0) room_1.cells room_1.slots (T16.setTop (mkF m 177 #[.val (.int i0), .val (.int i1), .val (.int i2), .val (.int i3), .val (.int i4), .val (.int i5), .val (.int (1 : Int32)), .val (.int (0 : Int32)), .val (.ref ex), .val (.ref s1), .val (.int i0), .val (.ref r0), .val (.int (1 : Int32))] [(.ref re)]))
    obtain ⟨T17, X17, e17, st17⟩ := castY X16 hx hZ hown (hw _ (List.mem_of_getElem? (i := 65) rfl)) e16 (Ins.self E_re) (g := (mkF m 177 #[.val (.int i0), .val (.int i1), .val (.int i2), .val (.int i3), .val (.int i4), .val (.int i5), .val (.int (1 : Int32)), .val (.int (0 : Int32)), .val (.ref ex), .val (.ref s1), .val (.int i0), .val (.ref r0), .val (.int (1 : Int32))] [(.ref re)])) rfl rfl (hb hby at_177)
    refine own_st st17 ?_
    show Fin1 p e below s (rm0Q Z i0 i1 i2 i3 i4 i5 h0 n0) room_1.cells room_1.slots (T17.setTop (mkF m 180 #[.val (.int i0), .val (.int i1), .val (.int i2), .val (.int i3), .val (.int i4), .val (.int i5), .val (.int (1 : Int32)), .val (.int (0 : Int32)), .val (.ref ex), .val (.ref s1), .val (.int i0), .val (.ref r0), .val (.int (1 : Int32))] [(.ref re)]))
    refine own_st (fun wt wk => XS.aload X17.here hx rfl (hb hby at_180) rfl rfl (XS.iconst X17.here hx rfl (hb hby at_182) wk)) ?_
    show Fin1 p e below s (rm0Q Z i0 i1 i2 i3 i4 i5 h0 n0) room_1.cells room_1.slots (T17.setTop (mkF m 183 #[.val (.int i0), .val (.int i1), .val (.int i2), .val (.int i3), .val (.int i4), .val (.int i5), .val (.int (1 : Int32)), .val (.int (0 : Int32)), .val (.ref ex), .val (.ref s1), .val (.int i0), .val (.ref r0), .val (.int (1 : Int32))] [(.int (0 : Int32)), (.ref ex), (.ref re)]))
    refine own_st (own_ld (j := (0 : Int32)) (v := (.int i4)) X17 hx hZ e17 V_ex ⟨by decide, by decide⟩ rfl (g := (mkF m 183 #[.val (.int i0), .val (.int i1), .val (.int i2), .val (.int i3), .val (.int i4), .val (.int i5), .val (.int (1 : Int32)), .val (.int (0 : Int32)), .val (.ref ex), .val (.ref s1), .val (.int i0), .val (.ref r0), .val (.int (1 : Int32))] [(.int (0 : Int32)), (.ref ex), (.ref re)])) rfl rfl (Or.inl ⟨rfl, rfl⟩) (hb hby at_183)) ?_
    show Fin1 p e below s (rm0Q Z i0 i1 i2 i3 i4 i5 h0 n0) room_1.cells room_1.slots (T17.setTop (mkF m 184 #[.val (.int i0), .val (.int i1), .val (.int i2), .val (.int i3), .val (.int i4), .val (.int i5), .val (.int (1 : Int32)), .val (.int (0 : Int32)), .val (.ref ex), .val (.ref s1), .val (.int i0), .val (.ref r0), .val (.int (1 : Int32))] [(.int i4), (.ref re)]))
    obtain ⟨v18, T18, h18, L18, X18, e18, hQ18, st18⟩ := own_static X17 hx hZ hown (hw _ (List.mem_of_getElem? (i := 67) rfl)) (hw _ (List.mem_of_getElem? (i := 68) rfl)) (hw _ (List.mem_of_getElem? (i := 69) rfl)) (hw _ (List.mem_of_getElem? (i := 70) rfl)) (by decide) (rmEq l Z a0 hw re i4 h12 n0 Z0 E_re V_re) e17 (g := (mkF m 184 #[.val (.int i0), .val (.int i1), .val (.int i2), .val (.int i3), .val (.int i4), .val (.int i5), .val (.int (1 : Int32)), .val (.int (0 : Int32)), .val (.ref ex), .val (.ref s1), .val (.int i0), .val (.ref r0), .val (.int (1 : Int32))] [(.int i4), (.ref re)])) rfl (by rw [hml]; rfl) (argsL := [(.ref re), (.int i4)]) (rest := []) (lenOf pd_16 rfl) rfl (W := 0) (by show 2 * 0 + _ ≤ _; exact Nat.le_of_eq rfl) (hb hby at_184) (by decide) (by decide) (by decide) (by decide)
    obtain ⟨rfl, N18q, hh18⟩ := hQ18
    have N18 := Fr.app N16 N18q
    rw [hh18] at e18
    refine own_st st18 ?_
    show Fin1 p e below s (rm0Q Z i0 i1 i2 i3 i4 i5 h0 n0) room_1.cells room_1.slots (T18.setTop (mkF m 187 #[.val (.int i0), .val (.int i1), .val (.int i2), .val (.int i3), .val (.int i4), .val (.int i5), .val (.int (1 : Int32)), .val (.int (0 : Int32)), .val (.ref ex), .val (.ref s1), .val (.int i0), .val (.ref r0), .val (.int (1 : Int32))] [(.int (1 : Int32))]))
    refine own_st (fun wt wk => XS.ifNo X18.here hx rfl (hb hby at_187) rfl ((if0 _ _).trans (feq (by decide)).1) wk) ?_
    show Fin1 p e below s (rm0Q Z i0 i1 i2 i3 i4 i5 h0 n0) room_1.cells room_1.slots (T18.setTop (mkF m 190 #[.val (.int i0), .val (.int i1), .val (.int i2), .val (.int i3), .val (.int i4), .val (.int i5), .val (.int (1 : Int32)), .val (.int (0 : Int32)), .val (.ref ex), .val (.ref s1), .val (.int i0), .val (.ref r0), .val (.int (1 : Int32))] []))
    refine own_st (fun wt wk => XS.iconst X18.here hx rfl (hb hby at_190) (XS.goto X18.here hx rfl (pc0 := 191) (pc' := 195) rfl (hb hby at_191) (by decide) (by decide) (XS.istore X18.here hx rfl (hb hby at_195) rfl (l' := #[.val (.int i0), .val (.int i1), .val (.int i2), .val (.int i3), .val (.int i4), .val (.int i5), .val (.int (1 : Int32)), .val (.int (0 : Int32)), .val (.ref ex), .val (.ref s1), .val (.int i0), .val (.ref r0), .val (.int (1 : Int32))]) rfl (XS.iload X18.here hx rfl (hb hby at_197) rfl (XS.iconst X18.here hx rfl (hb hby at_199) wk))))) ?_
    show Fin1 p e below s (rm0Q Z i0 i1 i2 i3 i4 i5 h0 n0) room_1.cells room_1.slots (T18.setTop (mkF m 200 #[.val (.int i0), .val (.int i1), .val (.int i2), .val (.int i3), .val (.int i4), .val (.int i5), .val (.int (1 : Int32)), .val (.int (0 : Int32)), .val (.ref ex), .val (.ref s1), .val (.int i0), .val (.ref r0), .val (.int (1 : Int32))] [(.int (1 : Int32)), (.int (1 : Int32))]))
    refine own_st (fun wt wk => XS.icmpYes X18.here hx rfl (pc0 := 200) (pc' := 234) rfl (hb hby at_200) rfl (flt (by decide)).2.2.2 (by decide) (by decide) wk) ?_
    show Fin1 p e below s (rm0Q Z i0 i1 i2 i3 i4 i5 h0 n0) room_1.cells room_1.slots (T18.setTop (mkF m 234 #[.val (.int i0), .val (.int i1), .val (.int i2), .val (.int i3), .val (.int i4), .val (.int i5), .val (.int (1 : Int32)), .val (.int (0 : Int32)), .val (.ref ex), .val (.ref s1), .val (.int i0), .val (.ref r0), .val (.int (1 : Int32))] []))
    refine own_st (fun wt wk => XS.iload X18.here hx rfl (hb hby at_234) rfl (XS.iconst X18.here hx rfl (hb hby at_236) wk)) ?_
    show Fin1 p e below s (rm0Q Z i0 i1 i2 i3 i4 i5 h0 n0) room_1.cells room_1.slots (T18.setTop (mkF m 237 #[.val (.int i0), .val (.int i1), .val (.int i2), .val (.int i3), .val (.int i4), .val (.int i5), .val (.int (1 : Int32)), .val (.int (0 : Int32)), .val (.ref ex), .val (.ref s1), .val (.int i0), .val (.ref r0), .val (.int (1 : Int32))] [(.int (2 : Int32)), (.int (1 : Int32))]))
    refine own_st (fun wt wk => XS.icmpYes X18.here hx rfl (pc0 := 237) (pc' := 271) rfl (hb hby at_237) rfl (flt (by decide)).2.2.2 (by decide) (by decide) wk) ?_
    show Fin1 p e below s (rm0Q Z i0 i1 i2 i3 i4 i5 h0 n0) room_1.cells room_1.slots (T18.setTop (mkF m 271 #[.val (.int i0), .val (.int i1), .val (.int i2), .val (.int i3), .val (.int i4), .val (.int i5), .val (.int (1 : Int32)), .val (.int (0 : Int32)), .val (.ref ex), .val (.ref s1), .val (.int i0), .val (.ref r0), .val (.int (1 : Int32))] []))
    refine own_st (fun wt wk => XS.iload X18.here hx rfl (hb hby at_271) rfl (XS.iconst X18.here hx rfl (hb hby at_273) wk)) ?_
    show Fin1 p e below s (rm0Q Z i0 i1 i2 i3 i4 i5 h0 n0) room_1.cells room_1.slots (T18.setTop (mkF m 274 #[.val (.int i0), .val (.int i1), .val (.int i2), .val (.int i3), .val (.int i4), .val (.int i5), .val (.int (1 : Int32)), .val (.int (0 : Int32)), .val (.ref ex), .val (.ref s1), .val (.int i0), .val (.ref r0), .val (.int (1 : Int32))] [(.int (3 : Int32)), (.int (1 : Int32))]))
    refine own_st (fun wt wk => XS.icmpYes X18.here hx rfl (pc0 := 274) (pc' := 308) rfl (hb hby at_274) rfl (flt (by decide)).2.2.2 (by decide) (by decide) wk) ?_
    show Fin1 p e below s (rm0Q Z i0 i1 i2 i3 i4 i5 h0 n0) room_1.cells room_1.slots (T18.setTop (mkF m 308 #[.val (.int i0), .val (.int i1), .val (.int i2), .val (.int i3), .val (.int i4), .val (.int i5), .val (.int (1 : Int32)), .val (.int (0 : Int32)), .val (.ref ex), .val (.ref s1), .val (.int i0), .val (.ref r0), .val (.int (1 : Int32))] []))
    refine own_st (fun wt wk => XS.iload X18.here hx rfl (hb hby at_308) rfl wk) ?_
    show Fin1 p e below s (rm0Q Z i0 i1 i2 i3 i4 i5 h0 n0) room_1.cells room_1.slots (T18.setTop (mkF m 310 #[.val (.int i0), .val (.int i1), .val (.int i2), .val (.int i3), .val (.int i4), .val (.int i5), .val (.int (1 : Int32)), .val (.int (0 : Int32)), .val (.ref ex), .val (.ref s1), .val (.int i0), .val (.ref r0), .val (.int (1 : Int32))] [(.int (1 : Int32))]))
    exact own_retZ X18 hx hlk hret (hb hby at_310) (z := (1 : Int32)) (by decide) (by rw [e18]; exact ⟨rfl, N18⟩) (by decide) (by decide)
  · show Fin1 p e below s (rm0Q Z i0 i1 i2 i3 i4 i5 h0 n0) room_1.cells room_1.slots (T9.setTop (mkF m 63 #[.val (.int i0), .val (.int i1), .val (.int i2), .val (.int i3), .val (.int i4), .val (.int i5), .val (.int (2 : Int32)), .val (.int k7), .val (.ref ex), .val (.ref s1), .unset, .unset, .unset] [(.int (1 : Int32)), (.int (2 : Int32))]))
    refine own_st (fun wt wk => XS.icmpNo X9.here hx rfl (hb hby at_63) rfl (tlt (by decide)).2.2.2 wk) ?_
    show Fin1 p e below s (rm0Q Z i0 i1 i2 i3 i4 i5 h0 n0) room_1.cells room_1.slots (T9.setTop (mkF m 66 #[.val (.int i0), .val (.int i1), .val (.int i2), .val (.int i3), .val (.int i4), .val (.int i5), .val (.int (2 : Int32)), .val (.int k7), .val (.ref ex), .val (.ref s1), .unset, .unset, .unset] []))
    refine own_st (fun wt wk => XS.aload X9.here hx rfl (hb hby at_66) rfl rfl (XS.iconst X9.here hx rfl (hb hby at_68) (XS.iloadN X9.here hx rfl (hb hby at_69) rfl wk))) ?_
    show Fin1 p e below s (rm0Q Z i0 i1 i2 i3 i4 i5 h0 n0) room_1.cells room_1.slots (T9.setTop (mkF m 70 #[.val (.int i0), .val (.int i1), .val (.int i2), .val (.int i3), .val (.int i4), .val (.int i5), .val (.int (2 : Int32)), .val (.int k7), .val (.ref ex), .val (.ref s1), .unset, .unset, .unset] [(.int i1), (.int (1 : Int32)), (.ref s1)]))
    obtain ⟨v19, T19, h19, L19, X19, e19, hQ19, st19⟩ := own_static X9 hx hZ hown (hw _ (List.mem_of_getElem? (i := 16) rfl)) (hw _ (List.mem_of_getElem? (i := 17) rfl)) (hw _ (List.mem_of_getElem? (i := 18) rfl)) (hw _ (List.mem_of_getElem? (i := 19) rfl)) (by decide) (rmV l Z a0 hw i1 h9 n0 Z0 O hic) e9 (g := (mkF m 70 #[.val (.int i0), .val (.int i1), .val (.int i2), .val (.int i3), .val (.int i4), .val (.int i5), .val (.int (2 : Int32)), .val (.int k7), .val (.ref ex), .val (.ref s1), .unset, .unset, .unset] [(.int i1), (.int (1 : Int32)), (.ref s1)])) rfl (by rw [hml]; rfl) (argsL := [(.int i1)]) (rest := [(.int (1 : Int32)), (.ref s1)]) (lenOf pd_13 rfl) rfl (W := 2) (by show 2 * 0 + _ ≤ _; exact Nat.le_of_eq rfl) (hb hby at_70) (by decide) (by decide) (by decide) (by decide)
    obtain ⟨r1, rfl, N19q, K19, E_r1, V_r1⟩ := hQ19
    have N19 := Fr.app N9 N19q
    have Z0 := Nat.le_trans Z0 K19.1
    have O := O.keep K19 all0
    have V_ex := V_ex.keep K19 nin0
    have E_s1 := E_s1.keep K19
    have E_r0 := E_r0.keep K19
    have V_r0 := V_r0.keep K19 nin0
    have E_q0 := E_q0.keep K19
    have Hs1 := Hs1.keep K19 nin0
    have Ts1 := Ts1.keep K19 nin0
    have Ss1 := Ss1.keep K19 nin0
    have Eq0 := Eq0.keep K19 nin0
    have Pq0 := Pq0.keep K19 nin0
    have Nq0 := Nq0.keep K19 nin0
    refine own_st st19 ?_
    show Fin1 p e below s (rm0Q Z i0 i1 i2 i3 i4 i5 h0 n0) room_1.cells room_1.slots (T19.setTop (mkF m 73 #[.val (.int i0), .val (.int i1), .val (.int i2), .val (.int i3), .val (.int i4), .val (.int i5), .val (.int (2 : Int32)), .val (.int k7), .val (.ref ex), .val (.ref s1), .unset, .unset, .unset] [(.ref r1), (.int (1 : Int32)), (.ref s1)]))
    have ne_r1_ex : r1 ≠ ex := own_ne_arv E_r1 (hw _ (List.mem_of_getElem? (i := 89) rfl)) V_ex
    have ne_r1_s1 : r1 ≠ s1 := ne_exa E_r1 E_s1 (by decide)
    have ne_r1_q0 : r1 ≠ q0 := ne_exa E_r1 E_q0 (by decide)
    obtain ⟨v20, T20, h20, L20, X20, e20, hQ20, st20⟩ := own_virtual X19 hx hZ hown (hw _ (List.mem_of_getElem? (i := 23) rfl)) (hw _ (List.mem_of_getElem? (i := 24) rfl)) (hw _ (List.mem_of_getElem? (i := 26) rfl)) (hw _ (List.mem_of_getElem? (i := 25) rfl)) (hw _ (List.mem_of_getElem? (i := 27) rfl)) (hw _ (List.mem_of_getElem? (i := 4) rfl)) (by decide) (a := s1) E_s1 (rmI1 l Z a0 hw s1 r1 q0 q0 r0 .null h19 n0 Z0 g_s1 g_q0 E_s1 E_q0 Hs1 Ts1 Ss1 Eq0 Pq0 Nq0 ne_s1_q0) e19 (g := (mkF m 73 #[.val (.int i0), .val (.int i1), .val (.int i2), .val (.int i3), .val (.int i4), .val (.int i5), .val (.int (2 : Int32)), .val (.int k7), .val (.ref ex), .val (.ref s1), .unset, .unset, .unset] [(.ref r1), (.int (1 : Int32)), (.ref s1)])) rfl (by rw [hml]; rfl) (argsL := [(.int (1 : Int32)), (.ref r1)]) (rest := []) (lenOf pd_14 rfl) rfl (W := 0) (by show 2 * 0 + _ ≤ _; exact Nat.le_of_eq rfl) (hb hby at_73) (by decide) (by decide) (by decide) (by decide)
    obtain ⟨rfl, N20q, q1, s_q1, K20, E_q1, Hs1, Ts1, Ss1, Eq0, Pq0, Nq0, Eq1, Pq1, Nq1⟩ := hQ20
    have N20 := Fr.app N19 N20q
    have ne_ex_q1 : ex ≠ q1 := Nat.ne_of_lt (Nat.lt_of_lt_of_le V_ex.lt s_q1)
    have ne_s1_q1 : s1 ≠ q1 := Nat.ne_of_lt (Nat.lt_of_lt_of_le E_s1.lt s_q1)
    have ne_r0_q1 : r0 ≠ q1 := Nat.ne_of_lt (Nat.lt_of_lt_of_le E_r0.lt s_q1)
    have ne_q0_q1 : q0 ≠ q1 := Nat.ne_of_lt (Nat.lt_of_lt_of_le E_q0.lt s_q1)
    have ne_r1_q1 : r1 ≠ q1 := Nat.ne_of_lt (Nat.lt_of_lt_of_le E_r1.lt s_q1)
    have g_q1 : n0 ≤ q1 := Nat.le_trans Z0 s_q1
    have Z0 := Nat.le_trans Z0 K20.1
    have O := O.keep K20 (allS (P := fun x => n0 ≤ x) g_s1 (allS (P := fun x => n0 ≤ x) g_q0 all0))
    have V_ex := V_ex.keep K20 (ninS ne_ex_s1 (ninS ne_ex_q0 nin0))
    have E_s1 := E_s1.keep K20
    have E_r0 := E_r0.keep K20
    have V_r0 := V_r0.keep K20 (ninS ne_r0_s1 (ninS ne_r0_q0 nin0))
    have E_q0 := E_q0.keep K20
    have E_r1 := E_r1.keep K20
    have V_r1 := V_r1.keep K20 (ninS ne_r1_s1 (ninS ne_r1_q0 nin0))
    refine own_st st20 ?_
    show Fin1 p e below s (rm0Q Z i0 i1 i2 i3 i4 i5 h0 n0) room_1.cells room_1.slots (T20.setTop (mkF m 76 #[.val (.int i0), .val (.int i1), .val (.int i2), .val (.int i3), .val (.int i4), .val (.int i5), .val (.int (2 : Int32)), .val (.int k7), .val (.ref ex), .val (.ref s1), .unset, .unset, .unset] []))
    refine own_st (fun wt wk => XS.iload X20.here hx rfl (hb hby at_76) rfl (XS.iconst X20.here hx rfl (hb hby at_78) wk)) ?_
    show Fin1 p e below s (rm0Q Z i0 i1 i2 i3 i4 i5 h0 n0) room_1.cells room_1.slots (T20.setTop (mkF m 79 #[.val (.int i0), .val (.int i1), .val (.int i2), .val (.int i3), .val (.int i4), .val (.int i5), .val (.int (2 : Int32)), .val (.int k7), .val (.ref ex), .val (.ref s1), .unset, .unset, .unset] [(.int (2 : Int32)), (.int (2 : Int32))]))
    refine own_st (fun wt wk => XS.icmpYes X20.here hx rfl (pc0 := 79) (pc' := 92) rfl (hb hby at_79) rfl (flt (by decide)).2.2.2 (by decide) (by decide) wk) ?_
    show Fin1 p e below s (rm0Q Z i0 i1 i2 i3 i4 i5 h0 n0) room_1.cells room_1.slots (T20.setTop (mkF m 92 #[.val (.int i0), .val (.int i1), .val (.int i2), .val (.int i3), .val (.int i4), .val (.int i5), .val (.int (2 : Int32)), .val (.int k7), .val (.ref ex), .val (.ref s1), .unset, .unset, .unset] []))
    refine own_st (fun wt wk => XS.iload X20.here hx rfl (hb hby at_92) rfl (XS.iconst X20.here hx rfl (hb hby at_94) wk)) ?_
    show Fin1 p e below s (rm0Q Z i0 i1 i2 i3 i4 i5 h0 n0) room_1.cells room_1.slots (T20.setTop (mkF m 95 #[.val (.int i0), .val (.int i1), .val (.int i2), .val (.int i3), .val (.int i4), .val (.int i5), .val (.int (2 : Int32)), .val (.int k7), .val (.ref ex), .val (.ref s1), .unset, .unset, .unset] [(.int (3 : Int32)), (.int (2 : Int32))]))
    refine own_st (fun wt wk => XS.icmpYes X20.here hx rfl (pc0 := 95) (pc' := 108) rfl (hb hby at_95) rfl (flt (by decide)).2.2.2 (by decide) (by decide) wk) ?_
    show Fin1 p e below s (rm0Q Z i0 i1 i2 i3 i4 i5 h0 n0) room_1.cells room_1.slots (T20.setTop (mkF m 108 #[.val (.int i0), .val (.int i1), .val (.int i2), .val (.int i3), .val (.int i4), .val (.int i5), .val (.int (2 : Int32)), .val (.int k7), .val (.ref ex), .val (.ref s1), .unset, .unset, .unset] []))
    refine own_st (fun wt wk => XS.aload X20.here hx rfl (hb hby at_108) rfl rfl (XS.iload X20.here hx rfl (hb hby at_110) rfl wk)) ?_
    show Fin1 p e below s (rm0Q Z i0 i1 i2 i3 i4 i5 h0 n0) room_1.cells room_1.slots (T20.setTop (mkF m 112 #[.val (.int i0), .val (.int i1), .val (.int i2), .val (.int i3), .val (.int i4), .val (.int i5), .val (.int (2 : Int32)), .val (.int k7), .val (.ref ex), .val (.ref s1), .unset, .unset, .unset] [(.int k7), (.ref ex)]))
    rcases hk with rfl | rfl
    · show Fin1 p e below s (rm0Q Z i0 i1 i2 i3 i4 i5 h0 n0) room_1.cells room_1.slots (T20.setTop (mkF m 112 #[.val (.int i0), .val (.int i1), .val (.int i2), .val (.int i3), .val (.int i4), .val (.int i5), .val (.int (2 : Int32)), .val (.int (0 : Int32)), .val (.ref ex), .val (.ref s1), .unset, .unset, .unset] [(.int (0 : Int32)), (.ref ex)]))
      refine own_st (own_ld (j := (0 : Int32)) (v := (.int i0)) X20 hx hZ e20 V_ex ⟨by decide, by decide⟩ rfl (g := (mkF m 112 #[.val (.int i0), .val (.int i1), .val (.int i2), .val (.int i3), .val (.int i4), .val (.int i5), .val (.int (2 : Int32)), .val (.int (0 : Int32)), .val (.ref ex), .val (.ref s1), .unset, .unset, .unset] [(.int (0 : Int32)), (.ref ex)])) rfl rfl (Or.inl ⟨rfl, rfl⟩) (hb hby at_112)) ?_
      show Fin1 p e below s (rm0Q Z i0 i1 i2 i3 i4 i5 h0 n0) room_1.cells room_1.slots (T20.setTop (mkF m 113 #[.val (.int i0), .val (.int i1), .val (.int i2), .val (.int i3), .val (.int i4), .val (.int i5), .val (.int (2 : Int32)), .val (.int (0 : Int32)), .val (.ref ex), .val (.ref s1), .unset, .unset, .unset] [(.int i0)]))
      refine own_st (fun wt wk => XS.istore X20.here hx rfl (hb hby at_113) rfl (l' := #[.val (.int i0), .val (.int i1), .val (.int i2), .val (.int i3), .val (.int i4), .val (.int i5), .val (.int (2 : Int32)), .val (.int (0 : Int32)), .val (.ref ex), .val (.ref s1), .val (.int i0), .unset, .unset]) rfl (XS.aload X20.here hx rfl (hb hby at_115) rfl rfl (XS.iload X20.here hx rfl (hb hby at_117) rfl (XS.iload X20.here hx rfl (hb hby at_119) rfl wk)))) ?_
      show Fin1 p e below s (rm0Q Z i0 i1 i2 i3 i4 i5 h0 n0) room_1.cells room_1.slots (T20.setTop (mkF m 121 #[.val (.int i0), .val (.int i1), .val (.int i2), .val (.int i3), .val (.int i4), .val (.int i5), .val (.int (2 : Int32)), .val (.int (0 : Int32)), .val (.ref ex), .val (.ref s1), .val (.int i0), .unset, .unset] [(.int i4), (.int (0 : Int32)), (.ref ex)]))
      obtain ⟨T21, h21, X21, e21, W21, U21, st21⟩ := own_stI (j := (0 : Int32)) X20 hx hZ e20 V_ex ⟨by decide, by decide⟩ 0 rfl (by simp) (g := (mkF m 121 #[.val (.int i0), .val (.int i1), .val (.int i2), .val (.int i3), .val (.int i4), .val (.int i5), .val (.int (2 : Int32)), .val (.int (0 : Int32)), .val (.ref ex), .val (.ref s1), .val (.int i0), .unset, .unset] [(.int i4), (.int (0 : Int32)), (.ref ex)])) rfl rfl (hb hby at_121)
      have N21 := Fr.snoc X21 N20 g_ex
      have Z0 := Nat.le_trans Z0 (Nat.le_of_eq W21.size.symm)
      have O := O.wr W21 g_ex
      have E_s1 := E_s1.wr W21
      have E_r0 := E_r0.wr W21
      have V_r0 := V_r0.other W21 (Or.inl ne_r0_ex)
      have E_q0 := E_q0.wr W21
      have E_r1 := E_r1.wr W21
      have V_r1 := V_r1.other W21 (Or.inl ne_r1_ex)
      have E_q1 := E_q1.wr W21
      have Hs1 := Hs1.other W21 (Or.inl (Ne.symm ne_ex_s1))
      have Ts1 := Ts1.other W21 (Or.inl (Ne.symm ne_ex_s1))
      have Ss1 := Ss1.other W21 (Or.inl (Ne.symm ne_ex_s1))
      have Eq0 := Eq0.other W21 (Or.inl (Ne.symm ne_ex_q0))
      have Pq0 := Pq0.other W21 (Or.inl (Ne.symm ne_ex_q0))
      have Nq0 := Nq0.other W21 (Or.inl (Ne.symm ne_ex_q0))
      have Eq1 := Eq1.other W21 (Or.inl (Ne.symm ne_ex_q1))
      have Pq1 := Pq1.other W21 (Or.inl (Ne.symm ne_ex_q1))
      have Nq1 := Nq1.other W21 (Or.inl (Ne.symm ne_ex_q1))
      have V_ex : Arv Z h21 ex kc1 .int (4 : Int32) [(.int i4), (.int i1), (.int i2), (.int i3)] (.int (0 : Int32)) := U21
      refine own_st st21 ?_
      show Fin1 p e below s (rm0Q Z i0 i1 i2 i3 i4 i5 h0 n0) room_1.cells room_1.slots (T21.setTop (mkF m 122 #[.val (.int i0), .val (.int i1), .val (.int i2), .val (.int i3), .val (.int i4), .val (.int i5), .val (.int (2 : Int32)), .val (.int (0 : Int32)), .val (.ref ex), .val (.ref s1), .val (.int i0), .unset, .unset] []))
      refine own_st (fun wt wk => XS.aload X21.here hx rfl (hb hby at_122) rfl rfl (XS.iload X21.here hx rfl (hb hby at_124) rfl (XS.iload X21.here hx rfl (hb hby at_126) rfl wk))) ?_
      show Fin1 p e below s (rm0Q Z i0 i1 i2 i3 i4 i5 h0 n0) room_1.cells room_1.slots (T21.setTop (mkF m 128 #[.val (.int i0), .val (.int i1), .val (.int i2), .val (.int i3), .val (.int i4), .val (.int i5), .val (.int (2 : Int32)), .val (.int (0 : Int32)), .val (.ref ex), .val (.ref s1), .val (.int i0), .unset, .unset] [(.int i4), (.int (0 : Int32)), (.ref s1)]))
      obtain ⟨v22, T22, h22, L22, X22, e22, hQ22, st22⟩ := own_static X21 hx hZ hown (hw _ (List.mem_of_getElem? (i := 16) rfl)) (hw _ (List.mem_of_getElem? (i := 17) rfl)) (hw _ (List.mem_of_getElem? (i := 18) rfl)) (hw _ (List.mem_of_getElem? (i := 19) rfl)) (by decide) (rmV l Z a0 hw i4 h21 n0 Z0 O hic) e21 (g := (mkF m 128 #[.val (.int i0), .val (.int i1), .val (.int i2), .val (.int i3), .val (.int i4), .val (.int i5), .val (.int (2 : Int32)), .val (.int (0 : Int32)), .val (.ref ex), .val (.ref s1), .val (.int i0), .unset, .unset] [(.int i4), (.int (0 : Int32)), (.ref s1)])) rfl (by rw [hml]; rfl) (argsL := [(.int i4)]) (rest := [(.int (0 : Int32)), (.ref s1)]) (lenOf pd_13 rfl) rfl (W := 2) (by show 2 * 0 + _ ≤ _; exact Nat.le_of_eq rfl) (hb hby at_128) (by decide) (by decide) (by decide) (by decide)
      obtain ⟨re, rfl, N22q, K22, E_re, V_re⟩ := hQ22
      have N22 := Fr.app N21 N22q
      have Z0 := Nat.le_trans Z0 K22.1
      have O := O.keep K22 all0
      have V_ex := V_ex.keep K22 nin0
      have E_s1 := E_s1.keep K22
      have E_r0 := E_r0.keep K22
      have V_r0 := V_r0.keep K22 nin0
      have E_q0 := E_q0.keep K22
      have E_r1 := E_r1.keep K22
      have V_r1 := V_r1.keep K22 nin0
      have E_q1 := E_q1.keep K22
      have Hs1 := Hs1.keep K22 nin0
      have Ts1 := Ts1.keep K22 nin0
      have Ss1 := Ss1.keep K22 nin0
      have Eq0 := Eq0.keep K22 nin0
      have Pq0 := Pq0.keep K22 nin0
      have Nq0 := Nq0.keep K22 nin0
      have Eq1 := Eq1.keep K22 nin0
      have Pq1 := Pq1.keep K22 nin0
      have Nq1 := Nq1.keep K22 nin0
      refine own_st st22 ?_
      show Fin1 p e below s (rm0Q Z i0 i1 i2 i3 i4 i5 h0 n0) room_1.cells room_1.slots (T22.setTop (mkF m 131 #[.val (.int i0), .val (.int i1), .val (.int i2), .val (.int i3), .val (.int i4), .val (.int i5), .val (.int (2 : Int32)), .val (.int (0 : Int32)), .val (.ref ex), .val (.ref s1), .val (.int i0), .unset, .unset] [(.ref re), (.int (0 : Int32)), (.ref s1)]))
      have ne_re_ex : re ≠ ex := own_ne_arv E_re (hw _ (List.mem_of_getElem? (i := 89) rfl)) V_ex
      have ne_re_s1 : re ≠ s1 := ne_exa E_re E_s1 (by decide)
      have ne_re_q0 : re ≠ q0 := ne_exa E_re E_q0 (by decide)
      have ne_re_q1 : re ≠ q1 := ne_exa E_re E_q1 (by decide)
      obtain ⟨v23, T23, h23, L23, X23, e23, hQ23, st23⟩ := own_virtual X22 hx hZ hown (hw _ (List.mem_of_getElem? (i := 59) rfl)) (hw _ (List.mem_of_getElem? (i := 60) rfl)) (hw _ (List.mem_of_getElem? (i := 62) rfl)) (hw _ (List.mem_of_getElem? (i := 61) rfl)) (hw _ (List.mem_of_getElem? (i := 63) rfl)) (hw _ (List.mem_of_getElem? (i := 4) rfl)) (by decide) (a := s1) E_s1 (rmT20 l Z a0 hw s1 re q0 r0 .null (.ref q1) h22 n0 Z0 g_q0 E_s1 E_q0 Ss1 Hs1 Eq0 Pq0 Nq0) e22 (g := (mkF m 131 #[.val (.int i0), .val (.int i1), .val (.int i2), .val (.int i3), .val (.int i4), .val (.int i5), .val (.int (2 : Int32)), .val (.int (0 : Int32)), .val (.ref ex), .val (.ref s1), .val (.int i0), .unset, .unset] [(.ref re), (.int (0 : Int32)), (.ref s1)])) rfl (by rw [hml]; rfl) (argsL := [(.int (0 : Int32)), (.ref re)]) (rest := []) (lenOf pd_15 rfl) rfl (W := 0) (by show 2 * 0 + _ ≤ _; exact Nat.le_of_eq rfl) (hb hby at_131) (by decide) (by decide) (by decide) (by decide)
      obtain ⟨rfl, N23q, K23, Eq0, Pq0, Nq0⟩ := hQ23
      have N23 := Fr.app N22 N23q
      have Z0 := Nat.le_trans Z0 K23.1
      have O := O.keep K23 (allS (P := fun x => n0 ≤ x) g_q0 all0)
      have V_ex := V_ex.keep K23 (ninS ne_ex_q0 nin0)
      have E_s1 := E_s1.keep K23
      have E_r0 := E_r0.keep K23
      have V_r0 := V_r0.keep K23 (ninS ne_r0_q0 nin0)
      have E_q0 := E_q0.keep K23
      have E_r1 := E_r1.keep K23
      have V_r1 := V_r1.keep K23 (ninS ne_r1_q0 nin0)
      have E_q1 := E_q1.keep K23
      have Hs1 := Hs1.keep K23 (ninS ne_s1_q0 nin0)
      have Ts1 := Ts1.keep K23 (ninS ne_s1_q0 nin0)
      have Ss1 := Ss1.keep K23 (ninS ne_s1_q0 nin0)
      have Eq1 := Eq1.keep K23 (ninS (Ne.symm ne_q0_q1) nin0)
      have Pq1 := Pq1.keep K23 (ninS (Ne.symm ne_q0_q1) nin0)
      have Nq1 := Nq1.keep K23 (ninS (Ne.symm ne_q0_q1) nin0)
      have E_re := E_re.keep K23
      have V_re := V_re.keep K23 (ninS ne_re_q0 nin0)
      refine own_st st23 ?_
      show Fin1 p e below s (rm0Q Z i0 i1 i2 i3 i4 i5 h0 n0) room_1.cells room_1.slots (T23.setTop (mkF m 134 #[.val (.int i0), .val (.int i1), .val (.int i2), .val (.int i3), .val (.int i4), .val (.int i5), .val (.int (2 : Int32)), .val (.int (0 : Int32)), .val (.ref ex), .val (.ref s1), .val (.int i0), .unset, .unset] [(.ref r0)]))
      obtain ⟨T24, X24, e24, st24⟩ := castY X23 hx hZ hown (hw _ (List.mem_of_getElem? (i := 65) rfl)) e23 (Ins.self E_r0) (g := (mkF m 134 #[.val (.int i0), .val (.int i1), .val (.int i2), .val (.int i3), .val (.int i4), .val (.int i5), .val (.int (2 : Int32)), .val (.int (0 : Int32)), .val (.ref ex), .val (.ref s1), .val (.int i0), .unset, .unset] [(.ref r0)])) rfl rfl (hb hby at_134)
      refine own_st st24 ?_
      show Fin1 p e below s (rm0Q Z i0 i1 i2 i3 i4 i5 h0 n0) room_1.cells room_1.slots (T24.setTop (mkF m 137 #[.val (.int i0), .val (.int i1), .val (.int i2), .val (.int i3), .val (.int i4), .val (.int i5), .val (.int (2 : Int32)), .val (.int (0 : Int32)), .val (.ref ex), .val (.ref s1), .val (.int i0), .unset, .unset] [(.ref r0)]))
      refine own_st (fun wt wk => XS.astore X24.here hx rfl (hb hby at_137) rfl rfl (l' := #[.val (.int i0), .val (.int i1), .val (.int i2), .val (.int i3), .val (.int i4), .val (.int i5), .val (.int (2 : Int32)), .val (.int (0 : Int32)), .val (.ref ex), .val (.ref s1), .val (.int i0), .val (.ref r0), .unset]) rfl (XS.aload X24.here hx rfl (hb hby at_139) rfl rfl (XS.iload X24.here hx rfl (hb hby at_141) rfl wk))) ?_
      show Fin1 p e below s (rm0Q Z i0 i1 i2 i3 i4 i5 h0 n0) room_1.cells room_1.slots (T24.setTop (mkF m 143 #[.val (.int i0), .val (.int i1), .val (.int i2), .val (.int i3), .val (.int i4), .val (.int i5), .val (.int (2 : Int32)), .val (.int (0 : Int32)), .val (.ref ex), .val (.ref s1), .val (.int i0), .val (.ref r0), .unset] [(.int i0), (.ref r0)]))
      obtain ⟨v25, T25, h25, L25, X25, e25, hQ25, st25⟩ := own_static X24 hx hZ hown (hw _ (List.mem_of_getElem? (i := 67) rfl)) (hw _ (List.mem_of_getElem? (i := 68) rfl)) (hw _ (List.mem_of_getElem? (i := 69) rfl)) (hw _ (List.mem_of_getElem? (i := 70) rfl)) (by decide) (rmEq l Z a0 hw r0 i0 h23 n0 Z0 E_r0 V_r0) e24 (g := (mkF m 143 #[.val (.int i0), .val (.int i1), .val (.int i2), .val (.int i3), .val (.int i4), .val (.int i5), .val (.int (2 : Int32)), .val (.int (0 : Int32)), .val (.ref ex), .val (.ref s1), .val (.int i0), .val (.ref r0), .unset] [(.int i0), (.ref r0)])) rfl (by rw [hml]; rfl) (argsL := [(.ref r0), (.int i0)]) (rest := []) (lenOf pd_16 rfl) rfl (W := 0) (by show 2 * 0 + _ ≤ _; exact Nat.le_of_eq rfl) (hb hby at_143) (by decide) (by decide) (by decide) (by decide)
      obtain ⟨rfl, N25q, hh25⟩ := hQ25
      have N25 := Fr.app N23 N25q
      rw [hh25] at e25
      refine own_st st25 ?_
      show Fin1 p e below s (rm0Q Z i0 i1 i2 i3 i4 i5 h0 n0) room_1.cells room_1.slots (T25.setTop (mkF m 146 #[.val (.int i0), .val (.int i1), .val (.int i2), .val (.int i3), .val (.int i4), .val (.int i5), .val (.int (2 : Int32)), .val (.int (0 : Int32)), .val (.ref ex), .val (.ref s1), .val (.int i0), .val (.ref r0), .unset] [(.int (1 : Int32))]))
      refine own_st (fun wt wk => XS.ifNo X25.here hx rfl (hb hby at_146) rfl ((if0 _ _).trans (feq (by decide)).1) wk) ?_
      show Fin1 p e below s (rm0Q Z i0 i1 i2 i3 i4 i5 h0 n0) room_1.cells room_1.slots (T25.setTop (mkF m 149 #[.val (.int i0), .val (.int i1), .val (.int i2), .val (.int i3), .val (.int i4), .val (.int i5), .val (.int (2 : Int32)), .val (.int (0 : Int32)), .val (.ref ex), .val (.ref s1), .val (.int i0), .val (.ref r0), .unset] []))
      refine own_st (fun wt wk => XS.aload X25.here hx rfl (hb hby at_149) rfl rfl wk) ?_
      show Fin1 p e below s (rm0Q Z i0 i1 i2 i3 i4 i5 h0 n0) room_1.cells room_1.slots (T25.setTop (mkF m 151 #[.val (.int i0), .val (.int i1), .val (.int i2), .val (.int i3), .val (.int i4), .val (.int i5), .val (.int (2 : Int32)), .val (.int (0 : Int32)), .val (.ref ex), .val (.ref s1), .val (.int i0), .val (.ref r0), .unset] [(.ref s1)]))
      obtain ⟨v26, T26, h26, L26, X26, e26, hQ26, st26⟩ := own_virtual X25 hx hZ hown (hw _ (List.mem_of_getElem? (i := 78) rfl)) (hw _ (List.mem_of_getElem? (i := 79) rfl)) (hw _ (List.mem_of_getElem? (i := 81) rfl)) (hw _ (List.mem_of_getElem? (i := 80) rfl)) (hw _ (List.mem_of_getElem? (i := 82) rfl)) (hw _ (List.mem_of_getElem? (i := 4) rfl)) (by decide) (a := s1) E_s1 (rmZ l Z a0 hw s1 (2 : Int32) h23 n0 Z0 Ss1) e25 (g := (mkF m 151 #[.val (.int i0), .val (.int i1), .val (.int i2), .val (.int i3), .val (.int i4), .val (.int i5), .val (.int (2 : Int32)), .val (.int (0 : Int32)), .val (.ref ex), .val (.ref s1), .val (.int i0), .val (.ref r0), .unset] [(.ref s1)])) rfl (by rw [hml]; rfl) (argsL := []) (rest := []) (lenOf pd_12 rfl) rfl (W := 0) (by show 2 * 0 + _ ≤ _; exact Nat.le_of_eq rfl) (hb hby at_151) (by decide) (by decide) (by decide) (by decide)
      obtain ⟨rfl, N26q, hh26⟩ := hQ26
      have N26 := Fr.app N25 N26q
      rw [hh26] at e26
      refine own_st st26 ?_
      show Fin1 p e below s (rm0Q Z i0 i1 i2 i3 i4 i5 h0 n0) room_1.cells room_1.slots (T26.setTop (mkF m 154 #[.val (.int i0), .val (.int i1), .val (.int i2), .val (.int i3), .val (.int i4), .val (.int i5), .val (.int (2 : Int32)), .val (.int (0 : Int32)), .val (.ref ex), .val (.ref s1), .val (.int i0), .val (.ref r0), .unset] [(.int (2 : Int32))]))
      refine own_st (fun wt wk => XS.iload X26.here hx rfl (hb hby at_154) rfl wk) ?_
      show Fin1 p e below s (rm0Q Z i0 i1 i2 i3 i4 i5 h0 n0) room_1.cells room_1.slots (T26.setTop (mkF m 156 #[.val (.int i0), .val (.int i1), .val (.int i2), .val (.int i3), .val (.int i4), .val (.int i5), .val (.int (2 : Int32)), .val (.int (0 : Int32)), .val (.ref ex), .val (.ref s1), .val (.int i0), .val (.ref r0), .unset] [(.int (2 : Int32)), (.int (2 : Int32))]))
      refine own_st (fun wt wk => XS.icmpNo X26.here hx rfl (hb hby at_156) rfl (teq (by decide)).2 wk) ?_
      show Fin1 p e below s (rm0Q Z i0 i1 i2 i3 i4 i5 h0 n0) room_1.cells room_1.slots (T26.setTop (mkF m 159 #[.val (.int i0), .val (.int i1), .val (.int i2), .val (.int i3), .val (.int i4), .val (.int i5), .val (.int (2 : Int32)), .val (.int (0 : Int32)), .val (.ref ex), .val (.ref s1), .val (.int i0), .val (.ref r0), .unset] []))
      refine own_st (fun wt wk => XS.iconst X26.here hx rfl (hb hby at_159) (XS.goto X26.here hx rfl (pc0 := 160) (pc' := 164) rfl (hb hby at_160) (by decide) (by decide) (XS.istore X26.here hx rfl (hb hby at_164) rfl (l' := #[.val (.int i0), .val (.int i1), .val (.int i2), .val (.int i3), .val (.int i4), .val (.int i5), .val (.int (2 : Int32)), .val (.int (0 : Int32)), .val (.ref ex), .val (.ref s1), .val (.int i0), .val (.ref r0), .val (.int (1 : Int32))]) rfl (XS.iload X26.here hx rfl (hb hby at_166) rfl wk)))) ?_
      show Fin1 p e below s (rm0Q Z i0 i1 i2 i3 i4 i5 h0 n0) room_1.cells room_1.slots (T26.setTop (mkF m 168 #[.val (.int i0), .val (.int i1), .val (.int i2), .val (.int i3), .val (.int i4), .val (.int i5), .val (.int (2 : Int32)), .val (.int (0 : Int32)), .val (.ref ex), .val (.ref s1), .val (.int i0), .val (.ref r0), .val (.int (1 : Int32))] [(.int (1 : Int32))]))
      refine own_st (fun wt wk => XS.ifNo X26.here hx rfl (hb hby at_168) rfl ((if0 _ _).trans (feq (by decide)).1) wk) ?_
      show Fin1 p e below s (rm0Q Z i0 i1 i2 i3 i4 i5 h0 n0) room_1.cells room_1.slots (T26.setTop (mkF m 171 #[.val (.int i0), .val (.int i1), .val (.int i2), .val (.int i3), .val (.int i4), .val (.int i5), .val (.int (2 : Int32)), .val (.int (0 : Int32)), .val (.ref ex), .val (.ref s1), .val (.int i0), .val (.ref r0), .val (.int (1 : Int32))] []))
      refine own_st (fun wt wk => XS.aload X26.here hx rfl (hb hby at_171) rfl rfl (XS.iconst X26.here hx rfl (hb hby at_173) wk)) ?_
      show Fin1 p e below s (rm0Q Z i0 i1 i2 i3 i4 i5 h0 n0) room_1.cells room_1.slots (T26.setTop (mkF m 174 #[.val (.int i0), .val (.int i1), .val (.int i2), .val (.int i3), .val (.int i4), .val (.int i5), .val (.int (2 : Int32)), .val (.int (0 : Int32)), .val (.ref ex), .val (.ref s1), .val (.int i0), .val (.ref r0), .val (.int (1 : Int32))] [(.int (0 : Int32)), (.ref s1)]))
      obtain ⟨v27, T27, h27, L27, X27, e27, hQ27, st27⟩ := own_virtual X26 hx hZ hown (hw _ (List.mem_of_getElem? (i := 83) rfl)) (hw _ (List.mem_of_getElem? (i := 84) rfl)) (hw _ (List.mem_of_getElem? (i := 86) rfl)) (hw _ (List.mem_of_getElem? (i := 85) rfl)) (hw _ (List.mem_of_getElem? (i := 87) rfl)) (hw _ (List.mem_of_getElem? (i := 4) rfl)) (by decide) (a := s1) E_s1 (rmG20 l Z a0 hw s1 q0 re h23 n0 Z0 E_s1 Ss1 Hs1 Eq0) e26 (g := (mkF m 174 #[.val (.int i0), .val (.int i1), .val (.int i2), .val (.int i3), .val (.int i4), .val (.int i5), .val (.int (2 : Int32)), .val (.int (0 : Int32)), .val (.ref ex), .val (.ref s1), .val (.int i0), .val (.ref r0), .val (.int (1 : Int32))] [(.int (0 : Int32)), (.ref s1)])) rfl (by rw [hml]; rfl) (argsL := [(.int (0 : Int32))]) (rest := []) (lenOf pd_17 rfl) rfl (W := 0) (by show 2 * 0 + _ ≤ _; exact Nat.le_of_eq rfl) (hb hby at_174) (by decide) (by decide) (by decide) (by decide)
      obtain ⟨rfl, N27q, hh27⟩ := hQ27
      have N27 := Fr.app N26 N27q
      rw [hh27] at e27
      refine own_st st27 ?_
      show Fin1 p e below s (rm0Q Z i0 i1 i2 i3 i4 i5 h0 n0) room_1.cells room_1.slots (T27.setTop (mkF m 177 #[.val (.int i0), .val (.int i1), .val (.int i2), .val (.int i3), .val (.int i4), .val (.int i5), .val (.int (2 : Int32)), .val (.int (0 : Int32)), .val (.ref ex), .val (.ref s1), .val (.int i0), .val (.ref r0), .val (.int (1 : Int32))] [(.ref re)]))
      obtain ⟨T28, X28, e28, st28⟩ := castY X27 hx hZ hown (hw _ (List.mem_of_getElem? (i := 65) rfl)) e27 (Ins.self E_re) (g := (mkF m 177 #[.val (.int i0), .val (.int i1), .val (.int i2), .val (.int i3), .val (.int i4), .val (.int i5), .val (.int (2 : Int32)), .val (.int (0 : Int32)), .val (.ref ex), .val (.ref s1), .val (.int i0), .val (.ref r0), .val (.int (1 : Int32))] [(.ref re)])) rfl rfl (hb hby at_177)
      refine own_st st28 ?_
      show Fin1 p e below s (rm0Q Z i0 i1 i2 i3 i4 i5 h0 n0) room_1.cells room_1.slots (T28.setTop (mkF m 180 #[.val (.int i0), .val (.int i1), .val (.int i2), .val (.int i3), .val (.int i4), .val (.int i5), .val (.int (2 : Int32)), .val (.int (0 : Int32)), .val (.ref ex), .val (.ref s1), .val (.int i0), .val (.ref r0), .val (.int (1 : Int32))] [(.ref re)]))
      refine own_st (fun wt wk => XS.aload X28.here hx rfl (hb hby at_180) rfl rfl (XS.iconst X28.here hx rfl (hb hby at_182) wk)) ?_
      show Fin1 p e below s (rm0Q Z i0 i1 i2 i3 i4 i5 h0 n0) room_1.cells room_1.slots (T28.setTop (mkF m 183 #[.val (.int i0), .val (.int i1), .val (.int i2), .val (.int i3), .val (.int i4), .val (.int i5), .val (.int (2 : Int32)), .val (.int (0 : Int32)), .val (.ref ex), .val (.ref s1), .val (.int i0), .val (.ref r0), .val (.int (1 : Int32))] [(.int (0 : Int32)), (.ref ex), (.ref re)]))
      refine own_st (own_ld (j := (0 : Int32)) (v := (.int i4)) X28 hx hZ e28 V_ex ⟨by decide, by decide⟩ rfl (g := (mkF m 183 #[.val (.int i0), .val (.int i1), .val (.int i2), .val (.int i3), .val (.int i4), .val (.int i5), .val (.int (2 : Int32)), .val (.int (0 : Int32)), .val (.ref ex), .val (.ref s1), .val (.int i0), .val (.ref r0), .val (.int (1 : Int32))] [(.int (0 : Int32)), (.ref ex), (.ref re)])) rfl rfl (Or.inl ⟨rfl, rfl⟩) (hb hby at_183)) ?_
      show Fin1 p e below s (rm0Q Z i0 i1 i2 i3 i4 i5 h0 n0) room_1.cells room_1.slots (T28.setTop (mkF m 184 #[.val (.int i0), .val (.int i1), .val (.int i2), .val (.int i3), .val (.int i4), .val (.int i5), .val (.int (2 : Int32)), .val (.int (0 : Int32)), .val (.ref ex), .val (.ref s1), .val (.int i0), .val (.ref r0), .val (.int (1 : Int32))] [(.int i4), (.ref re)]))
      obtain ⟨v29, T29, h29, L29, X29, e29, hQ29, st29⟩ := own_static X28 hx hZ hown (hw _ (List.mem_of_getElem? (i := 67) rfl)) (hw _ (List.mem_of_getElem? (i := 68) rfl)) (hw _ (List.mem_of_getElem? (i := 69) rfl)) (hw _ (List.mem_of_getElem? (i := 70) rfl)) (by decide) (rmEq l Z a0 hw re i4 h23 n0 Z0 E_re V_re) e28 (g := (mkF m 184 #[.val (.int i0), .val (.int i1), .val (.int i2), .val (.int i3), .val (.int i4), .val (.int i5), .val (.int (2 : Int32)), .val (.int (0 : Int32)), .val (.ref ex), .val (.ref s1), .val (.int i0), .val (.ref r0), .val (.int (1 : Int32))] [(.int i4), (.ref re)])) rfl (by rw [hml]; rfl) (argsL := [(.ref re), (.int i4)]) (rest := []) (lenOf pd_16 rfl) rfl (W := 0) (by show 2 * 0 + _ ≤ _; exact Nat.le_of_eq rfl) (hb hby at_184) (by decide) (by decide) (by decide) (by decide)
      obtain ⟨rfl, N29q, hh29⟩ := hQ29
      have N29 := Fr.app N27 N29q
      rw [hh29] at e29
      refine own_st st29 ?_
      show Fin1 p e below s (rm0Q Z i0 i1 i2 i3 i4 i5 h0 n0) room_1.cells room_1.slots (T29.setTop (mkF m 187 #[.val (.int i0), .val (.int i1), .val (.int i2), .val (.int i3), .val (.int i4), .val (.int i5), .val (.int (2 : Int32)), .val (.int (0 : Int32)), .val (.ref ex), .val (.ref s1), .val (.int i0), .val (.ref r0), .val (.int (1 : Int32))] [(.int (1 : Int32))]))
      refine own_st (fun wt wk => XS.ifNo X29.here hx rfl (hb hby at_187) rfl ((if0 _ _).trans (feq (by decide)).1) wk) ?_
      show Fin1 p e below s (rm0Q Z i0 i1 i2 i3 i4 i5 h0 n0) room_1.cells room_1.slots (T29.setTop (mkF m 190 #[.val (.int i0), .val (.int i1), .val (.int i2), .val (.int i3), .val (.int i4), .val (.int i5), .val (.int (2 : Int32)), .val (.int (0 : Int32)), .val (.ref ex), .val (.ref s1), .val (.int i0), .val (.ref r0), .val (.int (1 : Int32))] []))
      refine own_st (fun wt wk => XS.iconst X29.here hx rfl (hb hby at_190) (XS.goto X29.here hx rfl (pc0 := 191) (pc' := 195) rfl (hb hby at_191) (by decide) (by decide) (XS.istore X29.here hx rfl (hb hby at_195) rfl (l' := #[.val (.int i0), .val (.int i1), .val (.int i2), .val (.int i3), .val (.int i4), .val (.int i5), .val (.int (2 : Int32)), .val (.int (0 : Int32)), .val (.ref ex), .val (.ref s1), .val (.int i0), .val (.ref r0), .val (.int (1 : Int32))]) rfl (XS.iload X29.here hx rfl (hb hby at_197) rfl (XS.iconst X29.here hx rfl (hb hby at_199) wk))))) ?_
      show Fin1 p e below s (rm0Q Z i0 i1 i2 i3 i4 i5 h0 n0) room_1.cells room_1.slots (T29.setTop (mkF m 200 #[.val (.int i0), .val (.int i1), .val (.int i2), .val (.int i3), .val (.int i4), .val (.int i5), .val (.int (2 : Int32)), .val (.int (0 : Int32)), .val (.ref ex), .val (.ref s1), .val (.int i0), .val (.ref r0), .val (.int (1 : Int32))] [(.int (1 : Int32)), (.int (2 : Int32))]))
      refine own_st (fun wt wk => XS.icmpNo X29.here hx rfl (hb hby at_200) rfl (tlt (by decide)).2.2.2 wk) ?_
      show Fin1 p e below s (rm0Q Z i0 i1 i2 i3 i4 i5 h0 n0) room_1.cells room_1.slots (T29.setTop (mkF m 203 #[.val (.int i0), .val (.int i1), .val (.int i2), .val (.int i3), .val (.int i4), .val (.int i5), .val (.int (2 : Int32)), .val (.int (0 : Int32)), .val (.ref ex), .val (.ref s1), .val (.int i0), .val (.ref r0), .val (.int (1 : Int32))] []))
      refine own_st (fun wt wk => XS.iload X29.here hx rfl (hb hby at_203) rfl wk) ?_
      show Fin1 p e below s (rm0Q Z i0 i1 i2 i3 i4 i5 h0 n0) room_1.cells room_1.slots (T29.setTop (mkF m 205 #[.val (.int i0), .val (.int i1), .val (.int i2), .val (.int i3), .val (.int i4), .val (.int i5), .val (.int (2 : Int32)), .val (.int (0 : Int32)), .val (.ref ex), .val (.ref s1), .val (.int i0), .val (.ref r0), .val (.int (1 : Int32))] [(.int (1 : Int32))]))
      refine own_st (fun wt wk => XS.ifNo X29.here hx rfl (hb hby at_205) rfl ((if0 _ _).trans (feq (by decide)).1) wk) ?_
      show Fin1 p e below s (rm0Q Z i0 i1 i2 i3 i4 i5 h0 n0) room_1.cells room_1.slots (T29.setTop (mkF m 208 #[.val (.int i0), .val (.int i1), .val (.int i2), .val (.int i3), .val (.int i4), .val (.int i5), .val (.int (2 : Int32)), .val (.int (0 : Int32)), .val (.ref ex), .val (.ref s1), .val (.int i0), .val (.ref r0), .val (.int (1 : Int32))] []))
      refine own_st (fun wt wk => XS.aload X29.here hx rfl (hb hby at_208) rfl rfl (XS.iconst X29.here hx rfl (hb hby at_210) wk)) ?_
      show Fin1 p e below s (rm0Q Z i0 i1 i2 i3 i4 i5 h0 n0) room_1.cells room_1.slots (T29.setTop (mkF m 211 #[.val (.int i0), .val (.int i1), .val (.int i2), .val (.int i3), .val (.int i4), .val (.int i5), .val (.int (2 : Int32)), .val (.int (0 : Int32)), .val (.ref ex), .val (.ref s1), .val (.int i0), .val (.ref r0), .val (.int (1 : Int32))] [(.int (1 : Int32)), (.ref s1)]))
      obtain ⟨v30, T30, h30, L30, X30, e30, hQ30, st30⟩ := own_virtual X29 hx hZ hown (hw _ (List.mem_of_getElem? (i := 83) rfl)) (hw _ (List.mem_of_getElem? (i := 84) rfl)) (hw _ (List.mem_of_getElem? (i := 86) rfl)) (hw _ (List.mem_of_getElem? (i := 85) rfl)) (hw _ (List.mem_of_getElem? (i := 87) rfl)) (hw _ (List.mem_of_getElem? (i := 4) rfl)) (by decide) (a := s1) E_s1 (rmG21 l Z a0 hw s1 q1 r1 h23 n0 Z0 E_s1 Ss1 Ts1 Eq1) e29 (g := (mkF m 211 #[.val (.int i0), .val (.int i1), .val (.int i2), .val (.int i3), .val (.int i4), .val (.int i5), .val (.int (2 : Int32)), .val (.int (0 : Int32)), .val (.ref ex), .val (.ref s1), .val (.int i0), .val (.ref r0), .val (.int (1 : Int32))] [(.int (1 : Int32)), (.ref s1)])) rfl (by rw [hml]; rfl) (argsL := [(.int (1 : Int32))]) (rest := []) (lenOf pd_17 rfl) rfl (W := 0) (by show 2 * 0 + _ ≤ _; exact Nat.le_of_eq rfl) (hb hby at_211) (by decide) (by decide) (by decide) (by decide)
      obtain ⟨rfl, N30q, hh30⟩ := hQ30
      have N30 := Fr.app N29 N30q
      rw [hh30] at e30
      refine own_st st30 ?_
      show Fin1 p e below s (rm0Q Z i0 i1 i2 i3 i4 i5 h0 n0) room_1.cells room_1.slots (T30.setTop (mkF m 214 #[.val (.int i0), .val (.int i1), .val (.int i2), .val (.int i3), .val (.int i4), .val (.int i5), .val (.int (2 : Int32)), .val (.int (0 : Int32)), .val (.ref ex), .val (.ref s1), .val (.int i0), .val (.ref r0), .val (.int (1 : Int32))] [(.ref r1)]))
      obtain ⟨T31, X31, e31, st31⟩ := castY X30 hx hZ hown (hw _ (List.mem_of_getElem? (i := 65) rfl)) e30 (Ins.self E_r1) (g := (mkF m 214 #[.val (.int i0), .val (.int i1), .val (.int i2), .val (.int i3), .val (.int i4), .val (.int i5), .val (.int (2 : Int32)), .val (.int (0 : Int32)), .val (.ref ex), .val (.ref s1), .val (.int i0), .val (.ref r0), .val (.int (1 : Int32))] [(.ref r1)])) rfl rfl (hb hby at_214)
      refine own_st st31 ?_
      show Fin1 p e below s (rm0Q Z i0 i1 i2 i3 i4 i5 h0 n0) room_1.cells room_1.slots (T31.setTop (mkF m 217 #[.val (.int i0), .val (.int i1), .val (.int i2), .val (.int i3), .val (.int i4), .val (.int i5), .val (.int (2 : Int32)), .val (.int (0 : Int32)), .val (.ref ex), .val (.ref s1), .val (.int i0), .val (.ref r0), .val (.int (1 : Int32))] [(.ref r1)]))
      refine own_st (fun wt wk => XS.aload X31.here hx rfl (hb hby at_217) rfl rfl (XS.iconst X31.here hx rfl (hb hby at_219) wk)) ?_
      show Fin1 p e below s (rm0Q Z i0 i1 i2 i3 i4 i5 h0 n0) room_1.cells room_1.slots (T31.setTop (mkF m 220 #[.val (.int i0), .val (.int i1), .val (.int i2), .val (.int i3), .val (.int i4), .val (.int i5), .val (.int (2 : Int32)), .val (.int (0 : Int32)), .val (.ref ex), .val (.ref s1), .val (.int i0), .val (.ref r0), .val (.int (1 : Int32))] [(.int (1 : Int32)), (.ref ex), (.ref r1)]))
      refine own_st (own_ld (j := (1 : Int32)) (v := (.int i1)) X31 hx hZ e31 V_ex ⟨by decide, by decide⟩ rfl (g := (mkF m 220 #[.val (.int i0), .val (.int i1), .val (.int i2), .val (.int i3), .val (.int i4), .val (.int i5), .val (.int (2 : Int32)), .val (.int (0 : Int32)), .val (.ref ex), .val (.ref s1), .val (.int i0), .val (.ref r0), .val (.int (1 : Int32))] [(.int (1 : Int32)), (.ref ex), (.ref r1)])) rfl rfl (Or.inl ⟨rfl, rfl⟩) (hb hby at_220)) ?_
      show Fin1 p e below s (rm0Q Z i0 i1 i2 i3 i4 i5 h0 n0) room_1.cells room_1.slots (T31.setTop (mkF m 221 #[.val (.int i0), .val (.int i1), .val (.int i2), .val (.int i3), .val (.int i4), .val (.int i5), .val (.int (2 : Int32)), .val (.int (0 : Int32)), .val (.ref ex), .val (.ref s1), .val (.int i0), .val (.ref r0), .val (.int (1 : Int32))] [(.int i1), (.ref r1)]))
      obtain ⟨v32, T32, h32, L32, X32, e32, hQ32, st32⟩ := own_static X31 hx hZ hown (hw _ (List.mem_of_getElem? (i := 67) rfl)) (hw _ (List.mem_of_getElem? (i := 68) rfl)) (hw _ (List.mem_of_getElem? (i := 69) rfl)) (hw _ (List.mem_of_getElem? (i := 70) rfl)) (by decide) (rmEq l Z a0 hw r1 i1 h23 n0 Z0 E_r1 V_r1) e31 (g := (mkF m 221 #[.val (.int i0), .val (.int i1), .val (.int i2), .val (.int i3), .val (.int i4), .val (.int i5), .val (.int (2 : Int32)), .val (.int (0 : Int32)), .val (.ref ex), .val (.ref s1), .val (.int i0), .val (.ref r0), .val (.int (1 : Int32))] [(.int i1), (.ref r1)])) rfl (by rw [hml]; rfl) (argsL := [(.ref r1), (.int i1)]) (rest := []) (lenOf pd_16 rfl) rfl (W := 0) (by show 2 * 0 + _ ≤ _; exact Nat.le_of_eq rfl) (hb hby at_221) (by decide) (by decide) (by decide) (by decide)
      obtain ⟨rfl, N32q, hh32⟩ := hQ32
      have N32 := Fr.app N30 N32q
      rw [hh32] at e32
      refine own_st st32 ?_
      show Fin1 p e below s (rm0Q Z i0 i1 i2 i3 i4 i5 h0 n0) room_1.cells room_1.slots (T32.setTop (mkF m 224 #[.val (.int i0), .val (.int i1), .val (.int i2), .val (.int i3), .val (.int i4), .val (.int i5), .val (.int (2 : Int32)), .val (.int (0 : Int32)), .val (.ref ex), .val (.ref s1), .val (.int i0), .val (.ref r0), .val (.int (1 : Int32))] [(.int (1 : Int32))]))
      refine own_st (fun wt wk => XS.ifNo X32.here hx rfl (hb hby at_224) rfl ((if0 _ _).trans (feq (by decide)).1) wk) ?_
      show Fin1 p e below s (rm0Q Z i0 i1 i2 i3 i4 i5 h0 n0) room_1.cells room_1.slots (T32.setTop (mkF m 227 #[.val (.int i0), .val (.int i1), .val (.int i2), .val (.int i3), .val (.int i4), .val (.int i5), .val (.int (2 : Int32)), .val (.int (0 : Int32)), .val (.ref ex), .val (.ref s1), .val (.int i0), .val (.ref r0), .val (.int (1 : Int32))] []))
      refine own_st (fun wt wk => XS.iconst X32.here hx rfl (hb hby at_227) (XS.goto X32.here hx rfl (pc0 := 228) (pc' := 232) rfl (hb hby at_228) (by decide) (by decide) (XS.istore X32.here hx rfl (hb hby at_232) rfl (l' := #[.val (.int i0), .val (.int i1), .val (.int i2), .val (.int i3), .val (.int i4), .val (.int i5), .val (.int (2 : Int32)), .val (.int (0 : Int32)), .val (.ref ex), .val (.ref s1), .val (.int i0), .val (.ref r0), .val (.int (1 : Int32))]) rfl (XS.iload X32.here hx rfl (hb hby at_234) rfl (XS.iconst X32.here hx rfl (hb hby at_236) wk))))) ?_
      show Fin1 p e below s (rm0Q Z i0 i1 i2 i3 i4 i5 h0 n0) room_1.cells room_1.slots (T32.setTop (mkF m 237 #[.val (.int i0), .val (.int i1), .val (.int i2), .val (.int i3), .val (.int i4), .val (.int i5), .val (.int (2 : Int32)), .val (.int (0 : Int32)), .val (.ref ex), .val (.ref s1), .val (.int i0), .val (.ref r0), .val (.int (1 : Int32))] [(.int (2 : Int32)), (.int (2 : Int32))]))
      refine own_st (fun wt wk => XS.icmpYes X32.here hx rfl (pc0 := 237) (pc' := 271) rfl (hb hby at_237) rfl (flt (by decide)).2.2.2 (by decide) (by decide) wk) ?_
      show Fin1 p e below s (rm0Q Z i0 i1 i2 i3 i4 i5 h0 n0) room_1.cells room_1.slots (T32.setTop (mkF m 271 #[.val (.int i0), .val (.int i1), .val (.int i2), .val (.int i3), .val (.int i4), .val (.int i5), .val (.int (2 : Int32)), .val (.int (0 : Int32)), .val (.ref ex), .val (.ref s1), .val (.int i0), .val (.ref r0), .val (.int (1 : Int32))] []))
      refine own_st (fun wt wk => XS.iload X32.here hx rfl (hb hby at_271) rfl (XS.iconst X32.here hx rfl (hb hby at_273) wk)) ?_
      show Fin1 p e below s (rm0Q Z i0 i1 i2 i3 i4 i5 h0 n0) room_1.cells room_1.slots (T32.setTop (mkF m 274 #[.val (.int i0), .val (.int i1), .val (.int i2), .val (.int i3), .val (.int i4), .val (.int i5), .val (.int (2 : Int32)), .val (.int (0 : Int32)), .val (.ref ex), .val (.ref s1), .val (.int i0), .val (.ref r0), .val (.int (1 : Int32))] [(.int (3 : Int32)), (.int (2 : Int32))]))
      refine own_st (fun wt wk => XS.icmpYes X32.here hx rfl (pc0 := 274) (pc' := 308) rfl (hb hby at_274) rfl (flt (by decide)).2.2.2 (by decide) (by decide) wk) ?_
      show Fin1 p e below s (rm0Q Z i0 i1 i2 i3 i4 i5 h0 n0) room_1.cells room_1.slots (T32.setTop (mkF m 308 #[.val (.int i0), .val (.int i1), .val (.int i2), .val (.int i3), .val (.int i4), .val (.int i5), .val (.int (2 : Int32)), .val (.int (0 : Int32)), .val (.ref ex), .val (.ref s1), .val (.int i0), .val (.ref r0), .val (.int (1 : Int32))] []))
      refine own_st (fun wt wk => XS.iload X32.here hx rfl (hb hby at_308) rfl wk) ?_
      show Fin1 p e below s (rm0Q Z i0 i1 i2 i3 i4 i5 h0 n0) room_1.cells room_1.slots (T32.setTop (mkF m 310 #[.val (.int i0), .val (.int i1), .val (.int i2), .val (.int i3), .val (.int i4), .val (.int i5), .val (.int (2 : Int32)), .val (.int (0 : Int32)), .val (.ref ex), .val (.ref s1), .val (.int i0), .val (.ref r0), .val (.int (1 : Int32))] [(.int (1 : Int32))]))
      exact own_retZ X32 hx hlk hret (hb hby at_310) (z := (1 : Int32)) (by decide) (by rw [e32]; exact ⟨rfl, N32⟩) (by decide) (by decide)
    · show Fin1 p e below s (rm0Q Z i0 i1 i2 i3 i4 i5 h0 n0) room_1.cells room_1.slots (T20.setTop (mkF m 112 #[.val (.int i0), .val (.int i1), .val (.int i2), .val (.int i3), .val (.int i4), .val (.int i5), .val (.int (2 : Int32)), .val (.int (1 : Int32)), .val (.ref ex), .val (.ref s1), .unset, .unset, .unset] [(.int (1 : Int32)), (.ref ex)]))
      refine own_st (own_ld (j := (1 : Int32)) (v := (.int i1)) X20 hx hZ e20 V_ex ⟨by decide, by decide⟩ rfl (g := (mkF m 112 #[.val (.int i0), .val (.int i1), .val (.int i2), .val (.int i3), .val (.int i4), .val (.int i5), .val (.int (2 : Int32)), .val (.int (1 : Int32)), .val (.ref ex), .val (.ref s1), .unset, .unset, .unset] [(.int (1 : Int32)), (.ref ex)])) rfl rfl (Or.inl ⟨rfl, rfl⟩) (hb hby at_112)) ?_
      show Fin1 p e below s (rm0Q Z i0 i1 i2 i3 i4 i5 h0 n0) room_1.cells room_1.slots (T20.setTop (mkF m 113 #[.val (.int i0), .val (.int i1), .val (.int i2), .val (.int i3), .val (.int i4), .val (.int i5), .val (.int (2 : Int32)), .val (.int (1 : Int32)), .val (.ref ex), .val (.ref s1), .unset, .unset, .unset] [(.int i1)]))
      refine own_st (fun wt wk => XS.istore X20.here hx rfl (hb hby at_113) rfl (l' := #[.val (.int i0), .val (.int i1), .val (.int i2), .val (.int i3), .val (.int i4), .val (.int i5), .val (.int (2 : Int32)), .val (.int (1 : Int32)), .val (.ref ex), .val (.ref s1), .val (.int i1), .unset, .unset]) rfl (XS.aload X20.here hx rfl (hb hby at_115) rfl rfl (XS.iload X20.here hx rfl (hb hby at_117) rfl (XS.iload X20.here hx rfl (hb hby at_119) rfl wk)))) ?_
      show Fin1 p e below s (rm0Q Z i0 i1 i2 i3 i4 i5 h0 n0) room_1.cells room_1.slots (T20.setTop (mkF m 121 #[.val (.int i0), .val (.int i1), .val (.int i2), .val (.int i3), .val (.int i4), .val (.int i5), .val (.int (2 : Int32)), .val (.int (1 : Int32)), .val (.ref ex), .val (.ref s1), .val (.int i1), .unset, .unset] [(.int i4), (.int (1 : Int32)), (.ref ex)]))
      obtain ⟨T33, h33, X33, e33, W33, U33, st33⟩ := own_stI (j := (1 : Int32)) X20 hx hZ e20 V_ex ⟨by decide, by decide⟩ 1 rfl (by simp) (g := (mkF m 121 #[.val (.int i0), .val (.int i1), .val (.int i2), .val (.int i3), .val (.int i4), .val (.int i5), .val (.int (2 : Int32)), .val (.int (1 : Int32)), .val (.ref ex), .val (.ref s1), .val (.int i1), .unset, .unset] [(.int i4), (.int (1 : Int32)), (.ref ex)])) rfl rfl (hb hby at_121)
      have N33 := Fr.snoc X33 N20 g_ex
      have Z0 := Nat.le_trans Z0 (Nat.le_of_eq W33.size.symm)
      have O := O.wr W33 g_ex
      have E_s1 := E_s1.wr W33
      have E_r0 := E_r0.wr W33
      have V_r0 := V_r0.other W33 (Or.inl ne_r0_ex)
      have E_q0 := E_q0.wr W33
      have E_r1 := E_r1.wr W33
      have V_r1 := V_r1.other W33 (Or.inl ne_r1_ex)
      have E_q1 := E_q1.wr W33
      have Hs1 := Hs1.other W33 (Or.inl (Ne.symm ne_ex_s1))
      have Ts1 := Ts1.other W33 (Or.inl (Ne.symm ne_ex_s1))
      have Ss1 := Ss1.other W33 (Or.inl (Ne.symm ne_ex_s1))
      have Eq0 := Eq0.other W33 (Or.inl (Ne.symm ne_ex_q0))
      have Pq0 := Pq0.other W33 (Or.inl (Ne.symm ne_ex_q0))
      have Nq0 := Nq0.other W33 (Or.inl (Ne.symm ne_ex_q0))
      have Eq1 := Eq1.other W33 (Or.inl (Ne.symm ne_ex_q1))
      have Pq1 := Pq1.other W33 (Or.inl (Ne.symm ne_ex_q1))
      have Nq1 := Nq1.other W33 (Or.inl (Ne.symm ne_ex_q1))
      have V_ex : Arv Z h33 ex kc1 .int (4 : Int32) [(.int i0), (.int i4), (.int i2), (.int i3)] (.int (0 : Int32)) := U33
      refine own_st st33 ?_
      show Fin1 p e below s (rm0Q Z i0 i1 i2 i3 i4 i5 h0 n0) room_1.cells room_1.slots (T33.setTop (mkF m 122 #[.val (.int i0), .val (.int i1), .val (.int i2), .val (.int i3), .val (.int i4), .val (.int i5), .val (.int (2 : Int32)), .val (.int (1 : Int32)), .val (.ref ex), .val (.ref s1), .val (.int i1), .unset, .unset] []))
      refine own_st (fun wt wk => XS.aload X33.here hx rfl (hb hby at_122) rfl rfl (XS.iload X33.here hx rfl (hb hby at_124) rfl (XS.iload X33.here hx rfl (hb hby at_126) rfl wk))) ?_
      show Fin1 p e below s (rm0Q Z i0 i1 i2 i3 i4 i5 h0 n0) room_1.cells room_1.slots (T33.setTop (mkF m 128 #[.val (.int i0), .val (.int i1), .val (.int i2), .val (.int i3), .val (.int i4), .val (.int i5), .val (.int (2 : Int32)), .val (.int (1 : Int32)), .val (.ref ex), .val (.ref s1), .val (.int i1), .unset, .unset] [(.int i4), (.int (1 : Int32)), (.ref s1)]))
      obtain ⟨v34, T34, h34, L34, X34, e34, hQ34, st34⟩ := own_static X33 hx hZ hown (hw _ (List.mem_of_getElem? (i := 16) rfl)) (hw _ (List.mem_of_getElem? (i := 17) rfl)) (hw _ (List.mem_of_getElem? (i := 18) rfl)) (hw _ (List.mem_of_getElem? (i := 19) rfl)) (by decide) (rmV l Z a0 hw i4 h33 n0 Z0 O hic) e33 (g := (mkF m 128 #[.val (.int i0), .val (.int i1), .val (.int i2), .val (.int i3), .val (.int i4), .val (.int i5), .val (.int (2 : Int32)), .val (.int (1 : Int32)), .val (.ref ex), .val (.ref s1), .val (.int i1), .unset, .unset] [(.int i4), (.int (1 : Int32)), (.ref s1)])) rfl (by rw [hml]; rfl) (argsL := [(.int i4)]) (rest := [(.int (1 : Int32)), (.ref s1)]) (lenOf pd_13 rfl) rfl (W := 2) (by show 2 * 0 + _ ≤ _; exact Nat.le_of_eq rfl) (hb hby at_128) (by decide) (by decide) (by decide) (by decide)
      obtain ⟨re, rfl, N34q, K34, E_re, V_re⟩ := hQ34
      have N34 := Fr.app N33 N34q
      have Z0 := Nat.le_trans Z0 K34.1
      have O := O.keep K34 all0
      have V_ex := V_ex.keep K34 nin0
      have E_s1 := E_s1.keep K34
      have E_r0 := E_r0.keep K34
      have V_r0 := V_r0.keep K34 nin0
      have E_q0 := E_q0.keep K34
      have E_r1 := E_r1.keep K34
      have V_r1 := V_r1.keep K34 nin0
      have E_q1 := E_q1.keep K34
      have Hs1 := Hs1.keep K34 nin0
      have Ts1 := Ts1.keep K34 nin0
      have Ss1 := Ss1.keep K34 nin0
      have Eq0 := Eq0.keep K34 nin0
      have Pq0 := Pq0.keep K34 nin0
      have Nq0 := Nq0.keep K34 nin0
      have Eq1 := Eq1.keep K34 nin0
      have Pq1 := Pq1.keep K34 nin0
      have Nq1 := Nq1.keep K34 nin0
      refine own_st st34 ?_
      show Fin1 p e below s (rm0Q Z i0 i1 i2 i3 i4 i5 h0 n0) room_1.cells room_1.slots (T34.setTop (mkF m 131 #[.val (.int i0), .val (.int i1), .val (.int i2), .val (.int i3), .val (.int i4), .val (.int i5), .val (.int (2 : Int32)), .val (.int (1 : Int32)), .val (.ref ex), .val (.ref s1), .val (.int i1), .unset, .unset] [(.ref re), (.int (1 : Int32)), (.ref s1)]))
      have ne_re_ex : re ≠ ex := own_ne_arv E_re (hw _ (List.mem_of_getElem? (i := 89) rfl)) V_ex
      have ne_re_s1 : re ≠ s1 := ne_exa E_re E_s1 (by decide)
      have ne_re_q0 : re ≠ q0 := ne_exa E_re E_q0 (by decide)
      have ne_re_q1 : re ≠ q1 := ne_exa E_re E_q1 (by decide)
      obtain ⟨v35, T35, h35, L35, X35, e35, hQ35, st35⟩ := own_virtual X34 hx hZ hown (hw _ (List.mem_of_getElem? (i := 59) rfl)) (hw _ (List.mem_of_getElem? (i := 60) rfl)) (hw _ (List.mem_of_getElem? (i := 62) rfl)) (hw _ (List.mem_of_getElem? (i := 61) rfl)) (hw _ (List.mem_of_getElem? (i := 63) rfl)) (hw _ (List.mem_of_getElem? (i := 4) rfl)) (by decide) (a := s1) E_s1 (rmT21 l Z a0 hw s1 re q1 r1 (.ref q0) .null h34 n0 Z0 g_q1 E_s1 E_q1 Ss1 Ts1 Eq1 Pq1 Nq1) e34 (g := (mkF m 131 #[.val (.int i0), .val (.int i1), .val (.int i2), .val (.int i3), .val (.int i4), .val (.int i5), .val (.int (2 : Int32)), .val (.int (1 : Int32)), .val (.ref ex), .val (.ref s1), .val (.int i1), .unset, .unset] [(.ref re), (.int (1 : Int32)), (.ref s1)])) rfl (by rw [hml]; rfl) (argsL := [(.int (1 : Int32)), (.ref re)]) (rest := []) (lenOf pd_15 rfl) rfl (W := 0) (by show 2 * 0 + _ ≤ _; exact Nat.le_of_eq rfl) (hb hby at_131) (by decide) (by decide) (by decide) (by decide)
      obtain ⟨rfl, N35q, K35, Eq1, Pq1, Nq1⟩ := hQ35
      have N35 := Fr.app N34 N35q
      have Z0 := Nat.le_trans Z0 K35.1
      have O := O.keep K35 (allS (P := fun x => n0 ≤ x) g_q1 all0)
      have V_ex := V_ex.keep K35 (ninS ne_ex_q1 nin0)
      have E_s1 := E_s1.keep K35
      have E_r0 := E_r0.keep K35
      have V_r0 := V_r0.keep K35 (ninS ne_r0_q1 nin0)
      have E_q0 := E_q0.keep K35
      have E_r1 := E_r1.keep K35
      have V_r1 := V_r1.keep K35 (ninS ne_r1_q1 nin0)
      have E_q1 := E_q1.keep K35
      have Hs1 := Hs1.keep K35 (ninS ne_s1_q1 nin0)
      have Ts1 := Ts1.keep K35 (ninS ne_s1_q1 nin0)
      have Ss1 := Ss1.keep K35 (ninS ne_s1_q1 nin0)
      have Eq0 := Eq0.keep K35 (ninS ne_q0_q1 nin0)
      have Pq0 := Pq0.keep K35 (ninS ne_q0_q1 nin0)
      have Nq0 := Nq0.keep K35 (ninS ne_q0_q1 nin0)
      have E_re := E_re.keep K35
      have V_re := V_re.keep K35 (ninS ne_re_q1 nin0)
      refine own_st st35 ?_
      show Fin1 p e below s (rm0Q Z i0 i1 i2 i3 i4 i5 h0 n0) room_1.cells room_1.slots (T35.setTop (mkF m 134 #[.val (.int i0), .val (.int i1), .val (.int i2), .val (.int i3), .val (.int i4), .val (.int i5), .val (.int (2 : Int32)), .val (.int (1 : Int32)), .val (.ref ex), .val (.ref s1), .val (.int i1), .unset, .unset] [(.ref r1)]))
      obtain ⟨T36, X36, e36, st36⟩ := castY X35 hx hZ hown (hw _ (List.mem_of_getElem? (i := 65) rfl)) e35 (Ins.self E_r1) (g := (mkF m 134 #[.val (.int i0), .val (.int i1), .val (.int i2), .val (.int i3), .val (.int i4), .val (.int i5), .val (.int (2 : Int32)), .val (.int (1 : Int32)), .val (.ref ex), .val (.ref s1), .val (.int i1), .unset, .unset] [(.ref r1)])) rfl rfl (hb hby at_134)
      refine own_st st36 ?_
      show Fin1 p e below s (rm0Q Z i0 i1 i2 i3 i4 i5 h0 n0) room_1.cells room_1.slots (T36.setTop (mkF m 137 #[.val (.int i0), .val (.int i1), .val (.int i2), .val (.int i3), .val (.int i4), .val (.int i5), .val (.int (2 : Int32)), .val (.int (1 : Int32)), .val (.ref ex), .val (.ref s1), .val (.int i1), .unset, .unset] [(.ref r1)]))
      refine own_st (fun wt wk => XS.astore X36.here hx rfl (hb hby at_137) rfl rfl (l' := #[.val (.int i0), .val (.int i1), .val (.int i2), .val (.int i3), .val (.int i4), .val (.int i5), .val (.int (2 : Int32)), .val (.int (1 : Int32)), .val (.ref ex), .val (.ref s1), .val (.int i1), .val (.ref r1), .unset]) rfl (XS.aload X36.here hx rfl (hb hby at_139) rfl rfl (XS.iload X36.here hx rfl (hb hby at_141) rfl wk))) ?_
      show Fin1 p e below s (rm0Q Z i0 i1 i2 i3 i4 i5 h0 n0) room_1.cells room_1.slots (T36.setTop (mkF m 143 #[.val (.int i0), .val (.int i1), .val (.int i2), .val (.int i3), .val (.int i4), .val (.int i5), .val (.int (2 : Int32)), .val (.int (1 : Int32)), .val (.ref ex), .val (.ref s1), .val (.int i1), .val (.ref r1), .unset] [(.int i1), (.ref r1)]))
      obtain ⟨v37, T37, h37, L37, X37, e37, hQ37, st37⟩ := own_static X36 hx hZ hown (hw _ (List.mem_of_getElem? (i := 67) rfl)) (hw _ (List.mem_of_getElem? (i := 68) rfl)) (hw _ (List.mem_of_getElem? (i := 69) rfl)) (hw _ (List.mem_of_getElem? (i := 70) rfl)) (by decide) (rmEq l Z a0 hw r1 i1 h35 n0 Z0 E_r1 V_r1) e36 (g := (mkF m 143 #[.val (.int i0), .val (.int i1), .val (.int i2), .val (.int i3), .val (.int i4), .val (.int i5), .val (.int (2 : Int32)), .val (.int (1 : Int32)), .val (.ref ex), .val (.ref s1), .val (.int i1), .val (.ref r1), .unset] [(.int i1), (.ref r1)])) rfl (by rw [hml]; rfl) (argsL := [(.ref r1), (.int i1)]) (rest := []) (lenOf pd_16 rfl) rfl (W := 0) (by show 2 * 0 + _ ≤ _; exact Nat.le_of_eq rfl) (hb hby at_143) (by decide) (by decide) (by decide) (by decide)
      obtain ⟨rfl, N37q, hh37⟩ := hQ37
      have N37 := Fr.app N35 N37q
      rw [hh37] at e37
      refine own_st st37 ?_
      show Fin1 p e below s (rm0Q Z i0 i1 i2 i3 i4 i5 h0 n0) room_1.cells room_1.slots (T37.setTop (mkF m 146 #[.val (.int i0), .val (.int i1), .val (.int i2), .val (.int i3), .val (.int i4), .val (.int i5), .val (.int (2 : Int32)), .val (.int (1 : Int32)), .val (.ref ex), .val (.ref s1), .val (.int i1), .val (.ref r1), .unset] [(.int (1 : Int32))]))
      refine own_st (fun wt wk => XS.ifNo X37.here hx rfl (hb hby at_146) rfl ((if0 _ _).trans (feq (by decide)).1) wk) ?_
      show Fin1 p e below s (rm0Q Z i0 i1 i2 i3 i4 i5 h0 n0) room_1.cells room_1.slots (T37.setTop (mkF m 149 #[.val (.int i0), .val (.int i1), .val (.int i2), .val (.int i3), .val (.int i4), .val (.int i5), .val (.int (2 : Int32)), .val (.int (1 : Int32)), .val (.ref ex), .val (.ref s1), .val (.int i1), .val (.ref r1), .unset] []))
      refine own_st (fun wt wk => XS.aload X37.here hx rfl (hb hby at_149) rfl rfl wk) ?_
      show Fin1 p e below s (rm0Q Z i0 i1 i2 i3 i4 i5 h0 n0) room_1.cells room_1.slots (T37.setTop (mkF m 151 #[.val (.int i0), .val (.int i1), .val (.int i2), .val (.int i3), .val (.int i4), .val (.int i5), .val (.int (2 : Int32)), .val (.int (1 : Int32)), .val (.ref ex), .val (.ref s1), .val (.int i1), .val (.ref r1), .unset] [(.ref s1)]))
      obtain ⟨v38, T38, h38, L38, X38, e38, hQ38, st38⟩ := own_virtual X37 hx hZ hown (hw _ (List.mem_of_getElem? (i := 78) rfl)) (hw _ (List.mem_of_getElem? (i := 79) rfl)) (hw _ (List.mem_of_getElem? (i := 81) rfl)) (hw _ (List.mem_of_getElem? (i := 80) rfl)) (hw _ (List.mem_of_getElem? (i := 82) rfl)) (hw _ (List.mem_of_getElem? (i := 4) rfl)) (by decide) (a := s1) E_s1 (rmZ l Z a0 hw s1 (2 : Int32) h35 n0 Z0 Ss1) e37 (g := (mkF m 151 #[.val (.int i0), .val (.int i1), .val (.int i2), .val (.int i3), .val (.int i4), .val (.int i5), .val (.int (2 : Int32)), .val (.int (1 : Int32)), .val (.ref ex), .val (.ref s1), .val (.int i1), .val (.ref r1), .unset] [(.ref s1)])) rfl (by rw [hml]; rfl) (argsL := []) (rest := []) (lenOf pd_12 rfl) rfl (W := 0) (by show 2 * 0 + _ ≤ _; exact Nat.le_of_eq rfl) (hb hby at_151) (by decide) (by decide) (by decide) (by decide)
      obtain ⟨rfl, N38q, hh38⟩ := hQ38
      have N38 := Fr.app N37 N38q
      rw [hh38] at e38
      refine own_st st38 ?_
      show Fin1 p e below s (rm0Q Z i0 i1 i2 i3 i4 i5 h0 n0) room_1.cells room_1.slots (T38.setTop (mkF m 154 #[.val (.int i0), .val (.int i1), .val (.int i2), .val (.int i3), .val (.int i4), .val (.int i5), .val (.int (2 : Int32)), .val (.int (1 : Int32)), .val (.ref ex), .val (.ref s1), .val (.int i1), .val (.ref r1), .unset] [(.int (2 : Int32))]))
      refine own_st (fun wt wk => XS.iload X38.here hx rfl (hb hby at_154) rfl wk) ?_
      show Fin1 p e below s (rm0Q Z i0 i1 i2 i3 i4 i5 h0 n0) room_1.cells room_1.slots (T38.setTop (mkF m 156 #[.val (.int i0), .val (.int i1), .val (.int i2), .val (.int i3), .val (.int i4), .val (.int i5), .val (.int (2 : Int32)), .val (.int (1 : Int32)), .val (.ref ex), .val (.ref s1), .val (.int i1), .val (.ref r1), .unset] [(.int (2 : Int32)), (.int (2 : Int32))]))
      refine own_st (fun wt wk => XS.icmpNo X38.here hx rfl (hb hby at_156) rfl (teq (by decide)).2 wk) ?_
      show Fin1 p e below s (rm0Q Z i0 i1 i2 i3 i4 i5 h0 n0) room_1.cells room_1.slots (T38.setTop (mkF m 159 #[.val (.int i0), .val (.int i1), .val (.int i2), .val (.int i3), .val (.int i4), .val (.int i5), .val (.int (2 : Int32)), .val (.int (1 : Int32)), .val (.ref ex), .val (.ref s1), .val (.int i1), .val (.ref r1), .unset] []))
      refine own_st (fun wt wk => XS.iconst X38.here hx rfl (hb hby at_159) (XS.goto X38.here hx rfl (pc0 := 160) (pc' := 164) rfl (hb hby at_160) (by decide) (by decide) (XS.istore X38.here hx rfl (hb hby at_164) rfl (l' := #[.val (.int i0), .val (.int i1), .val (.int i2), .val (.int i3), .val (.int i4), .val (.int i5), .val (.int (2 : Int32)), .val (.int (1 : Int32)), .val (.ref ex), .val (.ref s1), .val (.int i1), .val (.ref r1), .val (.int (1 : Int32))]) rfl (XS.iload X38.here hx rfl (hb hby at_166) rfl wk)))) ?_
      show Fin1 p e below s (rm0Q Z i0 i1 i2 i3 i4 i5 h0 n0) room_1.cells room_1.slots (T38.setTop (mkF m 168 #[.val (.int i0), .val (.int i1), .val (.int i2), .val (.int i3), .val (.int i4), .val (.int i5), .val (.int (2 : Int32)), .val (.int (1 : Int32)), .val (.ref ex), .val (.ref s1), .val (.int i1), .val (.ref r1), .val (.int (1 : Int32))] [(.int (1 : Int32))]))
      refine own_st (fun wt wk => XS.ifNo X38.here hx rfl (hb hby at_168) rfl ((if0 _ _).trans (feq (by decide)).1) wk) ?_
      show Fin1 p e below s (rm0Q Z i0 i1 i2 i3 i4 i5 h0 n0) room_1.cells room_1.slots (T38.setTop (mkF m 171 #[.val (.int i0), .val (.int i1), .val (.int i2), .val (.int i3), .val (.int i4), .val (.int i5), .val (.int (2 : Int32)), .val (.int (1 : Int32)), .val (.ref ex), .val (.ref s1), .val (.int i1), .val (.ref r1), .val (.int (1 : Int32))] []))
      refine own_st (fun wt wk => XS.aload X38.here hx rfl (hb hby at_171) rfl rfl (XS.iconst X38.here hx rfl (hb hby at_173) wk)) ?_
      show Fin1 p e below s (rm0Q Z i0 i1 i2 i3 i4 i5 h0 n0) room_1.cells room_1.slots (T38.setTop (mkF m 174 #[.val (.int i0), .val (.int i1), .val (.int i2), .val (.int i3), .val (.int i4), .val (.int i5), .val (.int (2 : Int32)), .val (.int (1 : Int32)), .val (.ref ex), .val (.ref s1), .val (.int i1), .val (.ref r1), .val (.int (1 : Int32))] [(.int (0 : Int32)), (.ref s1)]))
      obtain ⟨v39, T39, h39, L39, X39, e39, hQ39, st39⟩ := own_virtual X38 hx hZ hown (hw _ (List.mem_of_getElem? (i := 83) rfl)) (hw _ (List.mem_of_getElem? (i := 84) rfl)) (hw _ (List.mem_of_getElem? (i := 86) rfl)) (hw _ (List.mem_of_getElem? (i := 85) rfl)) (hw _ (List.mem_of_getElem? (i := 87) rfl)) (hw _ (List.mem_of_getElem? (i := 4) rfl)) (by decide) (a := s1) E_s1 (rmG20 l Z a0 hw s1 q0 r0 h35 n0 Z0 E_s1 Ss1 Hs1 Eq0) e38 (g := (mkF m 174 #[.val (.int i0), .val (.int i1), .val (.int i2), .val (.int i3), .val (.int i4), .val (.int i5), .val (.int (2 : Int32)), .val (.int (1 : Int32)), .val (.ref ex), .val (.ref s1), .val (.int i1), .val (.ref r1), .val (.int (1 : Int32))] [(.int (0 : Int32)), (.ref s1)])) rfl (by rw [hml]; rfl) (argsL := [(.int (0 : Int32))]) (rest := []) (lenOf pd_17 rfl) rfl (W := 0) (by show 2 * 0 + _ ≤ _; exact Nat.le_of_eq rfl) (hb hby at_174) (by decide) (by decide) (by decide) (by decide)
      obtain ⟨rfl, N39q, hh39⟩ := hQ39
      have N39 := Fr.app N38 N39q
      rw [hh39] at e39
      refine own_st st39 ?_
      show Fin1 p e below s (rm0Q Z i0 i1 i2 i3 i4 i5 h0 n0) room_1.cells room_1.slots (T39.setTop (mkF m 177 #[.val (.int i0), .val (.int i1), .val (.int i2), .val (.int i3), .val (.int i4), .val (.int i5), .val (.int (2 : Int32)), .val (.int (1 : Int32)), .val (.ref ex), .val (.ref s1), .val (.int i1), .val (.ref r1), .val (.int (1 : Int32))] [(.ref r0)]))
      obtain ⟨T40, X40, e40, st40⟩ := castY X39 hx hZ hown (hw _ (List.mem_of_getElem? (i := 65) rfl)) e39 (Ins.self E_r0) (g := (mkF m 177 #[.val (.int i0), .val (.int i1), .val (.int i2), .val (.int i3), .val (.int i4), .val (.int i5), .val (.int (2 : Int32)), .val (.int (1 : Int32)), .val (.ref ex), .val (.ref s1), .val (.int i1), .val (.ref r1), .val (.int (1 : Int32))] [(.ref r0)])) rfl rfl (hb hby at_177)
      refine own_st st40 ?_
      show Fin1 p e below s (rm0Q Z i0 i1 i2 i3 i4 i5 h0 n0) room_1.cells room_1.slots (T40.setTop (mkF m 180 #[.val (.int i0), .val (.int i1), .val (.int i2), .val (.int i3), .val (.int i4), .val (.int i5), .val (.int (2 : Int32)), .val (.int (1 : Int32)), .val (.ref ex), .val (.ref s1), .val (.int i1), .val (.ref r1), .val (.int (1 : Int32))] [(.ref r0)]))
      refine own_st (fun wt wk => XS.aload X40.here hx rfl (hb hby at_180) rfl rfl (XS.iconst X40.here hx rfl (hb hby at_182) wk)) ?_
      show Fin1 p e below s (rm0Q Z i0 i1 i2 i3 i4 i5 h0 n0) room_1.cells room_1.slots (T40.setTop (mkF m 183 #[.val (.int i0), .val (.int i1), .val (.int i2), .val (.int i3), .val (.int i4), .val (.int i5), .val (.int (2 : Int32)), .val (.int (1 : Int32)), .val (.ref ex), .val (.ref s1), .val (.int i1), .val (.ref r1), .val (.int (1 : Int32))] [(.int (0 : Int32)), (.ref ex), (.ref r0)]))
      refine own_st (own_ld (j := (0 : Int32)) (v := (.int i0)) X40 hx hZ e40 V_ex ⟨by decide, by decide⟩ rfl (g := (mkF m 183 #[.val (.int i0), .val (.int i1), .val (.int i2), .val (.int i3), .val (.int i4), .val (.int i5), .val (.int (2 : Int32)), .val (.int (1 : Int32)), .val (.ref ex), .val (.ref s1), .val (.int i1), .val (.ref r1), .val (.int (1 : Int32))] [(.int (0 : Int32)), (.ref ex), (.ref r0)])) rfl rfl (Or.inl ⟨rfl, rfl⟩) (hb hby at_183)) ?_
      show Fin1 p e below s (rm0Q Z i0 i1 i2 i3 i4 i5 h0 n0) room_1.cells room_1.slots (T40.setTop (mkF m 184 #[.val (.int i0), .val (.int i1), .val (.int i2), .val (.int i3), .val (.int i4), .val (.int i5), .val (.int (2 : Int32)), .val (.int (1 : Int32)), .val (.ref ex), .val (.ref s1), .val (.int i1), .val (.ref r1), .val (.int (1 : Int32))] [(.int i0), (.ref r0)]))
      obtain ⟨v41, T41, h41, L41, X41, e41, hQ41, st41⟩ := own_static X40 hx hZ hown (hw _ (List.mem_of_getElem? (i := 67) rfl)) (hw _ (List.mem_of_getElem? (i := 68) rfl)) (hw _ (List.mem_of_getElem? (i := 69) rfl)) (hw _ (List.mem_of_getElem? (i := 70) rfl)) (by decide) (rmEq l Z a0 hw r0 i0 h35 n0 Z0 E_r0 V_r0) e40 (g := (mkF m 184 #[.val (.int i0), .val (.int i1), .val (.int i2), .val (.int i3), .val (.int i4), .val (.int i5), .val (.int (2 : Int32)), .val (.int (1 : Int32)), .val (.ref ex), .val (.ref s1), .val (.int i1), .val (.ref r1), .val (.int (1 : Int32))] [(.int i0), (.ref r0)])) rfl (by rw [hml]; rfl) (argsL := [(.ref r0), (.int i0)]) (rest := []) (lenOf pd_16 rfl) rfl (W := 0) (by show 2 * 0 + _ ≤ _; exact Nat.le_of_eq rfl) (hb hby at_184) (by decide) (by decide) (by decide) (by decide)
      obtain ⟨rfl, N41q, hh41⟩ := hQ41
      have N41 := Fr.app N39 N41q
      rw [hh41] at e41
      refine own_st st41 ?_
      show Fin1 p e below s (rm0Q Z i0 i1 i2 i3 i4 i5 h0 n0) room_1.cells room_1.slots (T41.setTop (mkF m 187 #[.val (.int i0), .val (.int i1), .val (.int i2), .val (.int i3), .val (.int i4), .val (.int i5), .val (.int (2 : Int32)), .val (.int (1 : Int32)), .val (.ref ex), .val (.ref s1), .val (.int i1), .val (.ref r1), .val (.int (1 : Int32))] [(.int (1 : Int32))]))
      refine own_st (fun wt wk => XS.ifNo X41.here hx rfl (hb hby at_187) rfl ((if0 _ _).trans (feq (by decide)).1) wk) ?_
      show Fin1 p e below s (rm0Q Z i0 i1 i2 i3 i4 i5 h0 n0) room_1.cells room_1.slots (T41.setTop (mkF m 190 #[.val (.int i0), .val (.int i1), .val (.int i2), .val (.int i3), .val (.int i4), .val (.int i5), .val (.int (2 : Int32)), .val (.int (1 : Int32)), .val (.ref ex), .val (.ref s1), .val (.int i1), .val (.ref r1), .val (.int (1 : Int32))] []))
      refine own_st (fun wt wk => XS.iconst X41.here hx rfl (hb hby at_190) (XS.goto X41.here hx rfl (pc0 := 191) (pc' := 195) rfl (hb hby at_191) (by decide) (by decide) (XS.istore X41.here hx rfl (hb hby at_195) rfl (l' := #[.val (.int i0), .val (.int i1), .val (.int i2), .val (.int i3), .val (.int i4), .val (.int i5), .val (.int (2 : Int32)), .val (.int (1 : Int32)), .val (.ref ex), .val (.ref s1), .val (.int i1), .val (.ref r1), .val (.int (1 : Int32))]) rfl (XS.iload X41.here hx rfl (hb hby at_197) rfl (XS.iconst X41.here hx rfl (hb hby at_199) wk))))) ?_
      show Fin1 p e below s (rm0Q Z i0 i1 i2 i3 i4 i5 h0 n0) room_1.cells room_1.slots (T41.setTop (mkF m 200 #[.val (.int i0), .val (.int i1), .val (.int i2), .val (.int i3), .val (.int i4), .val (.int i5), .val (.int (2 : Int32)), .val (.int (1 : Int32)), .val (.ref ex), .val (.ref s1), .val (.int i1), .val (.ref r1), .val (.int (1 : Int32))] [(.int (1 : Int32)), (.int (2 : Int32))]))
      refine own_st (fun wt wk => XS.icmpNo X41.here hx rfl (hb hby at_200) rfl (tlt (by decide)).2.2.2 wk) ?_
      show Fin1 p e below s (rm0Q Z i0 i1 i2 i3 i4 i5 h0 n0) room_1.cells room_1.slots (T41.setTop (mkF m 203 #[.val (.int i0), .val (.int i1), .val (.int i2), .val (.int i3), .val (.int i4), .val (.int i5), .val (.int (2 : Int32)), .val (.int (1 : Int32)), .val (.ref ex), .val (.ref s1), .val (.int i1), .val (.ref r1), .val (.int (1 : Int32))] []))
      refine own_st (fun wt wk => XS.iload X41.here hx rfl (hb hby at_203) rfl wk) ?_
      show Fin1 p e below s (rm0Q Z i0 i1 i2 i3 i4 i5 h0 n0) room_1.cells room_1.slots (T41.setTop (mkF m 205 #[.val (.int i0), .val (.int i1), .val (.int i2), .val (.int i3), .val (.int i4), .val (.int i5), .val (.int (2 : Int32)), .val (.int (1 : Int32)), .val (.ref ex), .val (.ref s1), .val (.int i1), .val (.ref r1), .val (.int (1 : Int32))] [(.int (1 : Int32))]))
      refine own_st (fun wt wk => XS.ifNo X41.here hx rfl (hb hby at_205) rfl ((if0 _ _).trans (feq (by decide)).1) wk) ?_
      show Fin1 p e below s (rm0Q Z i0 i1 i2 i3 i4 i5 h0 n0) room_1.cells room_1.slots (T41.setTop (mkF m 208 #[.val (.int i0), .val (.int i1), .val (.int i2), .val (.int i3), .val (.int i4), .val (.int i5), .val (.int (2 : Int32)), .val (.int (1 : Int32)), .val (.ref ex), .val (.ref s1), .val (.int i1), .val (.ref r1), .val (.int (1 : Int32))] []))
      refine own_st (fun wt wk => XS.aload X41.here hx rfl (hb hby at_208) rfl rfl (XS.iconst X41.here hx rfl (hb hby at_210) wk)) ?_
      show Fin1 p e below s (rm0Q Z i0 i1 i2 i3 i4 i5 h0 n0) room_1.cells room_1.slots (T41.setTop (mkF m 211 #[.val (.int i0), .val (.int i1), .val (.int i2), .val (.int i3), .val (.int i4), .val (.int i5), .val (.int (2 : Int32)), .val (.int (1 : Int32)), .val (.ref ex), .val (.ref s1), .val (.int i1), .val (.ref r1), .val (.int (1 : Int32))] [(.int (1 : Int32)), (.ref s1)]))
      obtain ⟨v42, T42, h42, L42, X42, e42, hQ42, st42⟩ := own_virtual X41 hx hZ hown (hw _ (List.mem_of_getElem? (i := 83) rfl)) (hw _ (List.mem_of_getElem? (i := 84) rfl)) (hw _ (List.mem_of_getElem? (i := 86) rfl)) (hw _ (List.mem_of_getElem? (i := 85) rfl)) (hw _ (List.mem_of_getElem? (i := 87) rfl)) (hw _ (List.mem_of_getElem? (i := 4) rfl)) (by decide) (a := s1) E_s1 (rmG21 l Z a0 hw s1 q1 re h35 n0 Z0 E_s1 Ss1 Ts1 Eq1) e41 (g := (mkF m 211 #[.val (.int i0), .val (.int i1), .val (.int i2), .val (.int i3), .val (.int i4), .val (.int i5), .val (.int (2 : Int32)), .val (.int (1 : Int32)), .val (.ref ex), .val (.ref s1), .val (.int i1), .val (.ref r1), .val (.int (1 : Int32))] [(.int (1 : Int32)), (.ref s1)])) rfl (by rw [hml]; rfl) (argsL := [(.int (1 : Int32))]) (rest := []) (lenOf pd_17 rfl) rfl (W := 0) (by show 2 * 0 + _ ≤ _; exact Nat.le_of_eq rfl) (hb hby at_211) (by decide) (by decide) (by decide) (by decide)
      obtain ⟨rfl, N42q, hh42⟩ := hQ42
      have N42 := Fr.app N41 N42q
      rw [hh42] at e42
      refine own_st st42 ?_
      show Fin1 p e below s (rm0Q Z i0 i1 i2 i3 i4 i5 h0 n0) room_1.cells room_1.slots (T42.setTop (mkF m 214 #[.val (.int i0), .val (.int i1), .val (.int i2), .val (.int i3), .val (.int i4), .val (.int i5), .val (.int (2 : Int32)), .val (.int (1 : Int32)), .val (.ref ex), .val (.ref s1), .val (.int i1), .val (.ref r1), .val (.int (1 : Int32))] [(.ref re)]))
      obtain ⟨T43, X43, e43, st43⟩ := castY X42 hx hZ hown (hw _ (List.mem_of_getElem? (i := 65) rfl)) e42 (Ins.self E_re) (g := (mkF m 214 #[.val (.int i0), .val (.int i1), .val (.int i2), .val (.int i3), .val (.int i4), .val (.int i5), .val (.int (2 : Int32)), .val (.int (1 : Int32)), .val (.ref ex), .val (.ref s1), .val (.int i1), .val (.ref r1), .val (.int (1 : Int32))] [(.ref re)])) rfl rfl (hb hby at_214)
      refine own_st st43 ?_
      show Fin1 p e below s (rm0Q Z i0 i1 i2 i3 i4 i5 h0 n0) room_1.cells room_1.slots (T43.setTop (mkF m 217 #[.val (.int i0), .val (.int i1), .val (.int i2), .val (.int i3), .val (.int i4), .val (.int i5), .val (.int (2 : Int32)), .val (.int (1 : Int32)), .val (.ref ex), .val (.ref s1), .val (.int i1), .val (.ref r1), .val (.int (1 : Int32))] [(.ref re)]))
      refine own_st (fun wt wk => XS.aload X43.here hx rfl (hb hby at_217) rfl rfl (XS.iconst X43.here hx rfl (hb hby at_219) wk)) ?_
      show Fin1 p e below s (rm0Q Z i0 i1 i2 i3 i4 i5 h0 n0) room_1.cells room_1.slots (T43.setTop (mkF m 220 #[.val (.int i0), .val (.int i1), .val (.int i2), .val (.int i3), .val (.int i4), .val (.int i5), .val (.int (2 : Int32)), .val (.int (1 : Int32)), .val (.ref ex), .val (.ref s1), .val (.int i1), .val (.ref r1), .val (.int (1 : Int32))] [(.int (1 : Int32)), (.ref ex), (.ref re)]))
      refine own_st (own_ld (j := (1 : Int32)) (v := (.int i4)) X43 hx hZ e43 V_ex ⟨by decide, by decide⟩ rfl (g := (mkF m 220 #[.val (.int i0), .val (.int i1), .val (.int i2), .val (.int i3), .val (.int i4), .val (.int i5), .val (.int (2 : Int32)), .val (.int (1 : Int32)), .val (.ref ex), .val (.ref s1), .val (.int i1), .val (.ref r1), .val (.int (1 : Int32))] [(.int (1 : Int32)), (.ref ex), (.ref re)])) rfl rfl (Or.inl ⟨rfl, rfl⟩) (hb hby at_220)) ?_
      show Fin1 p e below s (rm0Q Z i0 i1 i2 i3 i4 i5 h0 n0) room_1.cells room_1.slots (T43.setTop (mkF m 221 #[.val (.int i0), .val (.int i1), .val (.int i2), .val (.int i3), .val (.int i4), .val (.int i5), .val (.int (2 : Int32)), .val (.int (1 : Int32)), .val (.ref ex), .val (.ref s1), .val (.int i1), .val (.ref r1), .val (.int (1 : Int32))] [(.int i4), (.ref re)]))
      obtain ⟨v44, T44, h44, L44, X44, e44, hQ44, st44⟩ := own_static X43 hx hZ hown (hw _ (List.mem_of_getElem? (i := 67) rfl)) (hw _ (List.mem_of_getElem? (i := 68) rfl)) (hw _ (List.mem_of_getElem? (i := 69) rfl)) (hw _ (List.mem_of_getElem? (i := 70) rfl)) (by decide) (rmEq l Z a0 hw re i4 h35 n0 Z0 E_re V_re) e43 (g := (mkF m 221 #[.val (.int i0), .val (.int i1), .val (.int i2), .val (.int i3), .val (.int i4), .val (.int i5), .val (.int (2 : Int32)), .val (.int (1 : Int32)), .val (.ref ex), .val (.ref s1), .val (.int i1), .val (.ref r1), .val (.int (1 : Int32))] [(.int i4), (.ref re)])) rfl (by rw [hml]; rfl) (argsL := [(.ref re), (.int i4)]) (rest := []) (lenOf pd_16 rfl) rfl (W := 0) (by show 2 * 0 + _ ≤ _; exact Nat.le_of_eq rfl) (hb hby at_221) (by decide) (by decide) (by decide) (by decide)
      obtain ⟨rfl, N44q, hh44⟩ := hQ44
      have N44 := Fr.app N42 N44q
      rw [hh44] at e44
      refine own_st st44 ?_
      show Fin1 p e below s (rm0Q Z i0 i1 i2 i3 i4 i5 h0 n0) room_1.cells room_1.slots (T44.setTop (mkF m 224 #[.val (.int i0), .val (.int i1), .val (.int i2), .val (.int i3), .val (.int i4), .val (.int i5), .val (.int (2 : Int32)), .val (.int (1 : Int32)), .val (.ref ex), .val (.ref s1), .val (.int i1), .val (.ref r1), .val (.int (1 : Int32))] [(.int (1 : Int32))]))
      refine own_st (fun wt wk => XS.ifNo X44.here hx rfl (hb hby at_224) rfl ((if0 _ _).trans (feq (by decide)).1) wk) ?_
      show Fin1 p e below s (rm0Q Z i0 i1 i2 i3 i4 i5 h0 n0) room_1.cells room_1.slots (T44.setTop (mkF m 227 #[.val (.int i0), .val (.int i1), .val (.int i2), .val (.int i3), .val (.int i4), .val (.int i5), .val (.int (2 : Int32)), .val (.int (1 : Int32)), .val (.ref ex), .val (.ref s1), .val (.int i1), .val (.ref r1), .val (.int (1 : Int32))] []))
      refine own_st (fun wt wk => XS.iconst X44.here hx rfl (hb hby at_227) (XS.goto X44.here hx rfl (pc0 := 228) (pc' := 232) rfl (hb hby at_228) (by decide) (by decide) (XS.istore X44.here hx rfl (hb hby at_232) rfl (l' := #[.val (.int i0), .val (.int i1), .val (.int i2), .val (.int i3), .val (.int i4), .val (.int i5), .val (.int (2 : Int32)), .val (.int (1 : Int32)), .val (.ref ex), .val (.ref s1), .val (.int i1), .val (.ref r1), .val (.int (1 : Int32))]) rfl (XS.iload X44.here hx rfl (hb hby at_234) rfl (XS.iconst X44.here hx rfl (hb hby at_236) wk))))) ?_
      show Fin1 p e below s (rm0Q Z i0 i1 i2 i3 i4 i5 h0 n0) room_1.cells room_1.slots (T44.setTop (mkF m 237 #[.val (.int i0), .val (.int i1), .val (.int i2), .val (.int i3), .val (.int i4), .val (.int i5), .val (.int (2 : Int32)), .val (.int (1 : Int32)), .val (.ref ex), .val (.ref s1), .val (.int i1), .val (.ref r1), .val (.int (1 : Int32))] [(.int (2 : Int32)), (.int (2 : Int32))]))
      refine own_st (fun wt wk => XS.icmpYes X44.here hx rfl (pc0 := 237) (pc' := 271) rfl (hb hby at_237) rfl (flt (by decide)).2.2.2 (by decide) (by decide) wk) ?_
      show Fin1 p e below s (rm0Q Z i0 i1 i2 i3 i4 i5 h0 n0) room_1.cells room_1.slots (T44.setTop (mkF m 271 #[.val (.int i0), .val (.int i1), .val (.int i2), .val (.int i3), .val (.int i4), .val (.int i5), .val (.int (2 : Int32)), .val (.int (1 : Int32)), .val (.ref ex), .val (.ref s1), .val (.int i1), .val (.ref r1), .val (.int (1 : Int32))] []))
      refine own_st (fun wt wk => XS.iload X44.here hx rfl (hb hby at_271) rfl (XS.iconst X44.here hx rfl (hb hby at_273) wk)) ?_
      show Fin1 p e below s (rm0Q Z i0 i1 i2 i3 i4 i5 h0 n0) room_1.cells room_1.slots (T44.setTop (mkF m 274 #[.val (.int i0), .val (.int i1), .val (.int i2), .val (.int i3), .val (.int i4), .val (.int i5), .val (.int (2 : Int32)), .val (.int (1 : Int32)), .val (.ref ex), .val (.ref s1), .val (.int i1), .val (.ref r1), .val (.int (1 : Int32))] [(.int (3 : Int32)), (.int (2 : Int32))]))
      refine own_st (fun wt wk => XS.icmpYes X44.here hx rfl (pc0 := 274) (pc' := 308) rfl (hb hby at_274) rfl (flt (by decide)).2.2.2 (by decide) (by decide) wk) ?_
      show Fin1 p e below s (rm0Q Z i0 i1 i2 i3 i4 i5 h0 n0) room_1.cells room_1.slots (T44.setTop (mkF m 308 #[.val (.int i0), .val (.int i1), .val (.int i2), .val (.int i3), .val (.int i4), .val (.int i5), .val (.int (2 : Int32)), .val (.int (1 : Int32)), .val (.ref ex), .val (.ref s1), .val (.int i1), .val (.ref r1), .val (.int (1 : Int32))] []))
      refine own_st (fun wt wk => XS.iload X44.here hx rfl (hb hby at_308) rfl wk) ?_
      show Fin1 p e below s (rm0Q Z i0 i1 i2 i3 i4 i5 h0 n0) room_1.cells room_1.slots (T44.setTop (mkF m 310 #[.val (.int i0), .val (.int i1), .val (.int i2), .val (.int i3), .val (.int i4), .val (.int i5), .val (.int (2 : Int32)), .val (.int (1 : Int32)), .val (.ref ex), .val (.ref s1), .val (.int i1), .val (.ref r1), .val (.int (1 : Int32))] [(.int (1 : Int32))]))
      exact own_retZ X44 hx hlk hret (hb hby at_310) (z := (1 : Int32)) (by decide) (by rw [e44]; exact ⟨rfl, N44⟩) (by decide) (by decide)
  · show Fin1 p e below s (rm0Q Z i0 i1 i2 i3 i4 i5 h0 n0) room_1.cells room_1.slots (T9.setTop (mkF m 63 #[.val (.int i0), .val (.int i1), .val (.int i2), .val (.int i3), .val (.int i4), .val (.int i5), .val (.int (3 : Int32)), .val (.int k7), .val (.ref ex), .val (.ref s1), .unset, .unset, .unset] [(.int (1 : Int32)), (.int (3 : Int32))]))
    refine own_st (fun wt wk => XS.icmpNo X9.here hx rfl (hb hby at_63) rfl (tlt (by decide)).2.2.2 wk) ?_
    show Fin1 p e below s (rm0Q Z i0 i1 i2 i3 i4 i5 h0 n0) room_1.cells room_1.slots (T9.setTop (mkF m 66 #[.val (.int i0), .val (.int i1), .val (.int i2), .val (.int i3), .val (.int i4), .val (.int i5), .val (.int (3 : Int32)), .val (.int k7), .val (.ref ex), .val (.ref s1), .unset, .unset, .unset] []))
    refine own_st (fun wt wk => XS.aload X9.here hx rfl (hb hby at_66) rfl rfl (XS.iconst X9.here hx rfl (hb hby at_68) (XS.iloadN X9.here hx rfl (hb hby at_69) rfl wk))) ?_
    show Fin1 p e below s (rm0Q Z i0 i1 i2 i3 i4 i5 h0 n0) room_1.cells room_1.slots (T9.setTop (mkF m 70 #[.val (.int i0), .val (.int i1), .val (.int i2), .val (.int i3), .val (.int i4), .val (.int i5), .val (.int (3 : Int32)), .val (.int k7), .val (.ref ex), .val (.ref s1), .unset, .unset, .unset] [(.int i1), (.int (1 : Int32)), (.ref s1)]))
    obtain ⟨v45, T45, h45, L45, X45, e45, hQ45, st45⟩ := own_static X9 hx hZ hown (hw _ (List.mem_of_getElem? (i := 16) rfl)) (hw _ (List.mem_of_getElem? (i := 17) rfl)) (hw _ (List.mem_of_getElem? (i := 18) rfl)) (hw _ (List.mem_of_getElem? (i := 19) rfl)) (by decide) (rmV l Z a0 hw i1 h9 n0 Z0 O hic) e9 (g := (mkF m 70 #[.val (.int i0), .val (.int i1), .val (.int i2), .val (.int i3), .val (.int i4), .val (.int i5), .val (.int (3 : Int32)), .val (.int k7), .val (.ref ex), .val (.ref s1), .unset, .unset, .unset] [(.int i1), (.int (1 : Int32)), (.ref s1)])) rfl (by rw [hml]; rfl) (argsL := [(.int i1)]) (rest := [(.int (1 : Int32)), (.ref s1)]) (lenOf pd_13 rfl) rfl (W := 2) (by show 2 * 0 + _ ≤ _; exact Nat.le_of_eq rfl) (hb hby at_70) (by decide) (by decide) (by decide) (by decide)
    obtain ⟨r1, rfl, N45q, K45, E_r1, V_r1⟩ := hQ45
    have N45 := Fr.app N9 N45q
    have Z0 := Nat.le_trans Z0 K45.1
    have O := O.keep K45 all0
    have V_ex := V_ex.keep K45 nin0
    have E_s1 := E_s1.keep K45
    have E_r0 := E_r0.keep K45
    have V_r0 := V_r0.keep K45 nin0
    have E_q0 := E_q0.keep K45
    have Hs1 := Hs1.keep K45 nin0
    have Ts1 := Ts1.keep K45 nin0
    have Ss1 := Ss1.keep K45 nin0
    have Eq0 := Eq0.keep K45 nin0
    have Pq0 := Pq0.keep K45 nin0
    have Nq0 := Nq0.keep K45 nin0
    refine own_st st45 ?_
    show Fin1 p e below s (rm0Q Z i0 i1 i2 i3 i4 i5 h0 n0) room_1.cells room_1.slots (T45.setTop (mkF m 73 #[.val (.int i0), .val (.int i1), .val (.int i2), .val (.int i3), .val (.int i4), .val (.int i5), .val (.int (3 : Int32)), .val (.int k7), .val (.ref ex), .val (.ref s1), .unset, .unset, .unset] [(.ref r1), (.int (1 : Int32)), (.ref s1)]))
    have ne_r1_ex : r1 ≠ ex := own_ne_arv E_r1 (hw _ (List.mem_of_getElem? (i := 89) rfl)) V_ex
    have ne_r1_s1 : r1 ≠ s1 := ne_exa E_r1 E_s1 (by decide)
    have ne_r1_q0 : r1 ≠ q0 := ne_exa E_r1 E_q0 (by decide)
    obtain ⟨v46, T46, h46, L46, X46, e46, hQ46, st46⟩ := own_virtual X45 hx hZ hown (hw _ (List.mem_of_getElem? (i := 23) rfl)) (hw _ (List.mem_of_getElem? (i := 24) rfl)) (hw _ (List.mem_of_getElem? (i := 26) rfl)) (hw _ (List.mem_of_getElem? (i := 25) rfl)) (hw _ (List.mem_of_getElem? (i := 27) rfl)) (hw _ (List.mem_of_getElem? (i := 4) rfl)) (by decide) (a := s1) E_s1 (rmI1 l Z a0 hw s1 r1 q0 q0 r0 .null h45 n0 Z0 g_s1 g_q0 E_s1 E_q0 Hs1 Ts1 Ss1 Eq0 Pq0 Nq0 ne_s1_q0) e45 (g := (mkF m 73 #[.val (.int i0), .val (.int i1), .val (.int i2), .val (.int i3), .val (.int i4), .val (.int i5), .val (.int (3 : Int32)), .val (.int k7), .val (.ref ex), .val (.ref s1), .unset, .unset, .unset] [(.ref r1), (.int (1 : Int32)), (.ref s1)])) rfl (by rw [hml]; rfl) (argsL := [(.int (1 : Int32)), (.ref r1)]) (rest := []) (lenOf pd_14 rfl) rfl (W := 0) (by show 2 * 0 + _ ≤ _; exact Nat.le_of_eq rfl) (hb hby at_73) (by decide) (by decide) (by decide) (by decide)
    obtain ⟨rfl, N46q, q1, s_q1, K46, E_q1, Hs1, Ts1, Ss1, Eq0, Pq0, Nq0, Eq1, Pq1, Nq1⟩ := hQ46
    have N46 := Fr.app N45 N46q
    have ne_ex_q1 : ex ≠ q1 := Nat.ne_of_lt (Nat.lt_of_lt_of_le V_ex.lt s_q1)
    have ne_s1_q1 : s1 ≠ q1 := Nat.ne_of_lt (Nat.lt_of_lt_of_le E_s1.lt s_q1)
    have ne_r0_q1 : r0 ≠ q1 := Nat.ne_of_lt (Nat.lt_of_lt_of_le E_r0.lt s_q1)
    have ne_q0_q1 : q0 ≠ q1 := Nat.ne_of_lt (Nat.lt_of_lt_of_le E_q0.lt s_q1)
    have ne_r1_q1 : r1 ≠ q1 := Nat.ne_of_lt (Nat.lt_of_lt_of_le E_r1.lt s_q1)
    have g_q1 : n0 ≤ q1 := Nat.le_trans Z0 s_q1
    have Z0 := Nat.le_trans Z0 K46.1
    have O := O.keep K46 (allS (P := fun x => n0 ≤ x) g_s1 (allS (P := fun x => n0 ≤ x) g_q0 all0))
    have V_ex := V_ex.keep K46 (ninS ne_ex_s1 (ninS ne_ex_q0 nin0))
    have E_s1 := E_s1.keep K46
    have E_r0 := E_r0.keep K46
    have V_r0 := V_r0.keep K46 (ninS ne_r0_s1 (ninS ne_r0_q0 nin0))
    have E_q0 := E_q0.keep K46
    have E_r1 := E_r1.keep K46
    have V_r1 := V_r1.keep K46 (ninS ne_r1_s1 (ninS ne_r1_q0 nin0))
    refine own_st st46 ?_
    show Fin1 p e below s (rm0Q Z i0 i1 i2 i3 i4 i5 h0 n0) room_1.cells room_1.slots (T46.setTop (mkF m 76 #[.val (.int i0), .val (.int i1), .val (.int i2), .val (.int i3), .val (.int i4), .val (.int i5), .val (.int (3 : Int32)), .val (.int k7), .val (.ref ex), .val (.ref s1), .unset, .unset, .unset] []))
    refine own_st (fun wt wk => XS.iload X46.here hx rfl (hb hby at_76) rfl (XS.iconst X46.here hx rfl (hb hby at_78) wk)) ?_
    show Fin1 p e below s (rm0Q Z i0 i1 i2 i3 i4 i5 h0 n0) room_1.cells room_1.slots (T46.setTop (mkF m 79 #[.val (.int i0), .val (.int i1), .val (.int i2), .val (.int i3), .val (.int i4), .val (.int i5), .val (.int (3 : Int32)), .val (.int k7), .val (.ref ex), .val (.ref s1), .unset, .unset, .unset] [(.int (2 : Int32)), (.int (3 : Int32))]))
    refine own_st (fun wt wk => XS.icmpNo X46.here hx rfl (hb hby at_79) rfl (tlt (by decide)).2.2.2 wk) ?_
    show Fin1 p e below s (rm0Q Z i0 i1 i2 i3 i4 i5 h0 n0) room_1.cells room_1.slots (T46.setTop (mkF m 82 #[.val (.int i0), .val (.int i1), .val (.int i2), .val (.int i3), .val (.int i4), .val (.int i5), .val (.int (3 : Int32)), .val (.int k7), .val (.ref ex), .val (.ref s1), .unset, .unset, .unset] []))
    refine own_st (fun wt wk => XS.aload X46.here hx rfl (hb hby at_82) rfl rfl (XS.iconst X46.here hx rfl (hb hby at_84) (XS.iloadN X46.here hx rfl (hb hby at_85) rfl wk))) ?_
    show Fin1 p e below s (rm0Q Z i0 i1 i2 i3 i4 i5 h0 n0) room_1.cells room_1.slots (T46.setTop (mkF m 86 #[.val (.int i0), .val (.int i1), .val (.int i2), .val (.int i3), .val (.int i4), .val (.int i5), .val (.int (3 : Int32)), .val (.int k7), .val (.ref ex), .val (.ref s1), .unset, .unset, .unset] [(.int i2), (.int (2 : Int32)), (.ref s1)]))
    obtain ⟨v47, T47, h47, L47, X47, e47, hQ47, st47⟩ := own_static X46 hx hZ hown (hw _ (List.mem_of_getElem? (i := 16) rfl)) (hw _ (List.mem_of_getElem? (i := 17) rfl)) (hw _ (List.mem_of_getElem? (i := 18) rfl)) (hw _ (List.mem_of_getElem? (i := 19) rfl)) (by decide) (rmV l Z a0 hw i2 h46 n0 Z0 O hic) e46 (g := (mkF m 86 #[.val (.int i0), .val (.int i1), .val (.int i2), .val (.int i3), .val (.int i4), .val (.int i5), .val (.int (3 : Int32)), .val (.int k7), .val (.ref ex), .val (.ref s1), .unset, .unset, .unset] [(.int i2), (.int (2 : Int32)), (.ref s1)])) rfl (by rw [hml]; rfl) (argsL := [(.int i2)]) (rest := [(.int (2 : Int32)), (.ref s1)]) (lenOf pd_13 rfl) rfl (W := 2) (by show 2 * 0 + _ ≤ _; exact Nat.le_of_eq rfl) (hb hby at_86) (by decide) (by decide) (by decide) (by decide)
    obtain ⟨r2, rfl, N47q, K47, E_r2, V_r2⟩ := hQ47
    have N47 := Fr.app N46 N47q
    have Z0 := Nat.le_trans Z0 K47.1
    have O := O.keep K47 all0
    have V_ex := V_ex.keep K47 nin0
    have E_s1 := E_s1.keep K47
    have E_r0 := E_r0.keep K47
    have V_r0 := V_r0.keep K47 nin0
    have E_q0 := E_q0.keep K47
    have E_r1 := E_r1.keep K47
    have V_r1 := V_r1.keep K47 nin0
    have E_q1 := E_q1.keep K47
    have Hs1 := Hs1.keep K47 nin0
    have Ts1 := Ts1.keep K47 nin0
    have Ss1 := Ss1.keep K47 nin0
    have Eq0 := Eq0.keep K47 nin0
    have Pq0 := Pq0.keep K47 nin0
    have Nq0 := Nq0.keep K47 nin0
    have Eq1 := Eq1.keep K47 nin0
    have Pq1 := Pq1.keep K47 nin0
    have Nq1 := Nq1.keep K47 nin0
    refine own_st st47 ?_
    show Fin1 p e below s (rm0Q Z i0 i1 i2 i3 i4 i5 h0 n0) room_1.cells room_1.slots (T47.setTop (mkF m 89 #[.val (.int i0), .val (.int i1), .val (.int i2), .val (.int i3), .val (.int i4), .val (.int i5), .val (.int (3 : Int32)), .val (.int k7), .val (.ref ex), .val (.ref s1), .unset, .unset, .unset] [(.ref r2), (.int (2 : Int32)), (.ref s1)]))
    have ne_r2_ex : r2 ≠ ex := own_ne_arv E_r2 (hw _ (List.mem_of_getElem? (i := 89) rfl)) V_ex
    have ne_r2_s1 : r2 ≠ s1 := ne_exa E_r2 E_s1 (by decide)
    have ne_r2_q0 : r2 ≠ q0 := ne_exa E_r2 E_q0 (by decide)
    have ne_r2_q1 : r2 ≠ q1 := ne_exa E_r2 E_q1 (by decide)
    obtain ⟨v48, T48, h48, L48, X48, e48, hQ48, st48⟩ := own_virtual X47 hx hZ hown (hw _ (List.mem_of_getElem? (i := 23) rfl)) (hw _ (List.mem_of_getElem? (i := 24) rfl)) (hw _ (List.mem_of_getElem? (i := 26) rfl)) (hw _ (List.mem_of_getElem? (i := 25) rfl)) (hw _ (List.mem_of_getElem? (i := 27) rfl)) (hw _ (List.mem_of_getElem? (i := 4) rfl)) (by decide) (a := s1) E_s1 (rmI2 l Z a0 hw s1 r2 q1 q0 r1 (.ref q0) h47 n0 Z0 g_s1 g_q1 E_s1 E_q1 Hs1 Ts1 Ss1 Eq1 Pq1 Nq1 ne_s1_q1) e47 (g := (mkF m 89 #[.val (.int i0), .val (.int i1), .val (.int i2), .val (.int i3), .val (.int i4), .val (.int i5), .val (.int (3 : Int32)), .val (.int k7), .val (.ref ex), .val (.ref s1), .unset, .unset, .unset] [(.ref r2), (.int (2 : Int32)), (.ref s1)])) rfl (by rw [hml]; rfl) (argsL := [(.int (2 : Int32)), (.ref r2)]) (rest := []) (lenOf pd_14 rfl) rfl (W := 0) (by show 2 * 0 + _ ≤ _; exact Nat.le_of_eq rfl) (hb hby at_89) (by decide) (by decide) (by decide) (by decide)
    obtain ⟨rfl, N48q, q2, s_q2, K48, E_q2, Hs1, Ts1, Ss1, Eq1, Pq1, Nq1, Eq2, Pq2, Nq2⟩ := hQ48
    have N48 := Fr.app N47 N48q
    have ne_ex_q2 : ex ≠ q2 := Nat.ne_of_lt (Nat.lt_of_lt_of_le V_ex.lt s_q2)
    have ne_s1_q2 : s1 ≠ q2 := Nat.ne_of_lt (Nat.lt_of_lt_of_le E_s1.lt s_q2)
    have ne_r0_q2 : r0 ≠ q2 := Nat.ne_of_lt (Nat.lt_of_lt_of_le E_r0.lt s_q2)
    have ne_q0_q2 : q0 ≠ q2 := Nat.ne_of_lt (Nat.lt_of_lt_of_le E_q0.lt s_q2)
    have ne_r1_q2 : r1 ≠ q2 := Nat.ne_of_lt (Nat.lt_of_lt_of_le E_r1.lt s_q2)
    have ne_q1_q2 : q1 ≠ q2 := Nat.ne_of_lt (Nat.lt_of_lt_of_le E_q1.lt s_q2)
    have ne_r2_q2 : r2 ≠ q2 := Nat.ne_of_lt (Nat.lt_of_lt_of_le E_r2.lt s_q2)
    have g_q2 : n0 ≤ q2 := Nat.le_trans Z0 s_q2
    have Z0 := Nat.le_trans Z0 K48.1
    have O := O.keep K48 (allS (P := fun x => n0 ≤ x) g_s1 (allS (P := fun x => n0 ≤ x) g_q1 all0))
    have V_ex := V_ex.keep K48 (ninS ne_ex_s1 (ninS ne_ex_q1 nin0))
    have E_s1 := E_s1.keep K48
    have E_r0 := E_r0.keep K48
    have V_r0 := V_r0.keep K48 (ninS ne_r0_s1 (ninS ne_r0_q1 nin0))
    have E_q0 := E_q0.keep K48
    have E_r1 := E_r1.keep K48
    have V_r1 := V_r1.keep K48 (ninS ne_r1_s1 (ninS ne_r1_q1 nin0))
    have E_q1 := E_q1.keep K48
    have Eq0 := Eq0.keep K48 (ninS (Ne.symm ne_s1_q0) (ninS ne_q0_q1 nin0))
    have Pq0 := Pq0.keep K48 (ninS (Ne.symm ne_s1_q0) (ninS ne_q0_q1 nin0))
    have Nq0 := Nq0.keep K48 (ninS (Ne.symm ne_s1_q0) (ninS ne_q0_q1 nin0))
    have E_r2 := E_r2.keep K48
    have V_r2 := V_r2.keep K48 (ninS ne_r2_s1 (ninS ne_r2_q1 nin0))
    refine own_st st48 ?_
    show Fin1 p e below s (rm0Q Z i0 i1 i2 i3 i4 i5 h0 n0) room_1.cells room_1.slots (T48.setTop (mkF m 92 #[.val (.int i0), .val (.int i1), .val (.int i2), .val (.int i3), .val (.int i4), .val (.int i5), .val (.int (3 : Int32)), .val (.int k7), .val (.ref ex), .val (.ref s1), .unset, .unset, .unset] []))
    refine own_st (fun wt wk => XS.iload X48.here hx rfl (hb hby at_92) rfl (XS.iconst X48.here hx rfl (hb hby at_94) wk)) ?_
    show Fin1 p e below s (rm0Q Z i0 i1 i2 i3 i4 i5 h0 n0) room_1.cells room_1.slots (T48.setTop (mkF m 95 #[.val (.int i0), .val (.int i1), .val (.int i2), .val (.int i3), .val (.int i4), .val (.int i5), .val (.int (3 : Int32)), .val (.int k7), .val (.ref ex), .val (.ref s1), .unset, .unset, .unset] [(.int (3 : Int32)), (.int (3 : Int32))]))
    refine own_st (fun wt wk => XS.icmpYes X48.here hx rfl (pc0 := 95) (pc' := 108) rfl (hb hby at_95) rfl (flt (by decide)).2.2.2 (by decide) (by decide) wk) ?_
    show Fin1 p e below s (rm0Q Z i0 i1 i2 i3 i4 i5 h0 n0) room_1.cells room_1.slots (T48.setTop (mkF m 108 #[.val (.int i0), .val (.int i1), .val (.int i2), .val (.int i3), .val (.int i4), .val (.int i5), .val (.int (3 : Int32)), .val (.int k7), .val (.ref ex), .val (.ref s1), .unset, .unset, .unset] []))
    refine own_st (fun wt wk => XS.aload X48.here hx rfl (hb hby at_108) rfl rfl (XS.iload X48.here hx rfl (hb hby at_110) rfl wk)) ?_
    show Fin1 p e below s (rm0Q Z i0 i1 i2 i3 i4 i5 h0 n0) room_1.cells room_1.slots (T48.setTop (mkF m 112 #[.val (.int i0), .val (.int i1), .val (.int i2), .val (.int i3), .val (.int i4), .val (.int i5), .val (.int (3 : Int32)), .val (.int k7), .val (.ref ex), .val (.ref s1), .unset, .unset, .unset] [(.int k7), (.ref ex)]))
    rcases hk with rfl | rfl | rfl
    · show Fin1 p e below s (rm0Q Z i0 i1 i2 i3 i4 i5 h0 n0) room_1.cells room_1.slots (T48.setTop (mkF m 112 #[.val (.int i0), .val (.int i1), .val (.int i2), .val (.int i3), .val (.int i4), .val (.int i5), .val (.int (3 : Int32)), .val (.int (0 : Int32)), .val (.ref ex), .val (.ref s1), .unset, .unset, .unset] [(.int (0 : Int32)), (.ref ex)]))
      refine own_st (own_ld (j := (0 : Int32)) (v := (.int i0)) X48 hx hZ e48 V_ex ⟨by decide, by decide⟩ rfl (g := (mkF m 112 #[.val (.int i0), .val (.int i1), .val (.int i2), .val (.int i3), .val (.int i4), .val (.int i5), .val (.int (3 : Int32)), .val (.int (0 : Int32)), .val (.ref ex), .val (.ref s1), .unset, .unset, .unset] [(.int (0 : Int32)), (.ref ex)])) rfl rfl (Or.inl ⟨rfl, rfl⟩) (hb hby at_112)) ?_
      show Fin1 p e below s (rm0Q Z i0 i1 i2 i3 i4 i5 h0 n0) room_1.cells room_1.slots (T48.setTop (mkF m 113 #[.val (.int i0), .val (.int i1), .val (.int i2), .val (.int i3), .val (.int i4), .val (.int i5), .val (.int (3 : Int32)), .val (.int (0 : Int32)), .val (.ref ex), .val (.ref s1), .unset, .unset, .unset] [(.int i0)]))
      refine own_st (fun wt wk => XS.istore X48.here hx rfl (hb hby at_113) rfl (l' := #[.val (.int i0), .val (.int i1), .val (.int i2), .val (.int i3), .val (.int i4), .val (.int i5), .val (.int (3 : Int32)), .val (.int (0 : Int32)), .val (.ref ex), .val (.ref s1), .val (.int i0), .unset, .unset]) rfl (XS.aload X48.here hx rfl (hb hby at_115) rfl rfl (XS.iload X48.here hx rfl (hb hby at_117) rfl (XS.iload X48.here hx rfl (hb hby at_119) rfl wk)))) ?_
      show Fin1 p e below s (rm0Q Z i0 i1 i2 i3 i4 i5 h0 n0) room_1.cells room_1.slots (T48.setTop (mkF m 121 #[.val (.int i0), .val (.int i1), .val (.int i2), .val (.int i3), .val (.int i4), .val (.int i5), .val (.int (3 : Int32)), .val (.int (0 : Int32)), .val (.ref ex), .val (.ref s1), .val (.int i0), .unset, .unset] [(.int i4), (.int (0 : Int32)), (.ref ex)]))
      obtain ⟨T49, h49, X49, e49, W49, U49, st49⟩ := own_stI (j := (0 : Int32)) X48 hx hZ e48 V_ex ⟨by decide, by decide⟩ 0 rfl (by simp) (g := (mkF m 121 #[.val (.int i0), .val (.int i1), .val (.int i2), .val (.int i3), .val (.int i4), .val (.int i5), .val (.int (3 : Int32)), .val (.int (0 : Int32)), .val (.ref ex), .val (.ref s1), .val (.int i0), .unset, .unset] [(.int i4), (.int (0 : Int32)), (.ref ex)])) rfl rfl (hb hby at_121)
      have N49 := Fr.snoc X49 N48 g_ex
      have Z0 := Nat.le_trans Z0 (Nat.le_of_eq W49.size.symm)
      have O := O.wr W49 g_ex
      have E_s1 := E_s1.wr W49
      have E_r0 := E_r0.wr W49
      have V_r0 := V_r0.other W49 (Or.inl ne_r0_ex)
      have E_q0 := E_q0.wr W49
      have E_r1 := E_r1.wr W49
      have V_r1 := V_r1.other W49 (Or.inl ne_r1_ex)
      have E_q1 := E_q1.wr W49
      have Eq0 := Eq0.other W49 (Or.inl (Ne.symm ne_ex_q0))
      have Pq0 := Pq0.other W49 (Or.inl (Ne.symm ne_ex_q0))
      have Nq0 := Nq0.other W49 (Or.inl (Ne.symm ne_ex_q0))
      have E_r2 := E_r2.wr W49
      have V_r2 := V_r2.other W49 (Or.inl ne_r2_ex)
      have E_q2 := E_q2.wr W49
      have Hs1 := Hs1.other W49 (Or.inl (Ne.symm ne_ex_s1))
      have Ts1 := Ts1.other W49 (Or.inl (Ne.symm ne_ex_s1))
      have Ss1 := Ss1.other W49 (Or.inl (Ne.symm ne_ex_s1))
      have Eq1 := Eq1.other W49 (Or.inl (Ne.symm ne_ex_q1))
      have Pq1 := Pq1.other W49 (Or.inl (Ne.symm ne_ex_q1))
      have Nq1 := Nq1.other W49 (Or.inl (Ne.symm ne_ex_q1))
      have Eq2 := Eq2.other W49 (Or.inl (Ne.symm ne_ex_q2))
      have Pq2 := Pq2.other W49 (Or.inl (Ne.symm ne_ex_q2))
      have Nq2 := Nq2.other W49 (Or.inl (Ne.symm ne_ex_q2))
      have V_ex : Arv Z h49 ex kc1 .int (4 : Int32) [(.int i4), (.int i1), (.int i2), (.int i3)] (.int (0 : Int32)) := U49
      refine own_st st49 ?_
      show Fin1 p e below s (rm0Q Z i0 i1 i2 i3 i4 i5 h0 n0) room_1.cells room_1.slots (T49.setTop (mkF m 122 #[.val (.int i0), .val (.int i1), .val (.int i2), .val (.int i3), .val (.int i4), .val (.int i5), .val (.int (3 : Int32)), .val (.int (0 : Int32)), .val (.ref ex), .val (.ref s1), .val (.int i0), .unset, .unset] []))
      refine own_st (fun wt wk => XS.aload X49.here hx rfl (hb hby at_122) rfl rfl (XS.iload X49.here hx rfl (hb hby at_124) rfl (XS.iload X49.here hx rfl (hb hby at_126) rfl wk))) ?_
      show Fin1 p e below s (rm0Q Z i0 i1 i2 i3 i4 i5 h0 n0) room_1.cells room_1.slots (T49.setTop (mkF m 128 #[.val (.int i0), .val (.int i1), .val (.int i2), .val (.int i3), .val (.int i4), .val (.int i5), .val (.int (3 : Int32)), .val (.int (0 : Int32)), .val (.ref ex), .val (.ref s1), .val (.int i0), .unset, .unset] [(.int i4), (.int (0 : Int32)), (.ref s1)]))
      obtain ⟨v50, T50, h50, L50, X50, e50, hQ50, st50⟩ := own_static X49 hx hZ hown (hw _ (List.mem_of_getElem? (i := 16) rfl)) (hw _ (List.mem_of_getElem? (i := 17) rfl)) (hw _ (List.mem_of_getElem? (i := 18) rfl)) (hw _ (List.mem_of_getElem? (i := 19) rfl)) (by decide) (rmV l Z a0 hw i4 h49 n0 Z0 O hic) e49 (g := (mkF m 128 #[.val (.int i0), .val (.int i1), .val (.int i2), .val (.int i3), .val (.int i4), .val (.int i5), .val (.int (3 : Int32)), .val (.int (0 : Int32)), .val (.ref ex), .val (.ref s1), .val (.int i0), .unset, .unset] [(.int i4), (.int (0 : Int32)), (.ref s1)])) rfl (by rw [hml]; rfl) (argsL := [(.int i4)]) (rest := [(.int (0 : Int32)), (.ref s1)]) (lenOf pd_13 rfl) rfl (W := 2) (by show 2 * 0 + _ ≤ _; exact Nat.le_of_eq rfl) (hb hby at_128) (by decide) (by decide) (by decide) (by decide)
      obtain ⟨re, rfl, N50q, K50, E_re, V_re⟩ := hQ50
      have N50 := Fr.app N49 N50q
      have Z0 := Nat.le_trans Z0 K50.1
      have O := O.keep K50 all0
      have V_ex := V_ex.keep K50 nin0
      have E_s1 := E_s1.keep K50
      have E_r0 := E_r0.keep K50
      have V_r0 := V_r0.keep K50 nin0
      have E_q0 := E_q0.keep K50
      have E_r1 := E_r1.keep K50
      have V_r1 := V_r1.keep K50 nin0
      have E_q1 := E_q1.keep K50
      have Eq0 := Eq0.keep K50 nin0
      have Pq0 := Pq0.keep K50 nin0
      have Nq0 := Nq0.keep K50 nin0
      have E_r2 := E_r2.keep K50
      have V_r2 := V_r2.keep K50 nin0
      have E_q2 := E_q2.keep K50
      have Hs1 := Hs1.keep K50 nin0
      have Ts1 := Ts1.keep K50 nin0
      have Ss1 := Ss1.keep K50 nin0
      have Eq1 := Eq1.keep K50 nin0
      have Pq1 := Pq1.keep K50 nin0
      have Nq1 := Nq1.keep K50 nin0
      have Eq2 := Eq2.keep K50 nin0
      have Pq2 := Pq2.keep K50 nin0
      have Nq2 := Nq2.keep K50 nin0
      refine own_st st50 ?_
      show Fin1 p e below s (rm0Q Z i0 i1 i2 i3 i4 i5 h0 n0) room_1.cells room_1.slots (T50.setTop (mkF m 131 #[.val (.int i0), .val (.int i1), .val (.int i2), .val (.int i3), .val (.int i4), .val (.int i5), .val (.int (3 : Int32)), .val (.int (0 : Int32)), .val (.ref ex), .val (.ref s1), .val (.int i0), .unset, .unset] [(.ref re), (.int (0 : Int32)), (.ref s1)]))
      have ne_re_ex : re ≠ ex := own_ne_arv E_re (hw _ (List.mem_of_getElem? (i := 89) rfl)) V_ex
      have ne_re_s1 : re ≠ s1 := ne_exa E_re E_s1 (by decide)
      have ne_re_q0 : re ≠ q0 := ne_exa E_re E_q0 (by decide)
      have ne_re_q1 : re ≠ q1 := ne_exa E_re E_q1 (by decide)
      have ne_re_q2 : re ≠ q2 := ne_exa E_re E_q2 (by decide)
      obtain ⟨v51, T51, h51, L51, X51, e51, hQ51, st51⟩ := own_virtual X50 hx hZ hown (hw _ (List.mem_of_getElem? (i := 59) rfl)) (hw _ (List.mem_of_getElem? (i := 60) rfl)) (hw _ (List.mem_of_getElem? (i := 62) rfl)) (hw _ (List.mem_of_getElem? (i := 61) rfl)) (hw _ (List.mem_of_getElem? (i := 63) rfl)) (hw _ (List.mem_of_getElem? (i := 4) rfl)) (by decide) (a := s1) E_s1 (rmT30 l Z a0 hw s1 re q0 r0 .null (.ref q1) h50 n0 Z0 g_q0 E_s1 E_q0 Ss1 Hs1 Eq0 Pq0 Nq0) e50 (g := (mkF m 131 #[.val (.int i0), .val (.int i1), .val (.int i2), .val (.int i3), .val (.int i4), .val (.int i5), .val (.int (3 : Int32)), .val (.int (0 : Int32)), .val (.ref ex), .val (.ref s1), .val (.int i0), .unset, .unset] [(.ref re), (.int (0 : Int32)), (.ref s1)])) rfl (by rw [hml]; rfl) (argsL := [(.int (0 : Int32)), (.ref re)]) (rest := []) (lenOf pd_15 rfl) rfl (W := 0) (by show 2 * 0 + _ ≤ _; exact Nat.le_of_eq rfl) (hb hby at_131) (by decide) (by decide) (by decide) (by decide)
      obtain ⟨rfl, N51q, K51, Eq0, Pq0, Nq0⟩ := hQ51
      have N51 := Fr.app N50 N51q
      have Z0 := Nat.le_trans Z0 K51.1
      have O := O.keep K51 (allS (P := fun x => n0 ≤ x) g_q0 all0)
      have V_ex := V_ex.keep K51 (ninS ne_ex_q0 nin0)
      have E_s1 := E_s1.keep K51
      have E_r0 := E_r0.keep K51
      have V_r0 := V_r0.keep K51 (ninS ne_r0_q0 nin0)
      have E_q0 := E_q0.keep K51
      have E_r1 := E_r1.keep K51
      have V_r1 := V_r1.keep K51 (ninS ne_r1_q0 nin0)
      have E_q1 := E_q1.keep K51
      have E_r2 := E_r2.keep K51
      have V_r2 := V_r2.keep K51 (ninS ne_r2_q0 nin0)
      have E_q2 := E_q2.keep K51
      have Hs1 := Hs1.keep K51 (ninS ne_s1_q0 nin0)
      have Ts1 := Ts1.keep K51 (ninS ne_s1_q0 nin0)
      have Ss1 := Ss1.keep K51 (ninS ne_s1_q0 nin0)
      have Eq1 := Eq1.keep K51 (ninS (Ne.symm ne_q0_q1) nin0)
      have Pq1 := Pq1.keep K51 (ninS (Ne.symm ne_q0_q1) nin0)
      have Nq1 := Nq1.keep K51 (ninS (Ne.symm ne_q0_q1) nin0)
      have Eq2 := Eq2.keep K51 (ninS (Ne.symm ne_q0_q2) nin0)
      have Pq2 := Pq2.keep K51 (ninS (Ne.symm ne_q0_q2) nin0)
      have Nq2 := Nq2.keep K51 (ninS (Ne.symm ne_q0_q2) nin0)
      have E_re := E_re.keep K51
      have V_re := V_re.keep K51 (ninS ne_re_q0 nin0)
      refine own_st st51 ?_
      show Fin1 p e below s (rm0Q Z i0 i1 i2 i3 i4 i5 h0 n0) room_1.cells room_1.slots (T51.setTop (mkF m 134 #[.val (.int i0), .val (.int i1), .val (.int i2), .val (.int i3), .val (.int i4), .val (.int i5), .val (.int (3 : Int32)), .val (.int (0 : Int32)), .val (.ref ex), .val (.ref s1), .val (.int i0), .unset, .unset] [(.ref r0)]))
      obtain ⟨T52, X52, e52, st52⟩ := castY X51 hx hZ hown (hw _ (List.mem_of_getElem? (i := 65) rfl)) e51 (Ins.self E_r0) (g := (mkF m 134 #[.val (.int i0), .val (.int i1), .val (.int i2), .val (.int i3), .val (.int i4), .val (.int i5), .val (.int (3 : Int32)), .val (.int (0 : Int32)), .val (.ref ex), .val (.ref s1), .val (.int i0), .unset, .unset] [(.ref r0)])) rfl rfl (hb hby at_134)
      refine own_st st52 ?_
      show Fin1 p e below s (rm0Q Z i0 i1 i2 i3 i4 i5 h0 n0) room_1.cells room_1.slots (T52.setTop (mkF m 137 #[.val (.int i0), .val (.int i1), .val (.int i2), .val (.int i3), .val (.int i4), .val (.int i5), .val (.int (3 : Int32)), .val (.int (0 : Int32)), .val (.ref ex), .val (.ref s1), .val (.int i0), .unset, .unset] [(.ref r0)]))
      refine own_st (fun wt wk => XS.astore X52.here hx rfl (hb hby at_137) rfl rfl (l' := #[.val (.int i0), .val (.int i1), .val (.int i2), .val (.int i3), .val (.int i4), .val (.int i5), .val (.int (3 : Int32)), .val (.int (0 : Int32)), .val (.ref ex), .val (.ref s1), .val (.int i0), .val (.ref r0), .unset]) rfl (XS.aload X52.here hx rfl (hb hby at_139) rfl rfl (XS.iload X52.here hx rfl (hb hby at_141) rfl wk))) ?_
      show Fin1 p e below s (rm0Q Z i0 i1 i2 i3 i4 i5 h0 n0) room_1.cells room_1.slots (T52.setTop (mkF m 143 #[.val (.int i0), .val (.int i1), .val (.int i2), .val (.int i3), .val (.int i4), .val (.int i5), .val (.int (3 : Int32)), .val (.int (0 : Int32)), .val (.ref ex), .val (.ref s1), .val (.int i0), .val (.ref r0), .unset] [(.int i0), (.ref r0)]))
      obtain ⟨v53, T53, h53, L53, X53, e53, hQ53, st53⟩ := own_static X52 hx hZ hown (hw _ (List.mem_of_getElem? (i := 67) rfl)) (hw _ (List.mem_of_getElem? (i := 68) rfl)) (hw _ (List.mem_of_getElem? (i := 69) rfl)) (hw _ (List.mem_of_getElem? (i := 70) rfl)) (by decide) (rmEq l Z a0 hw r0 i0 h51 n0 Z0 E_r0 V_r0) e52 (g := (mkF m 143 #[.val (.int i0), .val (.int i1), .val (.int i2), .val (.int i3), .val (.int i4), .val (.int i5), .val (.int (3 : Int32)), .val (.int (0 : Int32)), .val (.ref ex), .val (.ref s1), .val (.int i0), .val (.ref r0), .unset] [(.int i0), (.ref r0)])) rfl (by rw [hml]; rfl) (argsL := [(.ref r0), (.int i0)]) (rest := []) (lenOf pd_16 rfl) rfl (W := 0) (by show 2 * 0 + _ ≤ _; exact Nat.le_of_eq rfl) (hb hby at_143) (by decide) (by decide) (by decide) (by decide)
      obtain ⟨rfl, N53q, hh53⟩ := hQ53
      have N53 := Fr.app N51 N53q
      rw [hh53] at e53
      refine own_st st53 ?_
      show Fin1 p e below s (rm0Q Z i0 i1 i2 i3 i4 i5 h0 n0) room_1.cells room_1.slots (T53.setTop (mkF m 146 #[.val (.int i0), .val (.int i1), .val (.int i2), .val (.int i3), .val (.int i4), .val (.int i5), .val (.int (3 : Int32)), .val (.int (0 : Int32)), .val (.ref ex), .val (.ref s1), .val (.int i0), .val (.ref r0), .unset] [(.int (1 : Int32))]))
      refine own_st (fun wt wk => XS.ifNo X53.here hx rfl (hb hby at_146) rfl ((if0 _ _).trans (feq (by decide)).1) wk) ?_
      show Fin1 p e below s (rm0Q Z i0 i1 i2 i3 i4 i5 h0 n0) room_1.cells room_1.slots (T53.setTop (mkF m 149 #[.val (.int i0), .val (.int i1), .val (.int i2), .val (.int i3), .val (.int i4), .val (.int i5), .val (.int (3 : Int32)), .val (.int (0 : Int32)), .val (.ref ex), .val (.ref s1), .val (.int i0), .val (.ref r0), .unset] []))
      refine own_st (fun wt wk => XS.aload X53.here hx rfl (hb hby at_149) rfl rfl wk) ?_
      show Fin1 p e below s (rm0Q Z i0 i1 i2 i3 i4 i5 h0 n0) room_1.cells room_1.slots (T53.setTop (mkF m 151 #[.val (.int i0), .val (.int i1), .val (.int i2), .val (.int i3), .val (.int i4), .val (.int i5), .val (.int (3 : Int32)), .val (.int (0 : Int32)), .val (.ref ex), .val (.ref s1), .val (.int i0), .val (.ref r0), .unset] [(.ref s1)]))
      obtain ⟨v54, T54, h54, L54, X54, e54, hQ54, st54⟩ := own_virtual X53 hx hZ hown (hw _ (List.mem_of_getElem? (i := 78) rfl)) (hw _ (List.mem_of_getElem? (i := 79) rfl)) (hw _ (List.mem_of_getElem? (i := 81) rfl)) (hw _ (List.mem_of_getElem? (i := 80) rfl)) (hw _ (List.mem_of_getElem? (i := 82) rfl)) (hw _ (List.mem_of_getElem? (i := 4) rfl)) (by decide) (a := s1) E_s1 (rmZ l Z a0 hw s1 (3 : Int32) h51 n0 Z0 Ss1) e53 (g := (mkF m 151 #[.val (.int i0), .val (.int i1), .val (.int i2), .val (.int i3), .val (.int i4), .val (.int i5), .val (.int (3 : Int32)), .val (.int (0 : Int32)), .val (.ref ex), .val (.ref s1), .val (.int i0), .val (.ref r0), .unset] [(.ref s1)])) rfl (by rw [hml]; rfl) (argsL := []) (rest := []) (lenOf pd_12 rfl) rfl (W := 0) (by show 2 * 0 + _ ≤ _; exact Nat.le_of_eq rfl) (hb hby at_151) (by decide) (by decide) (by decide) (by decide)
      obtain ⟨rfl, N54q, hh54⟩ := hQ54
      have N54 := Fr.app N53 N54q
      rw [hh54] at e54
      refine own_st st54 ?_
      show Fin1 p e below s (rm0Q Z i0 i1 i2 i3 i4 i5 h0 n0) room_1.cells room_1.slots (T54.setTop (mkF m 154 #[.val (.int i0), .val (.int i1), .val (.int i2), .val (.int i3), .val (.int i4), .val (.int i5), .val (.int (3 : Int32)), .val (.int (0 : Int32)), .val (.ref ex), .val (.ref s1), .val (.int i0), .val (.ref r0), .unset] [(.int (3 : Int32))]))
      refine own_st (fun wt wk => XS.iload X54.here hx rfl (hb hby at_154) rfl wk) ?_
      show Fin1 p e below s (rm0Q Z i0 i1 i2 i3 i4 i5 h0 n0) room_1.cells room_1.slots (T54.setTop (mkF m 156 #[.val (.int i0), .val (.int i1), .val (.int i2), .val (.int i3), .val (.int i4), .val (.int i5), .val (.int (3 : Int32)), .val (.int (0 : Int32)), .val (.ref ex), .val (.ref s1), .val (.int i0), .val (.ref r0), .unset] [(.int (3 : Int32)), (.int (3 : Int32))]))
      refine own_st (fun wt wk => XS.icmpNo X54.here hx rfl (hb hby at_156) rfl (teq (by decide)).2 wk) ?_
      show Fin1 p e below s (rm0Q Z i0 i1 i2 i3 i4 i5 h0 n0) room_1.cells room_1.slots (T54.setTop (mkF m 159 #[.val (.int i0), .val (.int i1), .val (.int i2), .val (.int i3), .val (.int i4), .val (.int i5), .val (.int (3 : Int32)), .val (.int (0 : Int32)), .val (.ref ex), .val (.ref s1), .val (.int i0), .val (.ref r0), .unset] []))
      refine own_st (fun wt wk => XS.iconst X54.here hx rfl (hb hby at_159) (XS.goto X54.here hx rfl (pc0 := 160) (pc' := 164) rfl (hb hby at_160) (by decide) (by decide) (XS.istore X54.here hx rfl (hb hby at_164) rfl (l' := #[.val (.int i0), .val (.int i1), .val (.int i2), .val (.int i3), .val (.int i4), .val (.int i5), .val (.int (3 : Int32)), .val (.int (0 : Int32)), .val (.ref ex), .val (.ref s1), .val (.int i0), .val (.ref r0), .val (.int (1 : Int32))]) rfl (XS.iload X54.here hx rfl (hb hby at_166) rfl wk)))) ?_
      show Fin1 p e below s (rm0Q Z i0 i1 i2 i3 i4 i5 h0 n0) room_1.cells room_1.slots (T54.setTop (mkF m 168 #[.val (.int i0), .val (.int i1), .val (.int i2), .val (.int i3), .val (.int i4), .val (.int i5), .val (.int (3 : Int32)), .val (.int (0 : Int32)), .val (.ref ex), .val (.ref s1), .val (.int i0), .val (.ref r0), .val (.int (1 : Int32))] [(.int (1 : Int32))]))
      refine own_st (fun wt wk => XS.ifNo X54.here hx rfl (hb hby at_168) rfl ((if0 _ _).trans (feq (by decide)).1) wk) ?_
      show Fin1 p e below s (rm0Q Z i0 i1 i2 i3 i4 i5 h0 n0) room_1.cells room_1.slots (T54.setTop (mkF m 171 #[.val (.int i0), .val (.int i1), .val (.int i2), .val (.int i3), .val (.int i4), .val (.int i5), .val (.int (3 : Int32)), .val (.int (0 : Int32)), .val (.ref ex), .val (.ref s1), .val (.int i0), .val (.ref r0), .val (.int (1 : Int32))] []))
      refine own_st (fun wt wk => XS.aload X54.here hx rfl (hb hby at_171) rfl rfl (XS.iconst X54.here hx rfl (hb hby at_173) wk)) ?_
      show Fin1 p e below s (rm0Q Z i0 i1 i2 i3 i4 i5 h0 n0) room_1.cells room_1.slots (T54.setTop (mkF m 174 #[.val (.int i0), .val (.int i1), .val (.int i2), .val (.int i3), .val (.int i4), .val (.int i5), .val (.int (3 : Int32)), .val (.int (0 : Int32)), .val (.ref ex), .val (.ref s1), .val (.int i0), .val (.ref r0), .val (.int (1 : Int32))] [(.int (0 : Int32)), (.ref s1)]))
      obtain ⟨v55, T55, h55, L55, X55, e55, hQ55, st55⟩ := own_virtual X54 hx hZ hown (hw _ (List.mem_of_getElem? (i := 83) rfl)) (hw _ (List.mem_of_getElem? (i := 84) rfl)) (hw _ (List.mem_of_getElem? (i := 86) rfl)) (hw _ (List.mem_of_getElem? (i := 85) rfl)) (hw _ (List.mem_of_getElem? (i := 87) rfl)) (hw _ (List.mem_of_getElem? (i := 4) rfl)) (by decide) (a := s1) E_s1 (rmG30 l Z a0 hw s1 q0 re h51 n0 Z0 E_s1 Ss1 Hs1 Eq0) e54 (g := (mkF m 174 #[.val (.int i0), .val (.int i1), .val (.int i2), .val (.int i3), .val (.int i4), .val (.int i5), .val (.int (3 : Int32)), .val (.int (0 : Int32)), .val (.ref ex), .val (.ref s1), .val (.int i0), .val (.ref r0), .val (.int (1 : Int32))] [(.int (0 : Int32)), (.ref s1)])) rfl (by rw [hml]; rfl) (argsL := [(.int (0 : Int32))]) (rest := []) (lenOf pd_17 rfl) rfl (W := 0) (by show 2 * 0 + _ ≤ _; exact Nat.le_of_eq rfl) (hb hby at_174) (by decide) (by decide) (by decide) (by decide)
      obtain ⟨rfl, N55q, hh55⟩ := hQ55
      have N55 := Fr.app N54 N55q
      rw [hh55] at e55
      refine own_st st55 ?_
      show Fin1 p e below s (rm0Q Z i0 i1 i2 i3 i4 i5 h0 n0) room_1.cells room_1.slots (T55.setTop (mkF m 177 #[.val (.int i0), .val (.int i1), .val (.int i2), .val (.int i3), .val (.int i4), .val (.int i5), .val (.int (3 : Int32)), .val (.int (0 : Int32)), .val (.ref ex), .val (.ref s1), .val (.int i0), .val (.ref r0), .val (.int (1 : Int32))] [(.ref re)]))
      obtain ⟨T56, X56, e56, st56⟩ := castY X55 hx hZ hown (hw _ (List.mem_of_getElem? (i := 65) rfl)) e55 (Ins.self E_re) (g := (mkF m 177 #[.val (.int i0), .val (.int i1), .val (.int i2), .val (.int i3), .val (.int i4), .val (.int i5), .val (.int (3 : Int32)), .val (.int (0 : Int32)), .val (.ref ex), .val (.ref s1), .val (.int i0), .val (.ref r0), .val (.int (1 : Int32))] [(.ref re)])) rfl rfl (hb hby at_177)
      refine own_st st56 ?_
      show Fin1 p e below s (rm0Q Z i0 i1 i2 i3 i4 i5 h0 n0) room_1.cells room_1.slots (T56.setTop (mkF m 180 #[.val (.int i0), .val (.int i1), .val (.int i2), .val (.int i3), .val (.int i4), .val (.int i5), .val (.int (3 : Int32)), .val (.int (0 : Int32)), .val (.ref ex), .val (.ref s1), .val (.int i0), .val (.ref r0), .val (.int (1 : Int32))] [(.ref re)]))
      refine own_st (fun wt wk => XS.aload X56.here hx rfl (hb hby at_180) rfl rfl (XS.iconst X56.here hx rfl (hb hby at_182) wk)) ?_
      show Fin1 p e below s (rm0Q Z i0 i1 i2 i3 i4 i5 h0 n0) room_1.cells room_1.slots (T56.setTop (mkF m 183 #[.val (.int i0), .val (.int i1), .val (.int i2), .val (.int i3), .val (.int i4), .val (.int i5), .val (.int (3 : Int32)), .val (.int (0 : Int32)), .val (.ref ex), .val (.ref s1), .val (.int i0), .val (.ref r0), .val (.int (1 : Int32))] [(.int (0 : Int32)), (.ref ex), (.ref re)]))
      refine own_st (own_ld (j := (0 : Int32)) (v := (.int i4)) X56 hx hZ e56 V_ex ⟨by decide, by decide⟩ rfl (g := (mkF m 183 #[.val (.int i0), .val (.int i1), .val (.int i2), .val (.int i3), .val (.int i4), .val (.int i5), .val (.int (3 : Int32)), .val (.int (0 : Int32)), .val (.ref ex), .val (.ref s1), .val (.int i0), .val (.ref r0), .val (.int (1 : Int32))] [(.int (0 : Int32)), (.ref ex), (.ref re)])) rfl rfl (Or.inl ⟨rfl, rfl⟩) (hb hby at_183)) ?_
      show Fin1 p e below s (rm0Q Z i0 i1 i2 i3 i4 i5 h0 n0) room_1.cells room_1.slots (T56.setTop (mkF m 184 #[.val (.int i0), .val (.int i1), .val (.int i2), .val (.int i3), .val (.int i4), .val (.int i5), .val (.int (3 : Int32)), .val (.int (0 : Int32)), .val (.ref ex), .val (.ref s1), .val (.int i0), .val (.ref r0), .val (.int (1 : Int32))] [(.int i4), (.ref re)]))
      obtain ⟨v57, T57, h57, L57, X57, e57, hQ57, st57⟩ := own_static X56 hx hZ hown (hw _ (List.mem_of_getElem? (i := 67) rfl)) (hw _ (List.mem_of_getElem? (i := 68) rfl)) (hw _ (List.mem_of_getElem? (i := 69) rfl)) (hw _ (List.mem_of_getElem? (i := 70) rfl)) (by decide) (rmEq l Z a0 hw re i4 h51 n0 Z0 E_re V_re) e56 (g := (mkF m 184 #[.val (.int i0), .val (.int i1), .val (.int i2), .val (.int i3), .val (.int i4), .val (.int i5), .val (.int (3 : Int32)), .val (.int (0 : Int32)), .val (.ref ex), .val (.ref s1), .val (.int i0), .val (.ref r0), .val (.int (1 : Int32))] [(.int i4), (.ref re)])) rfl (by rw [hml]; rfl) (argsL := [(.ref re), (.int i4)]) (rest := []) (lenOf pd_16 rfl) rfl (W := 0) (by show 2 * 0 + _ ≤ _; exact Nat.le_of_eq rfl) (hb hby at_184) (by decide) (by decide) (by decide) (by decide)
      obtain ⟨rfl, N57q, hh57⟩ := hQ57
      have N57 := Fr.app N55 N57q
      rw [hh57] at e57
      refine own_st st57 ?_
      show Fin1 p e below s (rm0Q Z i0 i1 i2 i3 i4 i5 h0 n0) room_1.cells room_1.slots (T57.setTop (mkF m 187 #[.val (.int i0), .val (.int i1), .val (.int i2), .val (.int i3), .val (.int i4), .val (.int i5), .val (.int (3 : Int32)), .val (.int (0 : Int32)), .val (.ref ex), .val (.ref s1), .val (.int i0), .val (.ref r0), .val (.int (1 : Int32))] [(.int (1 : Int32))]))
      refine own_st (fun wt wk => XS.ifNo X57.here hx rfl (hb hby at_187) rfl ((if0 _ _).trans (feq (by decide)).1) wk) ?_
      show Fin1 p e below s (rm0Q Z i0 i1 i2 i3 i4 i5 h0 n0) room_1.cells room_1.slots (T57.setTop (mkF m 190 #[.val (.int i0), .val (.int i1), .val (.int i2), .val (.int i3), .val (.int i4), .val (.int i5), .val (.int (3 : Int32)), .val (.int (0 : Int32)), .val (.ref ex), .val (.ref s1), .val (.int i0), .val (.ref r0), .val (.int (1 : Int32))] []))
      refine own_st (fun wt wk => XS.iconst X57.here hx rfl (hb hby at_190) (XS.goto X57.here hx rfl (pc0 := 191) (pc' := 195) rfl (hb hby at_191) (by decide) (by decide) (XS.istore X57.here hx rfl (hb hby at_195) rfl (l' := #[.val (.int i0), .val (.int i1), .val (.int i2), .val (.int i3), .val (.int i4), .val (.int i5), .val (.int (3 : Int32)), .val (.int (0 : Int32)), .val (.ref ex), .val (.ref s1), .val (.int i0), .val (.ref r0), .val (.int (1 : Int32))]) rfl (XS.iload X57.here hx rfl (hb hby at_197) rfl (XS.iconst X57.here hx rfl (hb hby at_199) wk))))) ?_
      show Fin1 p e below s (rm0Q Z i0 i1 i2 i3 i4 i5 h0 n0) room_1.cells room_1.slots (T57.setTop (mkF m 200 #[.val (.int i0), .val (.int i1), .val (.int i2), .val (.int i3), .val (.int i4), .val (.int i5), .val (.int (3 : Int32)), .val (.int (0 : Int32)), .val (.ref ex), .val (.ref s1), .val (.int i0), .val (.ref r0), .val (.int (1 : Int32))] [(.int (1 : Int32)), (.int (3 : Int32))]))
      refine own_st (fun wt wk => XS.icmpNo X57.here hx rfl (hb hby at_200) rfl (tlt (by decide)).2.2.2 wk) ?_
      show Fin1 p e below s (rm0Q Z i0 i1 i2 i3 i4 i5 h0 n0) room_1.cells room_1.slots (T57.setTop (mkF m 203 #[.val (.int i0), .val (.int i1), .val (.int i2), .val (.int i3), .val (.int i4), .val (.int i5), .val (.int (3 : Int32)), .val (.int (0 : Int32)), .val (.ref ex), .val (.ref s1), .val (.int i0), .val (.ref r0), .val (.int (1 : Int32))] []))
      refine own_st (fun wt wk => XS.iload X57.here hx rfl (hb hby at_203) rfl wk) ?_
      show Fin1 p e below s (rm0Q Z i0 i1 i2 i3 i4 i5 h0 n0) room_1.cells room_1.slots (T57.setTop (mkF m 205 #[.val (.int i0), .val (.int i1), .val (.int i2), .val (.int i3), .val (.int i4), .val (.int i5), .val (.int (3 : Int32)), .val (.int (0 : Int32)), .val (.ref ex), .val (.ref s1), .val (.int i0), .val (.ref r0), .val (.int (1 : Int32))] [(.int (1 : Int32))]))
      refine own_st (fun wt wk => XS.ifNo X57.here hx rfl (hb hby at_205) rfl ((if0 _ _).trans (feq (by decide)).1) wk) ?_
      show Fin1 p e below s (rm0Q Z i0 i1 i2 i3 i4 i5 h0 n0) room_1.cells room_1.slots (T57.setTop (mkF m 208 #[.val (.int i0), .val (.int i1), .val (.int i2), .val (.int i3), .val (.int i4), .val (.int i5), .val (.int (3 : Int32)), .val (.int (0 : Int32)), .val (.ref ex), .val (.ref s1), .val (.int i0), .val (.ref r0), .val (.int (1 : Int32))] []))
      refine own_st (fun wt wk => XS.aload X57.here hx rfl (hb hby at_208) rfl rfl (XS.iconst X57.here hx rfl (hb hby at_210) wk)) ?_
      show Fin1 p e below s (rm0Q Z i0 i1 i2 i3 i4 i5 h0 n0) room_1.cells room_1.slots (T57.setTop (mkF m 211 #[.val (.int i0), .val (.int i1), .val (.int i2), .val (.int i3), .val (.int i4), .val (.int i5), .val (.int (3 : Int32)), .val (.int (0 : Int32)), .val (.ref ex), .val (.ref s1), .val (.int i0), .val (.ref r0), .val (.int (1 : Int32))] [(.int (1 : Int32)), (.ref s1)]))
      obtain ⟨v58, T58, h58, L58, X58, e58, hQ58, st58⟩ := own_virtual X57 hx hZ hown (hw _ (List.mem_of_getElem? (i := 83) rfl)) (hw _ (List.mem_of_getElem? (i := 84) rfl)) (hw _ (List.mem_of_getElem? (i := 86) rfl)) (hw _ (List.mem_of_getElem? (i := 85) rfl)) (hw _ (List.mem_of_getElem? (i := 87) rfl)) (hw _ (List.mem_of_getElem? (i := 4) rfl)) (by decide) (a := s1) E_s1 (rmG31 l Z a0 hw s1 q1 q2 r1 h51 n0 Z0 E_s1 Ss1 Ts1 Pq2 Eq1) e57 (g := (mkF m 211 #[.val (.int i0), .val (.int i1), .val (.int i2), .val (.int i3), .val (.int i4), .val (.int i5), .val (.int (3 : Int32)), .val (.int (0 : Int32)), .val (.ref ex), .val (.ref s1), .val (.int i0), .val (.ref r0), .val (.int (1 : Int32))] [(.int (1 : Int32)), (.ref s1)])) rfl (by rw [hml]; rfl) (argsL := [(.int (1 : Int32))]) (rest := []) (lenOf pd_17 rfl) rfl (W := 0) (by show 2 * 0 + _ ≤ _; exact Nat.le_of_eq rfl) (hb hby at_211) (by decide) (by decide) (by decide) (by decide)
      obtain ⟨rfl, N58q, hh58⟩ := hQ58
      have N58 := Fr.app N57 N58q
      rw [hh58] at e58
      refine own_st st58 ?_
      show Fin1 p e below s (rm0Q Z i0 i1 i2 i3 i4 i5 h0 n0) room_1.cells room_1.slots (T58.setTop (mkF m 214 #[.val (.int i0), .val (.int i1), .val (.int i2), .val (.int i3), .val (.int i4), .val (.int i5), .val (.int (3 : Int32)), .val (.int (0 : Int32)), .val (.ref ex), .val (.ref s1), .val (.int i0), .val (.ref r0), .val (.int (1 : Int32))] [(.ref r1)]))
      obtain ⟨T59, X59, e59, st59⟩ := castY X58 hx hZ hown (hw _ (List.mem_of_getElem? (i := 65) rfl)) e58 (Ins.self E_r1) (g := (mkF m 214 #[.val (.int i0), .val (.int i1), .val (.int i2), .val (.int i3), .val (.int i4), .val (.int i5), .val (.int (3 : Int32)), .val (.int (0 : Int32)), .val (.ref ex), .val (.ref s1), .val (.int i0), .val (.ref r0), .val (.int (1 : Int32))] [(.ref r1)])) rfl rfl (hb hby at_214)
      refine own_st st59 ?_
      show Fin1 p e below s (rm0Q Z i0 i1 i2 i3 i4 i5 h0 n0) room_1.cells room_1.slots (T59.setTop (mkF m 217 #[.val (.int i0), .val (.int i1), .val (.int i2), .val (.int i3), .val (.int i4), .val (.int i5), .val (.int (3 : Int32)), .val (.int (0 : Int32)), .val (.ref ex), .val (.ref s1), .val (.int i0), .val (.ref r0), .val (.int (1 : Int32))] [(.ref r1)]))
      refine own_st (fun wt wk => XS.aload X59.here hx rfl (hb hby at_217) rfl rfl (XS.iconst X59.here hx rfl (hb hby at_219) wk)) ?_
      show Fin1 p e below s (rm0Q Z i0 i1 i2 i3 i4 i5 h0 n0) room_1.cells room_1.slots (T59.setTop (mkF m 220 #[.val (.int i0), .val (.int i1), .val (.int i2), .val (.int i3), .val (.int i4), .val (.int i5), .val (.int (3 : Int32)), .val (.int (0 : Int32)), .val (.ref ex), .val (.ref s1), .val (.int i0), .val (.ref r0), .val (.int (1 : Int32))] [(.int (1 : Int32)), (.ref ex), (.ref r1)]))
      refine own_st (own_ld (j := (1 : Int32)) (v := (.int i1)) X59 hx hZ e59 V_ex ⟨by decide, by decide⟩ rfl (g := (mkF m 220 #[.val (.int i0), .val (.int i1), .val (.int i2), .val (.int i3), .val (.int i4), .val (.int i5), .val (.int (3 : Int32)), .val (.int (0 : Int32)), .val (.ref ex), .val (.ref s1), .val (.int i0), .val (.ref r0), .val (.int (1 : Int32))] [(.int (1 : Int32)), (.ref ex), (.ref r1)])) rfl rfl (Or.inl ⟨rfl, rfl⟩) (hb hby at_220)) ?_
      show Fin1 p e below s (rm0Q Z i0 i1 i2 i3 i4 i5 h0 n0) room_1.cells room_1.slots (T59.setTop (mkF m 221 #[.val (.int i0), .val (.int i1), .val (.int i2), .val (.int i3), .val (.int i4), .val (.int i5), .val (.int (3 : Int32)), .val (.int (0 : Int32)), .val (.ref ex), .val (.ref s1), .val (.int i0), .val (.ref r0), .val (.int (1 : Int32))] [(.int i1), (.ref r1)]))
      obtain ⟨v60, T60, h60, L60, X60, e60, hQ60, st60⟩ := own_static X59 hx hZ hown (hw _ (List.mem_of_getElem? (i := 67) rfl)) (hw _ (List.mem_of_getElem? (i := 68) rfl)) (hw _ (List.mem_of_getElem? (i := 69) rfl)) (hw _ (List.mem_of_getElem? (i := 70) rfl)) (by decide) (rmEq l Z a0 hw r1 i1 h51 n0 Z0 E_r1 V_r1) e59 (g := (mkF m 221 #[.val (.int i0), .val (.int i1), .val (.int i2), .val (.int i3), .val (.int i4), .val (.int i5), .val (.int (3 : Int32)), .val (.int (0 : Int32)), .val (.ref ex), .val (.ref s1), .val (.int i0), .val (.ref r0), .val (.int (1 : Int32))] [(.int i1), (.ref r1)])) rfl (by rw [hml]; rfl) (argsL := [(.ref r1), (.int i1)]) (rest := []) (lenOf pd_16 rfl) rfl (W := 0) (by show 2 * 0 + _ ≤ _; exact Nat.le_of_eq rfl) (hb hby at_221) (by decide) (by decide) (by decide) (by decide)
      obtain ⟨rfl, N60q, hh60⟩ := hQ60
      have N60 := Fr.app N58 N60q
      rw [hh60] at e60
      refine own_st st60 ?_
      show Fin1 p e below s (rm0Q Z i0 i1 i2 i3 i4 i5 h0 n0) room_1.cells room_1.slots (T60.setTop (mkF m 224 #[.val (.int i0), .val (.int i1), .val (.int i2), .val (.int i3), .val (.int i4), .val (.int i5), .val (.int (3 : Int32)), .val (.int (0 : Int32)), .val (.ref ex), .val (.ref s1), .val (.int i0), .val (.ref r0), .val (.int (1 : Int32))] [(.int (1 : Int32))]))
      refine own_st (fun wt wk => XS.ifNo X60.here hx rfl (hb hby at_224) rfl ((if0 _ _).trans (feq (by decide)).1) wk) ?_
      show Fin1 p e below s (rm0Q Z i0 i1 i2 i3 i4 i5 h0 n0) room_1.cells room_1.slots (T60.setTop (mkF m 227 #[.val (.int i0), .val (.int i1), .val (.int i2), .val (.int i3), .val (.int i4), .val (.int i5), .val (.int (3 : Int32)), .val (.int (0 : Int32)), .val (.ref ex), .val (.ref s1), .val (.int i0), .val (.ref r0), .val (.int (1 : Int32))] []))
      refine own_st (fun wt wk => XS.iconst X60.here hx rfl (hb hby at_227) (XS.goto X60.here hx rfl (pc0 := 228) (pc' := 232) rfl (hb hby at_228) (by decide) (by decide) (XS.istore X60.here hx rfl (hb hby at_232) rfl (l' := #[.val (.int i0), .val (.int i1), .val (.int i2), .val (.int i3), .val (.int i4), .val (.int i5), .val (.int (3 : Int32)), .val (.int (0 : Int32)), .val (.ref ex), .val (.ref s1), .val (.int i0), .val (.ref r0), .val (.int (1 : Int32))]) rfl (XS.iload X60.here hx rfl (hb hby at_234) rfl (XS.iconst X60.here hx rfl (hb hby at_236) wk))))) ?_
      show Fin1 p e below s (rm0Q Z i0 i1 i2 i3 i4 i5 h0 n0) room_1.cells room_1.slots (T60.setTop (mkF m 237 #[.val (.int i0), .val (.int i1), .val (.int i2), .val (.int i3), .val (.int i4), .val (.int i5), .val (.int (3 : Int32)), .val (.int (0 : Int32)), .val (.ref ex), .val (.ref s1), .val (.int i0), .val (.ref r0), .val (.int (1 : Int32))] [(.int (2 : Int32)), (.int (3 : Int32))]))
      refine own_st (fun wt wk => XS.icmpNo X60.here hx rfl (hb hby at_237) rfl (tlt (by decide)).2.2.2 wk) ?_
      show Fin1 p e below s (rm0Q Z i0 i1 i2 i3 i4 i5 h0 n0) room_1.cells room_1.slots (T60.setTop (mkF m 240 #[.val (.int i0), .val (.int i1), .val (.int i2), .val (.int i3), .val (.int i4), .val (.int i5), .val (.int (3 : Int32)), .val (.int (0 : Int32)), .val (.ref ex), .val (.ref s1), .val (.int i0), .val (.ref r0), .val (.int (1 : Int32))] []))
      refine own_st (fun wt wk => XS.iload X60.here hx rfl (hb hby at_240) rfl wk) ?_
      show Fin1 p e below s (rm0Q Z i0 i1 i2 i3 i4 i5 h0 n0) room_1.cells room_1.slots (T60.setTop (mkF m 242 #[.val (.int i0), .val (.int i1), .val (.int i2), .val (.int i3), .val (.int i4), .val (.int i5), .val (.int (3 : Int32)), .val (.int (0 : Int32)), .val (.ref ex), .val (.ref s1), .val (.int i0), .val (.ref r0), .val (.int (1 : Int32))] [(.int (1 : Int32))]))
      refine own_st (fun wt wk => XS.ifNo X60.here hx rfl (hb hby at_242) rfl ((if0 _ _).trans (feq (by decide)).1) wk) ?_
      show Fin1 p e below s (rm0Q Z i0 i1 i2 i3 i4 i5 h0 n0) room_1.cells room_1.slots (T60.setTop (mkF m 245 #[.val (.int i0), .val (.int i1), .val (.int i2), .val (.int i3), .val (.int i4), .val (.int i5), .val (.int (3 : Int32)), .val (.int (0 : Int32)), .val (.ref ex), .val (.ref s1), .val (.int i0), .val (.ref r0), .val (.int (1 : Int32))] []))
      refine own_st (fun wt wk => XS.aload X60.here hx rfl (hb hby at_245) rfl rfl (XS.iconst X60.here hx rfl (hb hby at_247) wk)) ?_
      show Fin1 p e below s (rm0Q Z i0 i1 i2 i3 i4 i5 h0 n0) room_1.cells room_1.slots (T60.setTop (mkF m 248 #[.val (.int i0), .val (.int i1), .val (.int i2), .val (.int i3), .val (.int i4), .val (.int i5), .val (.int (3 : Int32)), .val (.int (0 : Int32)), .val (.ref ex), .val (.ref s1), .val (.int i0), .val (.ref r0), .val (.int (1 : Int32))] [(.int (2 : Int32)), (.ref s1)]))
      obtain ⟨v61, T61, h61, L61, X61, e61, hQ61, st61⟩ := own_virtual X60 hx hZ hown (hw _ (List.mem_of_getElem? (i := 83) rfl)) (hw _ (List.mem_of_getElem? (i := 84) rfl)) (hw _ (List.mem_of_getElem? (i := 86) rfl)) (hw _ (List.mem_of_getElem? (i := 85) rfl)) (hw _ (List.mem_of_getElem? (i := 87) rfl)) (hw _ (List.mem_of_getElem? (i := 4) rfl)) (by decide) (a := s1) E_s1 (rmG32 l Z a0 hw s1 q2 r2 h51 n0 Z0 E_s1 Ss1 Ts1 Eq2) e60 (g := (mkF m 248 #[.val (.int i0), .val (.int i1), .val (.int i2), .val (.int i3), .val (.int i4), .val (.int i5), .val (.int (3 : Int32)), .val (.int (0 : Int32)), .val (.ref ex), .val (.ref s1), .val (.int i0), .val (.ref r0), .val (.int (1 : Int32))] [(.int (2 : Int32)), (.ref s1)])) rfl (by rw [hml]; rfl) (argsL := [(.int (2 : Int32))]) (rest := []) (lenOf pd_17 rfl) rfl (W := 0) (by show 2 * 0 + _ ≤ _; exact Nat.le_of_eq rfl) (hb hby at_248) (by decide) (by decide) (by decide) (by decide)
      obtain ⟨rfl, N61q, hh61⟩ := hQ61
      have N61 := Fr.app N60 N61q
      rw [hh61] at e61
      refine own_st st61 ?_
      show Fin1 p e below s (rm0Q Z i0 i1 i2 i3 i4 i5 h0 n0) room_1.cells room_1.slots (T61.setTop (mkF m 251 #[.val (.int i0), .val (.int i1), .val (.int i2), .val (.int i3), .val (.int i4), .val (.int i5), .val (.int (3 : Int32)), .val (.int (0 : Int32)), .val (.ref ex), .val (.ref s1), .val (.int i0), .val (.ref r0), .val (.int (1 : Int32))] [(.ref r2)]))
      obtain ⟨T62, X62, e62, st62⟩ := castY X61 hx hZ hown (hw _ (List.mem_of_getElem? (i := 65) rfl)) e61 (Ins.self E_r2) (g := (mkF m 251 #[.val (.int i0), .val (.int i1), .val (.int i2), .val (.int i3), .val (.int i4), .val (.int i5), .val (.int (3 : Int32)), .val (.int (0 : Int32)), .val (.ref ex), .val (.ref s1), .val (.int i0), .val (.ref r0), .val (.int (1 : Int32))] [(.ref r2)])) rfl rfl (hb hby at_251)
      refine own_st st62 ?_
      show Fin1 p e below s (rm0Q Z i0 i1 i2 i3 i4 i5 h0 n0) room_1.cells room_1.slots (T62.setTop (mkF m 254 #[.val (.int i0), .val (.int i1), .val (.int i2), .val (.int i3), .val (.int i4), .val (.int i5), .val (.int (3 : Int32)), .val (.int (0 : Int32)), .val (.ref ex), .val (.ref s1), .val (.int i0), .val (.ref r0), .val (.int (1 : Int32))] [(.ref r2)]))
      refine own_st (fun wt wk => XS.aload X62.here hx rfl (hb hby at_254) rfl rfl (XS.iconst X62.here hx rfl (hb hby at_256) wk)) ?_
      show Fin1 p e below s (rm0Q Z i0 i1 i2 i3 i4 i5 h0 n0) room_1.cells room_1.slots (T62.setTop (mkF m 257 #[.val (.int i0), .val (.int i1), .val (.int i2), .val (.int i3), .val (.int i4), .val (.int i5), .val (.int (3 : Int32)), .val (.int (0 : Int32)), .val (.ref ex), .val (.ref s1), .val (.int i0), .val (.ref r0), .val (.int (1 : Int32))] [(.int (2 : Int32)), (.ref ex), (.ref r2)]))
      refine own_st (own_ld (j := (2 : Int32)) (v := (.int i2)) X62 hx hZ e62 V_ex ⟨by decide, by decide⟩ rfl (g := (mkF m 257 #[.val (.int i0), .val (.int i1), .val (.int i2), .val (.int i3), .val (.int i4), .val (.int i5), .val (.int (3 : Int32)), .val (.int (0 : Int32)), .val (.ref ex), .val (.ref s1), .val (.int i0), .val (.ref r0), .val (.int (1 : Int32))] [(.int (2 : Int32)), (.ref ex), (.ref r2)])) rfl rfl (Or.inl ⟨rfl, rfl⟩) (hb hby at_257)) ?_
      show Fin1 p e below s (rm0Q Z i0 i1 i2 i3 i4 i5 h0 n0) room_1.cells room_1.slots (T62.setTop (mkF m 258 #[.val (.int i0), .val (.int i1), .val (.int i2), .val (.int i3), .val (.int i4), .val (.int i5), .val (.int (3 : Int32)), .val (.int (0 : Int32)), .val (.ref ex), .val (.ref s1), .val (.int i0), .val (.ref r0), .val (.int (1 : Int32))] [(.int i2), (.ref r2)]))
      obtain ⟨v63, T63, h63, L63, X63, e63, hQ63, st63⟩ := own_static X62 hx hZ hown (hw _ (List.mem_of_getElem? (i := 67) rfl)) (hw _ (List.mem_of_getElem? (i := 68) rfl)) (hw _ (List.mem_of_getElem? (i := 69) rfl)) (hw _ (List.mem_of_getElem? (i := 70) rfl)) (by decide) (rmEq l Z a0 hw r2 i2 h51 n0 Z0 E_r2 V_r2) e62 (g := (mkF m 258 #[.val (.int i0), .val (.int i1), .val (.int i2), .val (.int i3), .val (.int i4), .val (.int i5), .val (.int (3 : Int32)), .val (.int (0 : Int32)), .val (.ref ex), .val (.ref s1), .val (.int i0), .val (.ref r0), .val (.int (1 : Int32))] [(.int i2), (.ref r2)])) rfl (by rw [hml]; rfl) (argsL := [(.ref r2), (.int i2)]) (rest := []) (lenOf pd_16 rfl) rfl (W := 0) (by show 2 * 0 + _ ≤ _; exact Nat.le_of_eq rfl) (hb hby at_258) (by decide) (by decide) (by decide) (by decide)
      obtain ⟨rfl, N63q, hh63⟩ := hQ63
      have N63 := Fr.app N61 N63q
      rw [hh63] at e63
      refine own_st st63 ?_
      show Fin1 p e below s (rm0Q Z i0 i1 i2 i3 i4 i5 h0 n0) room_1.cells room_1.slots (T63.setTop (mkF m 261 #[.val (.int i0), .val (.int i1), .val (.int i2), .val (.int i3), .val (.int i4), .val (.int i5), .val (.int (3 : Int32)), .val (.int (0 : Int32)), .val (.ref ex), .val (.ref s1), .val (.int i0), .val (.ref r0), .val (.int (1 : Int32))] [(.int (1 : Int32))]))
      refine own_st (fun wt wk => XS.ifNo X63.here hx rfl (hb hby at_261) rfl ((if0 _ _).trans (feq (by decide)).1) wk) ?_
      show Fin1 p e below s (rm0Q Z i0 i1 i2 i3 i4 i5 h0 n0) room_1.cells room_1.slots (T63.setTop (mkF m 264 #[.val (.int i0), .val (.int i1), .val (.int i2), .val (.int i3), .val (.int i4), .val (.int i5), .val (.int (3 : Int32)), .val (.int (0 : Int32)), .val (.ref ex), .val (.ref s1), .val (.int i0), .val (.ref r0), .val (.int (1 : Int32))] []))
      refine own_st (fun wt wk => XS.iconst X63.here hx rfl (hb hby at_264) (XS.goto X63.here hx rfl (pc0 := 265) (pc' := 269) rfl (hb hby at_265) (by decide) (by decide) (XS.istore X63.here hx rfl (hb hby at_269) rfl (l' := #[.val (.int i0), .val (.int i1), .val (.int i2), .val (.int i3), .val (.int i4), .val (.int i5), .val (.int (3 : Int32)), .val (.int (0 : Int32)), .val (.ref ex), .val (.ref s1), .val (.int i0), .val (.ref r0), .val (.int (1 : Int32))]) rfl (XS.iload X63.here hx rfl (hb hby at_271) rfl (XS.iconst X63.here hx rfl (hb hby at_273) wk))))) ?_
      show Fin1 p e below s (rm0Q Z i0 i1 i2 i3 i4 i5 h0 n0) room_1.cells room_1.slots (T63.setTop (mkF m 274 #[.val (.int i0), .val (.int i1), .val (.int i2), .val (.int i3), .val (.int i4), .val (.int i5), .val (.int (3 : Int32)), .val (.int (0 : Int32)), .val (.ref ex), .val (.ref s1), .val (.int i0), .val (.ref r0), .val (.int (1 : Int32))] [(.int (3 : Int32)), (.int (3 : Int32))]))
      refine own_st (fun wt wk => XS.icmpYes X63.here hx rfl (pc0 := 274) (pc' := 308) rfl (hb hby at_274) rfl (flt (by decide)).2.2.2 (by decide) (by decide) wk) ?_
      show Fin1 p e below s (rm0Q Z i0 i1 i2 i3 i4 i5 h0 n0) room_1.cells room_1.slots (T63.setTop (mkF m 308 #[.val (.int i0), .val (.int i1), .val (.int i2), .val (.int i3), .val (.int i4), .val (.int i5), .val (.int (3 : Int32)), .val (.int (0 : Int32)), .val (.ref ex), .val (.ref s1), .val (.int i0), .val (.ref r0), .val (.int (1 : Int32))] []))
      refine own_st (fun wt wk => XS.iload X63.here hx rfl (hb hby at_308) rfl wk) ?_
      show Fin1 p e below s (rm0Q Z i0 i1 i2 i3 i4 i5 h0 n0) room_1.cells room_1.slots (T63.setTop (mkF m 310 #[.val (.int i0), .val (.int i1), .val (.int i2), .val (.int i3), .val (.int i4), .val (.int i5), .val (.int (3 : Int32)), .val (.int (0 : Int32)), .val (.ref ex), .val (.ref s1), .val (.int i0), .val (.ref r0), .val (.int (1 : Int32))] [(.int (1 : Int32))]))
      exact own_retZ X63 hx hlk hret (hb hby at_310) (z := (1 : Int32)) (by decide) (by rw [e63]; exact ⟨rfl, N63⟩) (by decide) (by decide)
    · show Fin1 p e below s (rm0Q Z i0 i1 i2 i3 i4 i5 h0 n0) room_1.cells room_1.slots (T48.setTop (mkF m 112 #[.val (.int i0), .val (.int i1), .val (.int i2), .val (.int i3), .val (.int i4), .val (.int i5), .val (.int (3 : Int32)), .val (.int (1 : Int32)), .val (.ref ex), .val (.ref s1), .unset, .unset, .unset] [(.int (1 : Int32)), (.ref ex)]))
      refine own_st (own_ld (j := (1 : Int32)) (v := (.int i1)) X48 hx hZ e48 V_ex ⟨by decide, by decide⟩ rfl (g := (mkF m 112 #[.val (.int i0), .val (.int i1), .val (.int i2), .val (.int i3), .val (.int i4), .val (.int i5), .val (.int (3 : Int32)), .val (.int (1 : Int32)), .val (.ref ex), .val (.ref s1), .unset, .unset, .unset] [(.int (1 : Int32)), (.ref ex)])) rfl rfl (Or.inl ⟨rfl, rfl⟩) (hb hby at_112)) ?_
      show Fin1 p e below s (rm0Q Z i0 i1 i2 i3 i4 i5 h0 n0) room_1.cells room_1.slots (T48.setTop (mkF m 113 #[.val (.int i0), .val (.int i1), .val (.int i2), .val (.int i3), .val (.int i4), .val (.int i5), .val (.int (3 : Int32)), .val (.int (1 : Int32)), .val (.ref ex), .val (.ref s1), .unset, .unset, .unset] [(.int i1)]))
      refine own_st (fun wt wk => XS.istore X48.here hx rfl (hb hby at_113) rfl (l' := #[.val (.int i0), .val (.int i1), .val (.int i2), .val (.int i3), .val (.int i4), .val (.int i5), .val (.int (3 : Int32)), .val (.int (1 : Int32)), .val (.ref ex), .val (.ref s1), .val (.int i1), .unset, .unset]) rfl (XS.aload X48.here hx rfl (hb hby at_115) rfl rfl (XS.iload X48.here hx rfl (hb hby at_117) rfl (XS.iload X48.here hx rfl (hb hby at_119) rfl wk)))) ?_
      show Fin1 p e below s (rm0Q Z i0 i1 i2 i3 i4 i5 h0 n0) room_1.cells room_1.slots (T48.setTop (mkF m 121 #[.val (.int i0), .val (.int i1), .val (.int i2), .val (.int i3), .val (.int i4), .val (.int i5), .val (.int (3 : Int32)), .val (.int (1 : Int32)), .val (.ref ex), .val (.ref s1), .val (.int i1), .unset, .unset] [(.int i4), (.int (1 : Int32)), (.ref ex)]))
      obtain ⟨T64, h64, X64, e64, W64, U64, st64⟩ := own_stI (j := (1 : Int32)) X48 hx hZ e48 V_ex ⟨by decide, by decide⟩ 1 rfl (by simp) (g := (mkF m 121 #[.val (.int i0), .val (.int i1), .val (.int i2), .val (.int i3), .val (.int i4), .val (.int i5), .val (.int (3 : Int32)), .val (.int (1 : Int32)), .val (.ref ex), .val (.ref s1), .val (.int i1), .unset, .unset] [(.int i4), (.int (1 : Int32)), (.ref ex)])) rfl rfl (hb hby at_121)
      have N64 := Fr.snoc X64 N48 g_ex
      have Z0 := Nat.le_trans Z0 (Nat.le_of_eq W64.size.symm)
      have O := O.wr W64 g_ex
      have E_s1 := E_s1.wr W64
      have E_r0 := E_r0.wr W64
      have V_r0 := V_r0.other W64 (Or.inl ne_r0_ex)
      have E_q0 := E_q0.wr W64
      have E_r1 := E_r1.wr W64
      have V_r1 := V_r1.other W64 (Or.inl ne_r1_ex)
      have E_q1 := E_q1.wr W64
      have Eq0 := Eq0.other W64 (Or.inl (Ne.symm ne_ex_q0))
      have Pq0 := Pq0.other W64 (Or.inl (Ne.symm ne_ex_q0))
      have Nq0 := Nq0.other W64 (Or.inl (Ne.symm ne_ex_q0))
      have E_r2 := E_r2.wr W64
      have V_r2 := V_r2.other W64 (Or.inl ne_r2_ex)
      have E_q2 := E_q2.wr W64
      have Hs1 := Hs1.other W64 (Or.inl (Ne.symm ne_ex_s1))
      have Ts1 := Ts1.other W64 (Or.inl (Ne.symm ne_ex_s1))
      have Ss1 := Ss1.other W64 (Or.inl (Ne.symm ne_ex_s1))
      have Eq1 := Eq1.other W64 (Or.inl (Ne.symm ne_ex_q1))
      have Pq1 := Pq1.other W64 (Or.inl (Ne.symm ne_ex_q1))
      have Nq1 := Nq1.other W64 (Or.inl (Ne.symm ne_ex_q1))
      have Eq2 := Eq2.other W64 (Or.inl (Ne.symm ne_ex_q2))
      have Pq2 := Pq2.other W64 (Or.inl (Ne.symm ne_ex_q2))
      have Nq2 := Nq2.other W64 (Or.inl (Ne.symm ne_ex_q2))
      have V_ex : Arv Z h64 ex kc1 .int (4 : Int32) [(.int i0), (.int i4), (.int i2), (.int i3)] (.int (0 : Int32)) := U64
      refine own_st st64 ?_
      show Fin1 p e below s (rm0Q Z i0 i1 i2 i3 i4 i5 h0 n0) room_1.cells room_1.slots (T64.setTop (mkF m 122 #[.val (.int i0), .val (.int i1), .val (.int i2), .val (.int i3), .val (.int i4), .val (.int i5), .val (.int (3 : Int32)), .val (.int (1 : Int32)), .val (.ref ex), .val (.ref s1), .val (.int i1), .unset, .unset] []))
      refine own_st (fun wt wk => XS.aload X64.here hx rfl (hb hby at_122) rfl rfl (XS.iload X64.here hx rfl (hb hby at_124) rfl (XS.iload X64.here hx rfl (hb hby at_126) rfl wk))) ?_
      show Fin1 p e below s (rm0Q Z i0 i1 i2 i3 i4 i5 h0 n0) room_1.cells room_1.slots (T64.setTop (mkF m 128 #[.val (.int i0), .val (.int i1), .val (.int i2), .val (.int i3), .val (.int i4), .val (.int i5), .val (.int (3 : Int32)), .val (.int (1 : Int32)), .val (.ref ex), .val (.ref s1), .val (.int i1), .unset, .unset] [(.int i4), (.int (1 : Int32)), (.ref s1)]))
      obtain ⟨v65, T65, h65, L65, X65, e65, hQ65, st65⟩ := own_static X64 hx hZ hown (hw _ (List.mem_of_getElem? (i := 16) rfl)) (hw _ (List.mem_of_getElem? (i := 17) rfl)) (hw _ (List.mem_of_getElem? (i := 18) rfl)) (hw _ (List.mem_of_getElem? (i := 19) rfl)) (by decide) (rmV l Z a0 hw i4 h64 n0 Z0 O hic) e64 (g := (mkF m 128 #[.val (.int i0), .val (.int i1), .val (.int i2), .val (.int i3), .val (.int i4), .val (.int i5), .val (.int (3 : Int32)), .val (.int (1 : Int32)), .val (.ref ex), .val (.ref s1), .val (.int i1), .unset, .unset] [(.int i4), (.int (1 : Int32)), (.ref s1)])) rfl (by rw [hml]; rfl) (argsL := [(.int i4)]) (rest := [(.int (1 : Int32)), (.ref s1)]) (lenOf pd_13 rfl) rfl (W := 2) (by show 2 * 0 + _ ≤ _; exact Nat.le_of_eq rfl) (hb hby at_128) (by decide) (by decide) (by decide) (by decide)
      obtain ⟨re, rfl, N65q, K65, E_re, V_re⟩ := hQ65
      have N65 := Fr.app N64 N65q
      have Z0 := Nat.le_trans Z0 K65.1
      have O := O.keep K65 all0
      have V_ex := V_ex.keep K65 nin0
      have E_s1 := E_s1.keep K65
      have E_r0 := E_r0.keep K65
      have V_r0 := V_r0.keep K65 nin0
      have E_q0 := E_q0.keep K65
      have E_r1 := E_r1.keep K65
      have V_r1 := V_r1.keep K65 nin0
      have E_q1 := E_q1.keep K65
      have Eq0 := Eq0.keep K65 nin0
      have Pq0 := Pq0.keep K65 nin0
      have Nq0 := Nq0.keep K65 nin0
      have E_r2 := E_r2.keep K65
      have V_r2 := V_r2.keep K65 nin0
      have E_q2 := E_q2.keep K65
      have Hs1 := Hs1.keep K65 nin0
      have Ts1 := Ts1.keep K65 nin0
      have Ss1 := Ss1.keep K65 nin0
      have Eq1 := Eq1.keep K65 nin0
      have Pq1 := Pq1.keep K65 nin0
      have Nq1 := Nq1.keep K65 nin0
      have Eq2 := Eq2.keep K65 nin0
      have Pq2 := Pq2.keep K65 nin0
      have Nq2 := Nq2.keep K65 nin0
      refine own_st st65 ?_
      show Fin1 p e below s (rm0Q Z i0 i1 i2 i3 i4 i5 h0 n0) room_1.cells room_1.slots (T65.setTop (mkF m 131 #[.val (.int i0), .val (.int i1), .val (.int i2), .val (.int i3), .val (.int i4), .val (.int i5), .val (.int (3 : Int32)), .val (.int (1 : Int32)), .val (.ref ex), .val (.ref s1), .val (.int i1), .unset, .unset] [(.ref re), (.int (1 : Int32)), (.ref s1)]))
      have ne_re_ex : re ≠ ex := own_ne_arv E_re (hw _ (List.mem_of_getElem? (i := 89) rfl)) V_ex
      have ne_re_s1 : re ≠ s1 := ne_exa E_re E_s1 (by decide)
      have ne_re_q0 : re ≠ q0 := ne_exa E_re E_q0 (by decide)
      have ne_re_q1 : re ≠ q1 := ne_exa E_re E_q1 (by decide)
      have ne_re_q2 : re ≠ q2 := ne_exa E_re E_q2 (by decide)
      obtain ⟨v66, T66, h66, L66, X66, e66, hQ66, st66⟩ := own_virtual X65 hx hZ hown (hw _ (List.mem_of_getElem? (i := 59) rfl)) (hw _ (List.mem_of_getElem? (i := 60) rfl)) (hw _ (List.mem_of_getElem? (i := 62) rfl)) (hw _ (List.mem_of_getElem? (i := 61) rfl)) (hw _ (List.mem_of_getElem? (i := 63) rfl)) (hw _ (List.mem_of_getElem? (i := 4) rfl)) (by decide) (a := s1) E_s1 (rmT31 l Z a0 hw s1 re q1 q2 r1 (.ref q0) (.ref q2) h65 n0 Z0 g_q1 E_s1 E_q1 Ss1 Ts1 Pq2 Eq1 Pq1 Nq1) e65 (g := (mkF m 131 #[.val (.int i0), .val (.int i1), .val (.int i2), .val (.int i3), .val (.int i4), .val (.int i5), .val (.int (3 : Int32)), .val (.int (1 : Int32)), .val (.ref ex), .val (.ref s1), .val (.int i1), .unset, .unset] [(.ref re), (.int (1 : Int32)), (.ref s1)])) rfl (by rw [hml]; rfl) (argsL := [(.int (1 : Int32)), (.ref re)]) (rest := []) (lenOf pd_15 rfl) rfl (W := 0) (by show 2 * 0 + _ ≤ _; exact Nat.le_of_eq rfl) (hb hby at_131) (by decide) (by decide) (by decide) (by decide)
      obtain ⟨rfl, N66q, K66, Eq1, Pq1, Nq1⟩ := hQ66
      have N66 := Fr.app N65 N66q
      have Z0 := Nat.le_trans Z0 K66.1
      have O := O.keep K66 (allS (P := fun x => n0 ≤ x) g_q1 all0)
      have V_ex := V_ex.keep K66 (ninS ne_ex_q1 nin0)
      have E_s1 := E_s1.keep K66
      have E_r0 := E_r0.keep K66
      have V_r0 := V_r0.keep K66 (ninS ne_r0_q1 nin0)
      have E_q0 := E_q0.keep K66
      have E_r1 := E_r1.keep K66
      have V_r1 := V_r1.keep K66 (ninS ne_r1_q1 nin0)
      have E_q1 := E_q1.keep K66
      have Eq0 := Eq0.keep K66 (ninS ne_q0_q1 nin0)
      have Pq0 := Pq0.keep K66 (ninS ne_q0_q1 nin0)
      have Nq0 := Nq0.keep K66 (ninS ne_q0_q1 nin0)
      have E_r2 := E_r2.keep K66
      have V_r2 := V_r2.keep K66 (ninS ne_r2_q1 nin0)
      have E_q2 := E_q2.keep K66
      have Hs1 := Hs1.keep K66 (ninS ne_s1_q1 nin0)
      have Ts1 := Ts1.keep K66 (ninS ne_s1_q1 nin0)
      have Ss1 := Ss1.keep K66 (ninS ne_s1_q1 nin0)
      have Eq2 := Eq2.keep K66 (ninS (Ne.symm ne_q1_q2) nin0)
      have Pq2 := Pq2.keep K66 (ninS (Ne.symm ne_q1_q2) nin0)
      have Nq2 := Nq2.keep K66 (ninS (Ne.symm ne_q1_q2) nin0)
      have E_re := E_re.keep K66
      have V_re := V_re.keep K66 (ninS ne_re_q1 nin0)
      refine own_st st66 ?_
      show Fin1 p e below s (rm0Q Z i0 i1 i2 i3 i4 i5 h0 n0) room_1.cells room_1.slots (T66.setTop (mkF m 134 #[.val (.int i0), .val (.int i1), .val (.int i2), .val (.int i3), .val (.int i4), .val (.int i5), .val (.int (3 : Int32)), .val (.int (1 : Int32)), .val (.ref ex), .val (.ref s1), .val (.int i1), .unset, .unset] [(.ref r1)]))
      obtain ⟨T67, X67, e67, st67⟩ := castY X66 hx hZ hown (hw _ (List.mem_of_getElem? (i := 65) rfl)) e66 (Ins.self E_r1) (g := (mkF m 134 #[.val (.int i0), .val (.int i1), .val (.int i2), .val (.int i3), .val (.int i4), .val (.int i5), .val (.int (3 : Int32)), .val (.int (1 : Int32)), .val (.ref ex), .val (.ref s1), .val (.int i1), .unset, .unset] [(.ref r1)])) rfl rfl (hb hby at_134)
      refine own_st st67 ?_
      show Fin1 p e below s (rm0Q Z i0 i1 i2 i3 i4 i5 h0 n0) room_1.cells room_1.slots (T67.setTop (mkF m 137 #[.val (.int i0), .val (.int i1), .val (.int i2), .val (.int i3), .val (.int i4), .val (.int i5), .val (.int (3 : Int32)), .val (.int (1 : Int32)), .val (.ref ex), .val (.ref s1), .val (.int i1), .unset, .unset] [(.ref r1)]))
      refine own_st (fun wt wk => XS.astore X67.here hx rfl (hb hby at_137) rfl rfl (l' := #[.val (.int i0), .val (.int i1), .val (.int i2), .val (.int i3), .val (.int i4), .val (.int i5), .val (.int (3 : Int32)), .val (.int (1 : Int32)), .val (.ref ex), .val (.ref s1), .val (.int i1), .val (.ref r1), .unset]) rfl (XS.aload X67.here hx rfl (hb hby at_139) rfl rfl (XS.iload X67.here hx rfl (hb hby at_141) rfl wk))) ?_
      show Fin1 p e below s (rm0Q Z i0 i1 i2 i3 i4 i5 h0 n0) room_1.cells room_1.slots (T67.setTop (mkF m 143 #[.val (.int i0), .val (.int i1), .val (.int i2), .val (.int i3), .val (.int i4), .val (.int i5), .val (.int (3 : Int32)), .val (.int (1 : Int32)), .val (.ref ex), .val (.ref s1), .val (.int i1), .val (.ref r1), .unset] [(.int i1), (.ref r1)]))
      obtain ⟨v68, T68, h68, L68, X68, e68, hQ68, st68⟩ := own_static X67 hx hZ hown (hw _ (List.mem_of_getElem? (i := 67) rfl)) (hw _ (List.mem_of_getElem? (i := 68) rfl)) (hw _ (List.mem_of_getElem? (i := 69) rfl)) (hw _ (List.mem_of_getElem? (i := 70) rfl)) (by decide) (rmEq l Z a0 hw r1 i1 h66 n0 Z0 E_r1 V_r1) e67 (g := (mkF m 143 #[.val (.int i0), .val (.int i1), .val (.int i2), .val (.int i3), .val (.int i4), .val (.int i5), .val (.int (3 : Int32)), .val (.int (1 : Int32)), .val (.ref ex), .val (.ref s1), .val (.int i1), .val (.ref r1), .unset] [(.int i1), (.ref r1)])) rfl (by rw [hml]; rfl) (argsL := [(.ref r1), (.int i1)]) (rest := []) (lenOf pd_16 rfl) rfl (W := 0) (by show 2 * 0 + _ ≤ _; exact Nat.le_of_eq rfl) (hb hby at_143) (by decide) (by decide) (by decide) (by decide)
      obtain ⟨rfl, N68q, hh68⟩ := hQ68
      have N68 := Fr.app N66 N68q
      rw [hh68] at e68
      refine own_st st68 ?_
      show Fin1 p e below s (rm0Q Z i0 i1 i2 i3 i4 i5 h0 n0) room_1.cells room_1.slots (T68.setTop (mkF m 146 #[.val (.int i0), .val (.int i1), .val (.int i2), .val (.int i3), .val (.int i4), .val (.int i5), .val (.int (3 : Int32)), .val (.int (1 : Int32)), .val (.ref ex), .val (.ref s1), .val (.int i1), .val (.ref r1), .unset] [(.int (1 : Int32))]))
      refine own_st (fun wt wk => XS.ifNo X68.here hx rfl (hb hby at_146) rfl ((if0 _ _).trans (feq (by decide)).1) wk) ?_
      show Fin1 p e below s (rm0Q Z i0 i1 i2 i3 i4 i5 h0 n0) room_1.cells room_1.slots (T68.setTop (mkF m 149 #[.val (.int i0), .val (.int i1), .val (.int i2), .val (.int i3), .val (.int i4), .val (.int i5), .val (.int (3 : Int32)), .val (.int (1 : Int32)), .val (.ref ex), .val (.ref s1), .val (.int i1), .val (.ref r1), .unset] []))
      refine own_st (fun wt wk => XS.aload X68.here hx rfl (hb hby at_149) rfl rfl wk) ?_
      show Fin1 p e below s (rm0Q Z i0 i1 i2 i3 i4 i5 h0 n0) room_1.cells room_1.slots (T68.setTop (mkF m 151 #[.val (.int i0), .val (.int i1), .val (.int i2), .val (.int i3), .val (.int i4), .val (.int i5), .val (.int (3 : Int32)), .val (.int (1 : Int32)), .val (.ref ex), .val (.ref s1), .val (.int i1), .val (.ref r1), .unset] [(.ref s1)]))
      obtain ⟨v69, T69, h69, L69, X69, e69, hQ69, st69⟩ := own_virtual X68 hx hZ hown (hw _ (List.mem_of_getElem? (i := 78) rfl)) (hw _ (List.mem_of_getElem? (i := 79) rfl)) (hw _ (List.mem_of_getElem? (i := 81) rfl)) (hw _ (List.mem_of_getElem? (i := 80) rfl)) (hw _ (List.mem_of_getElem? (i := 82) rfl)) (hw _ (List.mem_of_getElem? (i := 4) rfl)) (by decide) (a := s1) E_s1 (rmZ l Z a0 hw s1 (3 : Int32) h66 n0 Z0 Ss1) e68 (g := (mkF m 151 #[.val (.int i0), .val (.int i1), .val (.int i2), .val (.int i3), .val (.int i4), .val (.int i5), .val (.int (3 : Int32)), .val (.int (1 : Int32)), .val (.ref ex), .val (.ref s1), .val (.int i1), .val (.ref r1), .unset] [(.ref s1)])) rfl (by rw [hml]; rfl) (argsL := []) (rest := []) (lenOf pd_12 rfl) rfl (W := 0) (by show 2 * 0 + _ ≤ _; exact Nat.le_of_eq rfl) (hb hby at_151) (by decide) (by decide) (by decide) (by decide)
      obtain ⟨rfl, N69q, hh69⟩ := hQ69
      have N69 := Fr.app N68 N69q
      rw [hh69] at e69
      refine own_st st69 ?_
      show Fin1 p e below s (rm0Q Z i0 i1 i2 i3 i4 i5 h0 n0) room_1.cells room_1.slots (T69.setTop (mkF m 154 #[.val (.int i0), .val (.int i1), .val (.int i2), .val (.int i3), .val (.int i4), .val (.int i5), .val (.int (3 : Int32)), .val (.int (1 : Int32)), .val (.ref ex), .val (.ref s1), .val (.int i1), .val (.ref r1), .unset] [(.int (3 : Int32))]))
      refine own_st (fun wt wk => XS.iload X69.here hx rfl (hb hby at_154) rfl wk) ?_
      show Fin1 p e below s (rm0Q Z i0 i1 i2 i3 i4 i5 h0 n0) room_1.cells room_1.slots (T69.setTop (mkF m 156 #[.val (.int i0), .val (.int i1), .val (.int i2), .val (.int i3), .val (.int i4), .val (.int i5), .val (.int (3 : Int32)), .val (.int (1 : Int32)), .val (.ref ex), .val (.ref s1), .val (.int i1), .val (.ref r1), .unset] [(.int (3 : Int32)), (.int (3 : Int32))]))
      refine own_st (fun wt wk => XS.icmpNo X69.here hx rfl (hb hby at_156) rfl (teq (by decide)).2 wk) ?_
      show Fin1 p e below s (rm0Q Z i0 i1 i2 i3 i4 i5 h0 n0) room_1.cells room_1.slots (T69.setTop (mkF m 159 #[.val (.int i0), .val (.int i1), .val (.int i2), .val (.int i3), .val (.int i4), .val (.int i5), .val (.int (3 : Int32)), .val (.int (1 : Int32)), .val (.ref ex), .val (.ref s1), .val (.int i1), .val (.ref r1), .unset] []))
      refine own_st (fun wt wk => XS.iconst X69.here hx rfl (hb hby at_159) (XS.goto X69.here hx rfl (pc0 := 160) (pc' := 164) rfl (hb hby at_160) (by decide) (by decide) (XS.istore X69.here hx rfl (hb hby at_164) rfl (l' := #[.val (.int i0), .val (.int i1), .val (.int i2), .val (.int i3), .val (.int i4), .val (.int i5), .val (.int (3 : Int32)), .val (.int (1 : Int32)), .val (.ref ex), .val (.ref s1), .val (.int i1), .val (.ref r1), .val (.int (1 : Int32))]) rfl (XS.iload X69.here hx rfl (hb hby at_166) rfl wk)))) ?_
      show Fin1 p e below s (rm0Q Z i0 i1 i2 i3 i4 i5 h0 n0) room_1.cells room_1.slots (T69.setTop (mkF m 168 #[.val (.int i0), .val (.int i1), .val (.int i2), .val (.int i3), .val (.int i4), .val (.int i5), .val (.int (3 : Int32)), .val (.int (1 : Int32)), .val (.ref ex), .val (.ref s1), .val (.int i1), .val (.ref r1), .val (.int (1 : Int32))] [(.int (1 : Int32))]))
      refine own_st (fun wt wk => XS.ifNo X69.here hx rfl (hb hby at_168) rfl ((if0 _ _).trans (feq (by decide)).1) wk) ?_
      show Fin1 p e below s (rm0Q Z i0 i1 i2 i3 i4 i5 h0 n0) room_1.cells room_1.slots (T69.setTop (mkF m 171 #[.val (.int i0), .val (.int i1), .val (.int i2), .val (.int i3), .val (.int i4), .val (.int i5), .val (.int (3 : Int32)), .val (.int (1 : Int32)), .val (.ref ex), .val (.ref s1), .val (.int i1), .val (.ref r1), .val (.int (1 : Int32))] []))
      refine own_st (fun wt wk => XS.aload X69.here hx rfl (hb hby at_171) rfl rfl (XS.iconst X69.here hx rfl (hb hby at_173) wk)) ?_
      show Fin1 p e below s (rm0Q Z i0 i1 i2 i3 i4 i5 h0 n0) room_1.cells room_1.slots (T69.setTop (mkF m 174 #[.val (.int i0), .val (.int i1), .val (.int i2), .val (.int i3), .val (.int i4), .val (.int i5), .val (.int (3 : Int32)), .val (.int (1 : Int32)), .val (.ref ex), .val (.ref s1), .val (.int i1), .val (.ref r1), .val (.int (1 : Int32))] [(.int (0 : Int32)), (.ref s1)]))
      obtain ⟨v70, T70, h70, L70, X70, e70, hQ70, st70⟩ := own_virtual X69 hx hZ hown (hw _ (List.mem_of_getElem? (i := 83) rfl)) (hw _ (List.mem_of_getElem? (i := 84) rfl)) (hw _ (List.mem_of_getElem? (i := 86) rfl)) (hw _ (List.mem_of_getElem? (i := 85) rfl)) (hw _ (List.mem_of_getElem? (i := 87) rfl)) (hw _ (List.mem_of_getElem? (i := 4) rfl)) (by decide) (a := s1) E_s1 (rmG30 l Z a0 hw s1 q0 r0 h66 n0 Z0 E_s1 Ss1 Hs1 Eq0) e69 (g := (mkF m 174 #[.val (.int i0), .val (.int i1), .val (.int i2), .val (.int i3), .val (.int i4), .val (.int i5), .val (.int (3 : Int32)), .val (.int (1 : Int32)), .val (.ref ex), .val (.ref s1), .val (.int i1), .val (.ref r1), .val (.int (1 : Int32))] [(.int (0 : Int32)), (.ref s1)])) rfl (by rw [hml]; rfl) (argsL := [(.int (0 : Int32))]) (rest := []) (lenOf pd_17 rfl) rfl (W := 0) (by show 2 * 0 + _ ≤ _; exact Nat.le_of_eq rfl) (hb hby at_174) (by decide) (by decide) (by decide) (by decide)
      obtain ⟨rfl, N70q, hh70⟩ := hQ70
      have N70 := Fr.app N69 N70q
      rw [hh70] at e70
      refine own_st st70 ?_
      show Fin1 p e below s (rm0Q Z i0 i1 i2 i3 i4 i5 h0 n0) room_1.cells room_1.slots (T70.setTop (mkF m 177 #[.val (.int i0), .val (.int i1), .val (.int i2), .val (.int i3), .val (.int i4), .val (.int i5), .val (.int (3 : Int32)), .val (.int (1 : Int32)), .val (.ref ex), .val (.ref s1), .val (.int i1), .val (.ref r1), .val (.int (1 : Int32))] [(.ref r0)]))
      obtain ⟨T71, X71, e71, st71⟩ := castY X70 hx hZ hown (hw _ (List.mem_of_getElem? (i := 65) rfl)) e70 (Ins.self E_r0) (g := (mkF m 177 #[.val (.int i0), .val (.int i1), .val (.int i2), .val (.int i3), .val (.int i4), .val (.int i5), .val (.int (3 : Int32)), .val (.int (1 : Int32)), .val (.ref ex), .val (.ref s1), .val (.int i1), .val (.ref r1), .val (.int (1 : Int32))] [(.ref r0)])) rfl rfl (hb hby at_177)
      refine own_st st71 ?_
      show Fin1 p e below s (rm0Q Z i0 i1 i2 i3 i4 i5 h0 n0) room_1.cells room_1.slots (T71.setTop (mkF m 180 #[.val (.int i0), .val (.int i1), .val (.int i2), .val (.int i3), .val (.int i4), .val (.int i5), .val (.int (3 : Int32)), .val (.int (1 : Int32)), .val (.ref ex), .val (.ref s1), .val (.int i1), .val (.ref r1), .val (.int (1 : Int32))] [(.ref r0)]))
      refine own_st (fun wt wk => XS.aload X71.here hx rfl (hb hby at_180) rfl rfl (XS.iconst X71.here hx rfl (hb hby at_182) wk)) ?_
      show Fin1 p e below s (rm0Q Z i0 i1 i2 i3 i4 i5 h0 n0) room_1.cells room_1.slots (T71.setTop (mkF m 183 #[.val (.int i0), .val (.int i1), .val (.int i2), .val (.int i3), .val (.int i4), .val (.int i5), .val (.int (3 : Int32)), .val (.int (1 : Int32)), .val (.ref ex), .val (.ref s1), .val (.int i1), .val (.ref r1), .val (.int (1 : Int32))] [(.int (0 : Int32)), (.ref ex), (.ref r0)]))
      refine own_st (own_ld (j := (0 : Int32)) (v := (.int i0)) X71 hx hZ e71 V_ex ⟨by decide, by decide⟩ rfl (g := (mkF m 183 #[.val (.int i0), .val (.int i1), .val (.int i2), .val (.int i3), .val (.int i4), .val (.int i5), .val (.int (3 : Int32)), .val (.int (1 : Int32)), .val (.ref ex), .val (.ref s1), .val (.int i1), .val (.ref r1), .val (.int (1 : Int32))] [(.int (0 : Int32)), (.ref ex), (.ref r0)])) rfl rfl (Or.inl ⟨rfl, rfl⟩) (hb hby at_183)) ?_
      show Fin1 p e below s (rm0Q Z i0 i1 i2 i3 i4 i5 h0 n0) room_1.cells room_1.slots (T71.setTop (mkF m 184 #[.val (.int i0), .val (.int i1), .val (.int i2), .val (.int i3), .val (.int i4), .val (.int i5), .val (.int (3 : Int32)), .val (.int (1 : Int32)), .val (.ref ex), .val (.ref s1), .val (.int i1), .val (.ref r1), .val (.int (1 : Int32))] [(.int i0), (.ref r0)]))
      obtain ⟨v72, T72, h72, L72, X72, e72, hQ72, st72⟩ := own_static X71 hx hZ hown (hw _ (List.mem_of_getElem? (i := 67) rfl)) (hw _ (List.mem_of_getElem? (i := 68) rfl)) (hw _ (List.mem_of_getElem? (i := 69) rfl)) (hw _ (List.mem_of_getElem? (i := 70) rfl)) (by decide) (rmEq l Z a0 hw r0 i0 h66 n0 Z0 E_r0 V_r0) e71 (g := (mkF m 184 #[.val (.int i0), .val (.int i1), .val (.int i2), .val (.int i3), .val (.int i4), .val (.int i5), .val (.int (3 : Int32)), .val (.int (1 : Int32)), .val (.ref ex), .val (.ref s1), .val (.int i1), .val (.ref r1), .val (.int (1 : Int32))] [(.int i0), (.ref r0)])) rfl (by rw [hml]; rfl) (argsL := [(.ref r0), (.int i0)]) (rest := []) (lenOf pd_16 rfl) rfl (W := 0) (by show 2 * 0 + _ ≤ _; exact Nat.le_of_eq rfl) (hb hby at_184) (by decide) (by decide) (by decide) (by decide)
      obtain ⟨rfl, N72q, hh72⟩ := hQ72
      have N72 := Fr.app N70 N72q
      rw [hh72] at e72
      refine own_st st72 ?_
      show Fin1 p e below s (rm0Q Z i0 i1 i2 i3 i4 i5 h0 n0) room_1.cells room_1.slots (T72.setTop (mkF m 187 #[.val (.int i0), .val (.int i1), .val (.int i2), .val (.int i3), .val (.int i4), .val (.int i5), .val (.int (3 : Int32)), .val (.int (1 : Int32)), .val (.ref ex), .val (.ref s1), .val (.int i1), .val (.ref r1), .val (.int (1 : Int32))] [(.int (1 : Int32))]))
      refine own_st (fun wt wk => XS.ifNo X72.here hx rfl (hb hby at_187) rfl ((if0 _ _).trans (feq (by decide)).1) wk) ?_
      show Fin1 p e below s (rm0Q Z i0 i1 i2 i3 i4 i5 h0 n0) room_1.cells room_1.slots (T72.setTop (mkF m 190 #[.val (.int i0), .val (.int i1), .val (.int i2), .val (.int i3), .val (.int i4), .val (.int i5), .val (.int (3 : Int32)), .val (.int (1 : Int32)), .val (.ref ex), .val (.ref s1), .val (.int i1), .val (.ref r1), .val (.int (1 : Int32))] []))
      refine own_st (fun wt wk => XS.iconst X72.here hx rfl (hb hby at_190) (XS.goto X72.here hx rfl (pc0 := 191) (pc' := 195) rfl (hb hby at_191) (by decide) (by decide) (XS.istore X72.here hx rfl (hb hby at_195) rfl (l' := #[.val (.int i0), .val (.int i1), .val (.int i2), .val (.int i3), .val (.int i4), .val (.int i5), .val (.int (3 : Int32)), .val (.int (1 : Int32)), .val (.ref ex), .val (.ref s1), .val (.int i1), .val (.ref r1), .val (.int (1 : Int32))]) rfl (XS.iload X72.here hx rfl (hb hby at_197) rfl (XS.iconst X72.here hx rfl (hb hby at_199) wk))))) ?_
      show Fin1 p e below s (rm0Q Z i0 i1 i2 i3 i4 i5 h0 n0) room_1.cells room_1.slots (T72.setTop (mkF m 200 #[.val (.int i0), .val (.int i1), .val (.int i2), .val (.int i3), .val (.int i4), .val (.int i5), .val (.int (3 : Int32)), .val (.int (1 : Int32)), .val (.ref ex), .val (.ref s1), .val (.int i1), .val (.ref r1), .val (.int (1 : Int32))] [(.int (1 : Int32)), (.int (3 : Int32))]))
      refine own_st (fun wt wk => XS.icmpNo X72.here hx rfl (hb hby at_200) rfl (tlt (by decide)).2.2.2 wk) ?_
      show Fin1 p e below s (rm0Q Z i0 i1 i2 i3 i4 i5 h0 n0) room_1.cells room_1.slots (T72.setTop (mkF m 203 #[.val (.int i0), .val (.int i1), .val (.int i2), .val (.int i3), .val (.int i4), .val (.int i5), .val (.int (3 : Int32)), .val (.int (1 : Int32)), .val (.ref ex), .val (.ref s1), .val (.int i1), .val (.ref r1), .val (.int (1 : Int32))] []))
      refine own_st (fun wt wk => XS.iload X72.here hx rfl (hb hby at_203) rfl wk) ?_
      show Fin1 p e below s (rm0Q Z i0 i1 i2 i3 i4 i5 h0 n0) room_1.cells room_1.slots (T72.setTop (mkF m 205 #[.val (.int i0), .val (.int i1), .val (.int i2), .val (.int i3), .val (.int i4), .val (.int i5), .val (.int (3 : Int32)), .val (.int (1 : Int32)), .val (.ref ex), .val (.ref s1), .val (.int i1), .val (.ref r1), .val (.int (1 : Int32))] [(.int (1 : Int32))]))
      refine own_st (fun wt wk => XS.ifNo X72.here hx rfl (hb hby at_205) rfl ((if0 _ _).trans (feq (by decide)).1) wk) ?_
      show Fin1 p e below s (rm0Q Z i0 i1 i2 i3 i4 i5 h0 n0) room_1.cells room_1.slots (T72.setTop (mkF m 208 #[.val (.int i0), .val (.int i1), .val (.int i2), .val (.int i3), .val (.int i4), .val (.int i5), .val (.int (3 : Int32)), .val (.int (1 : Int32)), .val (.ref ex), .val (.ref s1), .val (.int i1), .val (.ref r1), .val (.int (1 : Int32))] []))
      refine own_st (fun wt wk => XS.aload X72.here hx rfl (hb hby at_208) rfl rfl (XS.iconst X72.here hx rfl (hb hby at_210) wk)) ?_
      show Fin1 p e below s (rm0Q Z i0 i1 i2 i3 i4 i5 h0 n0) room_1.cells room_1.slots (T72.setTop (mkF m 211 #[.val (.int i0), .val (.int i1), .val (.int i2), .val (.int i3), .val (.int i4), .val (.int i5), .val (.int (3 : Int32)), .val (.int (1 : Int32)), .val (.ref ex), .val (.ref s1), .val (.int i1), .val (.ref r1), .val (.int (1 : Int32))] [(.int (1 : Int32)), (.ref s1)]))
      obtain ⟨v73, T73, h73, L73, X73, e73, hQ73, st73⟩ := own_virtual X72 hx hZ hown (hw _ (List.mem_of_getElem? (i := 83) rfl)) (hw _ (List.mem_of_getElem? (i := 84) rfl)) (hw _ (List.mem_of_getElem? (i := 86) rfl)) (hw _ (List.mem_of_getElem? (i := 85) rfl)) (hw _ (List.mem_of_getElem? (i := 87) rfl)) (hw _ (List.mem_of_getElem? (i := 4) rfl)) (by decide) (a := s1) E_s1 (rmG31 l Z a0 hw s1 q1 q2 re h66 n0 Z0 E_s1 Ss1 Ts1 Pq2 Eq1) e72 (g := (mkF m 211 #[.val (.int i0), .val (.int i1), .val (.int i2), .val (.int i3), .val (.int i4), .val (.int i5), .val (.int (3 : Int32)), .val (.int (1 : Int32)), .val (.ref ex), .val (.ref s1), .val (.int i1), .val (.ref r1), .val (.int (1 : Int32))] [(.int (1 : Int32)), (.ref s1)])) rfl (by rw [hml]; rfl) (argsL := [(.int (1 : Int32))]) (rest := []) (lenOf pd_17 rfl) rfl (W := 0) (by show 2 * 0 + _ ≤ _; exact Nat.le_of_eq rfl) (hb hby at_211) (by decide) (by decide) (by decide) (by decide)
      obtain ⟨rfl, N73q, hh73⟩ := hQ73
      have N73 := Fr.app N72 N73q
      rw [hh73] at e73
      refine own_st st73 ?_
      show Fin1 p e below s (rm0Q Z i0 i1 i2 i3 i4 i5 h0 n0) room_1.cells room_1.slots (T73.setTop (mkF m 214 #[.val (.int i0), .val (.int i1), .val (.int i2), .val (.int i3), .val (.int i4), .val (.int i5), .val (.int (3 : Int32)), .val (.int (1 : Int32)), .val (.ref ex), .val (.ref s1), .val (.int i1), .val (.ref r1), .val (.int (1 : Int32))] [(.ref re)]))
      obtain ⟨T74, X74, e74, st74⟩ := castY X73 hx hZ hown (hw _ (List.mem_of_getElem? (i := 65) rfl)) e73 (Ins.self E_re) (g := (mkF m 214 #[.val (.int i0), .val (.int i1), .val (.int i2), .val (.int i3), .val (.int i4), .val (.int i5), .val (.int (3 : Int32)), .val (.int (1 : Int32)), .val (.ref ex), .val (.ref s1), .val (.int i1), .val (.ref r1), .val (.int (1 : Int32))] [(.ref re)])) rfl rfl (hb hby at_214)
      refine own_st st74 ?_
      show Fin1 p e below s (rm0Q Z i0 i1 i2 i3 i4 i5 h0 n0) room_1.cells room_1.slots (T74.setTop (mkF m 217 #[.val (.int i0), .val (.int i1), .val (.int i2), .val (.int i3), .val (.int i4), .val (.int i5), .val (.int (3 : Int32)), .val (.int (1 : Int32)), .val (.ref ex), .val (.ref s1), .val (.int i1), .val (.ref r1), .val (.int (1 : Int32))] [(.ref re)]))
      refine own_st (fun wt wk => XS.aload X74.here hx rfl (hb hby at_217) rfl rfl (XS.iconst X74.here hx rfl (hb hby at_219) wk)) ?_
      show Fin1 p e below s (rm0Q Z i0 i1 i2 i3 i4 i5 h0 n0) room_1.cells room_1.slots (T74.setTop (mkF m 220 #[.val (.int i0), .val (.int i1), .val (.int i2), .val (.int i3), .val (.int i4), .val (.int i5), .val (.int (3 : Int32)), .val (.int (1 : Int32)), .val (.ref ex), .val (.ref s1), .val (.int i1), .val (.ref r1), .val (.int (1 : Int32))] [(.int (1 : Int32)), (.ref ex), (.ref re)]))
      refine own_st (own_ld (j := (1 : Int32)) (v := (.int i4)) X74 hx hZ e74 V_ex ⟨by decide, by decide⟩ rfl (g := (mkF m 220 #[.val (.int i0), .val (.int i1), .val (.int i2), .val (.int i3), .val (.int i4), .val (.int i5), .val (.int (3 : Int32)), .val (.int (1 : Int32)), .val (.ref ex), .val (.ref s1), .val (.int i1), .val (.ref r1), .val (.int (1 : Int32))] [(.int (1 : Int32)), (.ref ex), (.ref re)])) rfl rfl (Or.inl ⟨rfl, rfl⟩) (hb hby at_220)) ?_
      show Fin1 p e below s (rm0Q Z i0 i1 i2 i3 i4 i5 h0 n0) room_1.cells room_1.slots (T74.setTop (mkF m 221 #[.val (.int i0), .val (.int i1), .val (.int i2), .val (.int i3), .val (.int i4), .val (.int i5), .val (.int (3 : Int32)), .val (.int (1 : Int32)), .val (.ref ex), .val (.ref s1), .val (.int i1), .val (.ref r1), .val (.int (1 : Int32))] [(.int i4), (.ref re)]))
      obtain ⟨v75, T75, h75, L75, X75, e75, hQ75, st75⟩ := own_static X74 hx hZ hown (hw _ (List.mem_of_getElem? (i := 67) rfl)) (hw _ (List.mem_of_getElem? (i := 68) rfl)) (hw _ (List.mem_of_getElem? (i := 69) rfl)) (hw _ (List.mem_of_getElem? (i := 70) rfl)) (by decide) (rmEq l Z a0 hw re i4 h66 n0 Z0 E_re V_re) e74 (g := (mkF m 221 #[.val (.int i0), .val (.int i1), .val (.int i2), .val (.int i3), .val (.int i4), .val (.int i5), .val (.int (3 : Int32)), .val (.int (1 : Int32)), .val (.ref ex), .val (.ref s1), .val (.int i1), .val (.ref r1), .val (.int (1 : Int32))] [(.int i4), (.ref re)])) rfl (by rw [hml]; rfl) (argsL := [(.ref re), (.int i4)]) (rest := []) (lenOf pd_16 rfl) rfl (W := 0) (by show 2 * 0 + _ ≤ _; exact Nat.le_of_eq rfl) (hb hby at_221) (by decide) (by decide) (by decide) (by decide)
      obtain ⟨rfl, N75q, hh75⟩ := hQ75
      have N75 := Fr.app N73 N75q
      rw [hh75] at e75
      refine own_st st75 ?_
      show Fin1 p e below s (rm0Q Z i0 i1 i2 i3 i4 i5 h0 n0) room_1.cells room_1.slots (T75.setTop (mkF m 224 #[.val (.int i0), .val (.int i1), .val (.int i2), .val (.int i3), .val (.int i4), .val (.int i5), .val (.int (3 : Int32)), .val (.int (1 : Int32)), .val (.ref ex), .val (.ref s1), .val (.int i1), .val (.ref r1), .val (.int (1 : Int32))] [(.int (1 : Int32))]))
      refine own_st (fun wt wk => XS.ifNo X75.here hx rfl (hb hby at_224) rfl ((if0 _ _).trans (feq (by decide)).1) wk) ?_
      show Fin1 p e below s (rm0Q Z i0 i1 i2 i3 i4 i5 h0 n0) room_1.cells room_1.slots (T75.setTop (mkF m 227 #[.val (.int i0), .val (.int i1), .val (.int i2), .val (.int i3), .val (.int i4), .val (.int i5), .val (.int (3 : Int32)), .val (.int (1 : Int32)), .val (.ref ex), .val (.ref s1), .val (.int i1), .val (.ref r1), .val (.int (1 : Int32))] []))
      refine own_st (fun wt wk => XS.iconst X75.here hx rfl (hb hby at_227) (XS.goto X75.here hx rfl (pc0 := 228) (pc' := 232) rfl (hb hby at_228) (by decide) (by decide) (XS.istore X75.here hx rfl (hb hby at_232) rfl (l' := #[.val (.int i0), .val (.int i1), .val (.int i2), .val (.int i3), .val (.int i4), .val (.int i5), .val (.int (3 : Int32)), .val (.int (1 : Int32)), .val (.ref ex), .val (.ref s1), .val (.int i1), .val (.ref r1), .val (.int (1 : Int32))]) rfl (XS.iload X75.here hx rfl (hb hby at_234) rfl (XS.iconst X75.here hx rfl (hb hby at_236) wk))))) ?_
      show Fin1 p e below s (rm0Q Z i0 i1 i2 i3 i4 i5 h0 n0) room_1.cells room_1.slots (T75.setTop (mkF m 237 #[.val (.int i0), .val (.int i1), .val (.int i2), .val (.int i3), .val (.int i4), .val (.int i5), .val (.int (3 : Int32)), .val (.int (1 : Int32)), .val (.ref ex), .val (.ref s1), .val (.int i1), .val (.ref r1), .val (.int (1 : Int32))] [(.int (2 : Int32)), (.int (3 : Int32))]))
      refine own_st (fun wt wk => XS.icmpNo X75.here hx rfl (hb hby at_237) rfl (tlt (by decide)).2.2.2 wk) ?_
      show Fin1 p e below s (rm0Q Z i0 i1 i2 i3 i4 i5 h0 n0) room_1.cells room_1.slots (T75.setTop (mkF m 240 #[.val (.int i0), .val (.int i1), .val (.int i2), .val (.int i3), .val (.int i4), .val (.int i5), .val (.int (3 : Int32)), .val (.int (1 : Int32)), .val (.ref ex), .val (.ref s1), .val (.int i1), .val (.ref r1), .val (.int (1 : Int32))] []))
      refine own_st (fun wt wk => XS.iload X75.here hx rfl (hb hby at_240) rfl wk) ?_
      show Fin1 p e below s (rm0Q Z i0 i1 i2 i3 i4 i5 h0 n0) room_1.cells room_1.slots (T75.setTop (mkF m 242 #[.val (.int i0), .val (.int i1), .val (.int i2), .val (.int i3), .val (.int i4), .val (.int i5), .val (.int (3 : Int32)), .val (.int (1 : Int32)), .val (.ref ex), .val (.ref s1), .val (.int i1), .val (.ref r1), .val (.int (1 : Int32))] [(.int (1 : Int32))]))
      refine own_st (fun wt wk => XS.ifNo X75.here hx rfl (hb hby at_242) rfl ((if0 _ _).trans (feq (by decide)).1) wk) ?_
      show Fin1 p e below s (rm0Q Z i0 i1 i2 i3 i4 i5 h0 n0) room_1.cells room_1.slots (T75.setTop (mkF m 245 #[.val (.int i0), .val (.int i1), .val (.int i2), .val (.int i3), .val (.int i4), .val (.int i5), .val (.int (3 : Int32)), .val (.int (1 : Int32)), .val (.ref ex), .val (.ref s1), .val (.int i1), .val (.ref r1), .val (.int (1 : Int32))] []))
      refine own_st (fun wt wk => XS.aload X75.here hx rfl (hb hby at_245) rfl rfl (XS.iconst X75.here hx rfl (hb hby at_247) wk)) ?_
      show Fin1 p e below s (rm0Q Z i0 i1 i2 i3 i4 i5 h0 n0) room_1.cells room_1.slots (T75.setTop (mkF m 248 #[.val (.int i0), .val (.int i1), .val (.int i2), .val (.int i3), .val (.int i4), .val (.int i5), .val (.int (3 : Int32)), .val (.int (1 : Int32)), .val (.ref ex), .val (.ref s1), .val (.int i1), .val (.ref r1), .val (.int (1 : Int32))] [(.int (2 : Int32)), (.ref s1)]))
      obtain ⟨v76, T76, h76, L76, X76, e76, hQ76, st76⟩ := own_virtual X75 hx hZ hown (hw _ (List.mem_of_getElem? (i := 83) rfl)) (hw _ (List.mem_of_getElem? (i := 84) rfl)) (hw _ (List.mem_of_getElem? (i := 86) rfl)) (hw _ (List.mem_of_getElem? (i := 85) rfl)) (hw _ (List.mem_of_getElem? (i := 87) rfl)) (hw _ (List.mem_of_getElem? (i := 4) rfl)) (by decide) (a := s1) E_s1 (rmG32 l Z a0 hw s1 q2 r2 h66 n0 Z0 E_s1 Ss1 Ts1 Eq2) e75 (g := (mkF m 248 #[.val (.int i0), .val (.int i1), .val (.int i2), .val (.int i3), .val (.int i4), .val (.int i5), .val (.int (3 : Int32)), .val (.int (1 : Int32)), .val (.ref ex), .val (.ref s1), .val (.int i1), .val (.ref r1), .val (.int (1 : Int32))] [(.int (2 : Int32)), (.ref s1)])) rfl (by rw [hml]; rfl) (argsL := [(.int (2 : Int32))]) (rest := []) (lenOf pd_17 rfl) rfl (W := 0) (by show 2 * 0 + _ ≤ _; exact Nat.le_of_eq rfl) (hb hby at_248) (by decide) (by decide) (by decide) (by decide)
      obtain ⟨rfl, N76q, hh76⟩ := hQ76
      have N76 := Fr.app N75 N76q
      rw [hh76] at e76
      refine own_st st76 ?_
      show Fin1 p e below s (rm0Q Z i0 i1 i2 i3 i4 i5 h0 n0) room_1.cells room_1.slots (T76.setTop (mkF m 251 #[.val (.int i0), .val (.int i1), .val (.int i2), .val (.int i3), .val (.int i4), .val (.int i5), .val (.int (3 : Int32)), .val (.int (1 : Int32)), .val (.ref ex), .val (.ref s1), .val (.int i1), .val (.ref r1), .val (.int (1 : Int32))] [(.ref r2)]))
      obtain ⟨T77, X77, e77, st77⟩ := castY X76 hx hZ hown (hw _ (List.mem_of_getElem? (i := 65) rfl)) e76 (Ins.self E_r2) (g := (mkF m 251 #[.val (.int i0), .val (.int i1), .val (.int i2), .val (.int i3), .val (.int i4), .val (.int i5), .val (.int (3 : Int32)), .val (.int (1 : Int32)), .val (.ref ex), .val (.ref s1), .val (.int i1), .val (.ref r1), .val (.int (1 : Int32))] [(.ref r2)])) rfl rfl (hb hby at_251)
      refine own_st st77 ?_
      show Fin1 p e below s (rm0Q Z i0 i1 i2 i3 i4 i5 h0 n0) room_1.cells room_1.slots (T77.setTop (mkF m 254 #[.val (.int i0), .val (.int i1), .val (.int i2), .val (.int i3), .val (.int i4), .val (.int i5), .val (.int (3 : Int32)), .val (.int (1 : Int32)), .val (.ref ex), .val (.ref s1), .val (.int i1), .val (.ref r1), .val (.int (1 : Int32))] [(.ref r2)]))
      refine own_st (fun wt wk => XS.aload X77.here hx rfl (hb hby at_254) rfl rfl (XS.iconst X77.here hx rfl (hb hby at_256) wk)) ?_
      show Fin1 p e below s (rm0Q Z i0 i1 i2 i3 i4 i5 h0 n0) room_1.cells room_1.slots (T77.setTop (mkF m 257 #[.val (.int i0), .val (.int i1), .val (.int i2), .val (.int i3), .val (.int i4), .val (.int i5), .val (.int (3 : Int32)), .val (.int (1 : Int32)), .val (.ref ex), .val (.ref s1), .val (.int i1), .val (.ref r1), .val (.int (1 : Int32))] [(.int (2 : Int32)), (.ref ex), (.ref r2)]))
      refine own_st (own_ld (j := (2 : Int32)) (v := (.int i2)) X77 hx hZ e77 V_ex ⟨by decide, by decide⟩ rfl (g := (mkF m 257 #[.val (.int i0), .val (.int i1), .val (.int i2), .val (.int i3), .val (.int i4), .val (.int i5), .val (.int (3 : Int32)), .val (.int (1 : Int32)), .val (.ref ex), .val (.ref s1), .val (.int i1), .val (.ref r1), .val (.int (1 : Int32))] [(.int (2 : Int32)), (.ref ex), (.ref r2)])) rfl rfl (Or.inl ⟨rfl, rfl⟩) (hb hby at_257)) ?_
      show Fin1 p e below s (rm0Q Z i0 i1 i2 i3 i4 i5 h0 n0) room_1.cells room_1.slots (T77.setTop (mkF m 258 #[.val (.int i0), .val (.int i1), .val (.int i2), .val (.int i3), .val (.int i4), .val (.int i5), .val (.int (3 : Int32)), .val (.int (1 : Int32)), .val (.ref ex), .val (.ref s1), .val (.int i1), .val (.ref r1), .val (.int (1 : Int32))] [(.int i2), (.ref r2)]))
      obtain ⟨v78, T78, h78, L78, X78, e78, hQ78, st78⟩ := own_static X77 hx hZ hown (hw _ (List.mem_of_getElem? (i := 67) rfl)) (hw _ (List.mem_of_getElem? (i := 68) rfl)) (hw _ (List.mem_of_getElem? (i := 69) rfl)) (hw _ (List.mem_of_getElem? (i := 70) rfl)) (by decide) (rmEq l Z a0 hw r2 i2 h66 n0 Z0 E_r2 V_r2) e77 (g := (mkF m 258 #[.val (.int i0), .val (.int i1), .val (.int i2), .val (.int i3), .val (.int i4), .val (.int i5), .val (.int (3 : Int32)), .val (.int (1 : Int32)), .val (.ref ex), .val (.ref s1), .val (.int i1), .val (.ref r1), .val (.int (1 : Int32))] [(.int i2), (.ref r2)])) rfl (by rw [hml]; rfl) (argsL := [(.ref r2), (.int i2)]) (rest := []) (lenOf pd_16 rfl) rfl (W := 0) (by show 2 * 0 + _ ≤ _; exact Nat.le_of_eq rfl) (hb hby at_258) (by decide) (by decide) (by decide) (by decide)
      obtain ⟨rfl, N78q, hh78⟩ := hQ78
      have N78 := Fr.app N76 N78q
      rw [hh78] at e78
      refine own_st st78 ?_
      show Fin1 p e below s (rm0Q Z i0 i1 i2 i3 i4 i5 h0 n0) room_1.cells room_1.slots (T78.setTop (mkF m 261 #[.val (.int i0), .val (.int i1), .val (.int i2), .val (.int i3), .val (.int i4), .val (.int i5), .val (.int (3 : Int32)), .val (.int (1 : Int32)), .val (.ref ex), .val (.ref s1), .val (.int i1), .val (.ref r1), .val (.int (1 : Int32))] [(.int (1 : Int32))]))
      refine own_st (fun wt wk => XS.ifNo X78.here hx rfl (hb hby at_261) rfl ((if0 _ _).trans (feq (by decide)).1) wk) ?_
      show Fin1 p e below s (rm0Q Z i0 i1 i2 i3 i4 i5 h0 n0) room_1.cells room_1.slots (T78.setTop (mkF m 264 #[.val (.int i0), .val (.int i1), .val (.int i2), .val (.int i3), .val (.int i4), .val (.int i5), .val (.int (3 : Int32)), .val (.int (1 : Int32)), .val (.ref ex), .val (.ref s1), .val (.int i1), .val (.ref r1), .val (.int (1 : Int32))] []))
      refine own_st (fun wt wk => XS.iconst X78.here hx rfl (hb hby at_264) (XS.goto X78.here hx rfl (pc0 := 265) (pc' := 269) rfl (hb hby at_265) (by decide) (by decide) (XS.istore X78.here hx rfl (hb hby at_269) rfl (l' := #[.val (.int i0), .val (.int i1), .val (.int i2), .val (.int i3), .val (.int i4), .val (.int i5), .val (.int (3 : Int32)), .val (.int (1 : Int32)), .val (.ref ex), .val (.ref s1), .val (.int i1), .val (.ref r1), .val (.int (1 : Int32))]) rfl (XS.iload X78.here hx rfl (hb hby at_271) rfl (XS.iconst X78.here hx rfl (hb hby at_273) wk))))) ?_
      show Fin1 p e below s (rm0Q Z i0 i1 i2 i3 i4 i5 h0 n0) room_1.cells room_1.slots (T78.setTop (mkF m 274 #[.val (.int i0), .val (.int i1), .val (.int i2), .val (.int i3), .val (.int i4), .val (.int i5), .val (.int (3 : Int32)), .val (.int (1 : Int32)), .val (.ref ex), .val (.ref s1), .val (.int i1), .val (.ref r1), .val (.int (1 : Int32))] [(.int (3 : Int32)), (.int (3 : Int32))]))
      refine own_st (fun wt wk => XS.icmpYes X78.here hx rfl (pc0 := 274) (pc' := 308) rfl (hb hby at_274) rfl (flt (by decide)).2.2.2 (by decide) (by decide) wk) ?_
      show Fin1 p e below s (rm0Q Z i0 i1 i2 i3 i4 i5 h0 n0) room_1.cells room_1.slots (T78.setTop (mkF m 308 #[.val (.int i0), .val (.int i1), .val (.int i2), .val (.int i3), .val (.int i4), .val (.int i5), .val (.int (3 : Int32)), .val (.int (1 : Int32)), .val (.ref ex), .val (.ref s1), .val (.int i1), .val (.ref r1), .val (.int (1 : Int32))] []))
      refine own_st (fun wt wk => XS.iload X78.here hx rfl (hb hby at_308) rfl wk) ?_
      show Fin1 p e below s (rm0Q Z i0 i1 i2 i3 i4 i5 h0 n0) room_1.cells room_1.slots (T78.setTop (mkF m 310 #[.val (.int i0), .val (.int i1), .val (.int i2), .val (.int i3), .val (.int i4), .val (.int i5), .val (.int (3 : Int32)), .val (.int (1 : Int32)), .val (.ref ex), .val (.ref s1), .val (.int i1), .val (.ref r1), .val (.int (1 : Int32))] [(.int (1 : Int32))]))
      exact own_retZ X78 hx hlk hret (hb hby at_310) (z := (1 : Int32)) (by decide) (by rw [e78]; exact ⟨rfl, N78⟩) (by decide) (by decide)
    · show Fin1 p e below s (rm0Q Z i0 i1 i2 i3 i4 i5 h0 n0) room_1.cells room_1.slots (T48.setTop (mkF m 112 #[.val (.int i0), .val (.int i1), .val (.int i2), .val (.int i3), .val (.int i4), .val (.int i5), .val (.int (3 : Int32)), .val (.int (2 : Int32)), .val (.ref ex), .val (.ref s1), .unset, .unset, .unset] [(.int (2 : Int32)), (.ref ex)]))
      refine own_st (own_ld (j := (2 : Int32)) (v := (.int i2)) X48 hx hZ e48 V_ex ⟨by decide, by decide⟩ rfl (g := (mkF m 112 #[.val (.int i0), .val (.int i1), .val (.int i2), .val (.int i3), .val (.int i4), .val (.int i5), .val (.int (3 : Int32)), .val (.int (2 : Int32)), .val (.ref ex), .val (.ref s1), .unset, .unset, .unset] [(.int (2 : Int32)), (.ref ex)])) rfl rfl (Or.inl ⟨rfl, rfl⟩) (hb hby at_112)) ?_
      show Fin1 p e below s (rm0Q Z i0 i1 i2 i3 i4 i5 h0 n0) room_1.cells room_1.slots (T48.setTop (mkF m 113 #[.val (.int i0), .val (.int i1), .val (.int i2), .val (.int i3), .val (.int i4), .val (.int i5), .val (.int (3 : Int32)), .val (.int (2 : Int32)), .val (.ref ex), .val (.ref s1), .unset, .unset, .unset] [(.int i2)]))
      refine own_st (fun wt wk => XS.istore X48.here hx rfl (hb hby at_113) rfl (l' := #[.val (.int i0), .val (.int i1), .val (.int i2), .val (.int i3), .val (.int i4), .val (.int i5), .val (.int (3 : Int32)), .val (.int (2 : Int32)), .val (.ref ex), .val (.ref s1), .val (.int i2), .unset, .unset]) rfl (XS.aload X48.here hx rfl (hb hby at_115) rfl rfl (XS.iload X48.here hx rfl (hb hby at_117) rfl (XS.iload X48.here hx rfl (hb hby at_119) rfl wk)))) ?_
      show Fin1 p e below s (rm0Q Z i0 i1 i2 i3 i4 i5 h0 n0) room_1.cells room_1.slots (T48.setTop (mkF m 121 #[.val (.int i0), .val (.int i1), .val (.int i2), .val (.int i3), .val (.int i4), .val (.int i5), .val (.int (3 : Int32)), .val (.int (2 : Int32)), .val (.ref ex), .val (.ref s1), .val (.int i2), .unset, .unset] [(.int i4), (.int (2 : Int32)), (.ref ex)]))
      obtain ⟨T79, h79, X79, e79, W79, U79, st79⟩ := own_stI (j := (2 : Int32)) X48 hx hZ e48 V_ex ⟨by decide, by decide⟩ 2 rfl (by simp) (g := (mkF m 121 #[.val (.int i0), .val (.int i1), .val (.int i2), .val (.int i3), .val (.int i4), .val (.int i5), .val (.int (3 : Int32)), .val (.int (2 : Int32)), .val (.ref ex), .val (.ref s1), .val (.int i2), .unset, .unset] [(.int i4), (.int (2 : Int32)), (.ref ex)])) rfl rfl (hb hby at_121)
      have N79 := Fr.snoc X79 N48 g_ex
      have Z0 := Nat.le_trans Z0 (Nat.le_of_eq W79.size.symm)
      have O := O.wr W79 g_ex
      have E_s1 := E_s1.wr W79
      have E_r0 := E_r0.wr W79
      have V_r0 := V_r0.other W79 (Or.inl ne_r0_ex)
      have E_q0 := E_q0.wr W79
      have E_r1 := E_r1.wr W79
      have V_r1 := V_r1.other W79 (Or.inl ne_r1_ex)
      have E_q1 := E_q1.wr W79
      have Eq0 := Eq0.other W79 (Or.inl (Ne.symm ne_ex_q0))
      have Pq0 := Pq0.other W79 (Or.inl (Ne.symm ne_ex_q0))
      have Nq0 := Nq0.other W79 (Or.inl (Ne.symm ne_ex_q0))
      have E_r2 := E_r2.wr W79
      have V_r2 := V_r2.other W79 (Or.inl ne_r2_ex)
      have E_q2 := E_q2.wr W79
      have Hs1 := Hs1.other W79 (Or.inl (Ne.symm ne_ex_s1))
      have Ts1 := Ts1.other W79 (Or.inl (Ne.symm ne_ex_s1))
      have Ss1 := Ss1.other W79 (Or.inl (Ne.symm ne_ex_s1))
      have Eq1 := Eq1.other W79 (Or.inl (Ne.symm ne_ex_q1))
      have Pq1 := Pq1.other W79 (Or.inl (Ne.symm ne_ex_q1))
      have Nq1 := Nq1.other W79 (Or.inl (Ne.symm ne_ex_q1))
      have Eq2 := Eq2.other W79 (Or.inl (Ne.symm ne_ex_q2))
      have Pq2 := Pq2.other W79 (Or.inl (Ne.symm ne_ex_q2))
      have Nq2 := Nq2.other W79 (Or.inl (Ne.symm ne_ex_q2))
      have V_ex : Arv Z h79 ex kc1 .int (4 : Int32) [(.int i0), (.int i1), (.int i4), (.int i3)] (.int (0 : Int32)) := U79
      refine own_st st79 ?_
      show Fin1 p e below s (rm0Q Z i0 i1 i2 i3 i4 i5 h0 n0) room_1.cells room_1.slots (T79.setTop (mkF m 122 #[.val (.int i0), .val (.int i1), .val (.int i2), .val (.int i3), .val (.int i4), .val (.int i5), .val (.int (3 : Int32)), .val (.int (2 : Int32)), .val (.ref ex), .val (.ref s1), .val (.int i2), .unset, .unset] []))
      refine own_st (fun wt wk => XS.aload X79.here hx rfl (hb hby at_122) rfl rfl (XS.iload X79.here hx rfl (hb hby at_124) rfl (XS.iload X79.here hx rfl (hb hby at_126) rfl wk))) ?_
      show Fin1 p e below s (rm0Q Z i0 i1 i2 i3 i4 i5 h0 n0) room_1.cells room_1.slots (T79.setTop (mkF m 128 #[.val (.int i0), .val (.int i1), .val (.int i2), .val (.int i3), .val (.int i4), .val (.int i5), .val (.int (3 : Int32)), .val (.int (2 : Int32)), .val (.ref ex), .val (.ref s1), .val (.int i2), .unset, .unset] [(.int i4), (.int (2 : Int32)), (.ref s1)]))
      obtain ⟨v80, T80, h80, L80, X80, e80, hQ80, st80⟩ := own_static X79 hx hZ hown (hw _ (List.mem_of_getElem? (i := 16) rfl)) (hw _ (List.mem_of_getElem? (i := 17) rfl)) (hw _ (List.mem_of_getElem? (i := 18) rfl)) (hw _ (List.mem_of_getElem? (i := 19) rfl)) (by decide) (rmV l Z a0 hw i4 h79 n0 Z0 O hic) e79 (g := (mkF m 128 #[.val (.int i0), .val (.int i1), .val (.int i2), .val (.int i3), .val (.int i4), .val (.int i5), .val (.int (3 : Int32)), .val (.int (2 : Int32)), .val (.ref ex), .val (.ref s1), .val (.int i2), .unset, .unset] [(.int i4), (.int (2 : Int32)), (.ref s1)])) rfl (by rw [hml]; rfl) (argsL := [(.int i4)]) (rest := [(.int (2 : Int32)), (.ref s1)]) (lenOf pd_13 rfl) rfl (W := 2) (by show 2 * 0 + _ ≤ _; exact Nat.le_of_eq rfl) (hb hby at_128) (by decide) (by decide) (by decide) (by decide)
      obtain ⟨re, rfl, N80q, K80, E_re, V_re⟩ := hQ80
      have N80 := Fr.app N79 N80q
      have Z0 := Nat.le_trans Z0 K80.1
      have O := O.keep K80 all0
      have V_ex := V_ex.keep K80 nin0
      have E_s1 := E_s1.keep K80
      have E_r0 := E_r0.keep K80
      have V_r0 := V_r0.keep K80 nin0
      have E_q0 := E_q0.keep K80
      have E_r1 := E_r1.keep K80
      have V_r1 := V_r1.keep K80 nin0
      have E_q1 := E_q1.keep K80
      have Eq0 := Eq0.keep K80 nin0
      have Pq0 := Pq0.keep K80 nin0
      have Nq0 := Nq0.keep K80 nin0
      have E_r2 := E_r2.keep K80
      have V_r2 := V_r2.keep K80 nin0
      have E_q2 := E_q2.keep K80
      have Hs1 := Hs1.keep K80 nin0
      have Ts1 := Ts1.keep K80 nin0
      have Ss1 := Ss1.keep K80 nin0
      have Eq1 := Eq1.keep K80 nin0
      have Pq1 := Pq1.keep K80 nin0
      have Nq1 := Nq1.keep K80 nin0
      have Eq2 := Eq2.keep K80 nin0
      have Pq2 := Pq2.keep K80 nin0
      have Nq2 := Nq2.keep K80 nin0
      refine own_st st80 ?_
      show Fin1 p e below s (rm0Q Z i0 i1 i2 i3 i4 i5 h0 n0) room_1.cells room_1.slots (T80.setTop (mkF m 131 #[.val (.int i0), .val (.int i1), .val (.int i2), .val (.int i3), .val (.int i4), .val (.int i5), .val (.int (3 : Int32)), .val (.int (2 : Int32)), .val (.ref ex), .val (.ref s1), .val (.int i2), .unset, .unset] [(.ref re), (.int (2 : Int32)), (.ref s1)]))
      have ne_re_ex : re ≠ ex := own_ne_arv E_re (hw _ (List.mem_of_getElem? (i := 89) rfl)) V_ex
      have ne_re_s1 : re ≠ s1 := ne_exa E_re E_s1 (by decide)
      have ne_re_q0 : re ≠ q0 := ne_exa E_re E_q0 (by decide)
      have ne_re_q1 : re ≠ q1 := ne_exa E_re E_q1 (by decide)
      have ne_re_q2 : re ≠ q2 := ne_exa E_re E_q2 (by decide)
      obtain ⟨v81, T81, h81, L81, X81, e81, hQ81, st81⟩ := own_virtual X80 hx hZ hown (hw _ (List.mem_of_getElem? (i := 59) rfl)) (hw _ (List.mem_of_getElem? (i := 60) rfl)) (hw _ (List.mem_of_getElem? (i := 62) rfl)) (hw _ (List.mem_of_getElem? (i := 61) rfl)) (hw _ (List.mem_of_getElem? (i := 63) rfl)) (hw _ (List.mem_of_getElem? (i := 4) rfl)) (by decide) (a := s1) E_s1 (rmT32 l Z a0 hw s1 re q2 r2 (.ref q1) .null h80 n0 Z0 g_q2 E_s1 E_q2 Ss1 Ts1 Eq2 Pq2 Nq2) e80 (g := (mkF m 131 #[.val (.int i0), .val (.int i1), .val (.int i2), .val (.int i3), .val (.int i4), .val (.int i5), .val (.int (3 : Int32)), .val (.int (2 : Int32)), .val (.ref ex), .val (.ref s1), .val (.int i2), .unset, .unset] [(.ref re), (.int (2 : Int32)), (.ref s1)])) rfl (by rw [hml]; rfl) (argsL := [(.int (2 : Int32)), (.ref re)]) (rest := []) (lenOf pd_15 rfl) rfl (W := 0) (by show 2 * 0 + _ ≤ _; exact Nat.le_of_eq rfl) (hb hby at_131) (by decide) (by decide) (by decide) (by decide)
      obtain ⟨rfl, N81q, K81, Eq2, Pq2, Nq2⟩ := hQ81
      have N81 := Fr.app N80 N81q
      have Z0 := Nat.le_trans Z0 K81.1
      have O := O.keep K81 (allS (P := fun x => n0 ≤ x) g_q2 all0)
      have V_ex := V_ex.keep K81 (ninS ne_ex_q2 nin0)
      have E_s1 := E_s1.keep K81
      have E_r0 := E_r0.keep K81
      have V_r0 := V_r0.keep K81 (ninS ne_r0_q2 nin0)
      have E_q0 := E_q0.keep K81
      have E_r1 := E_r1.keep K81
      have V_r1 := V_r1.keep K81 (ninS ne_r1_q2 nin0)
      have E_q1 := E_q1.keep K81
      have Eq0 := Eq0.keep K81 (ninS ne_q0_q2 nin0)
      have Pq0 := Pq0.keep K81 (ninS ne_q0_q2 nin0)
      have Nq0 := Nq0.keep K81 (ninS ne_q0_q2 nin0)
      have E_r2 := E_r2.keep K81
      have V_r2 := V_r2.keep K81 (ninS ne_r2_q2 nin0)
      have E_q2 := E_q2.keep K81
      have Hs1 := Hs1.keep K81 (ninS ne_s1_q2 nin0)
      have Ts1 := Ts1.keep K81 (ninS ne_s1_q2 nin0)
      have Ss1 := Ss1.keep K81 (ninS ne_s1_q2 nin0)
      have Eq1 := Eq1.keep K81 (ninS ne_q1_q2 nin0)
      have Pq1 := Pq1.keep K81 (ninS ne_q1_q2 nin0)
      have Nq1 := Nq1.keep K81 (ninS ne_q1_q2 nin0)
      have E_re := E_re.keep K81
      have V_re := V_re.keep K81 (ninS ne_re_q2 nin0)
      refine own_st st81 ?_
      show Fin1 p e below s (rm0Q Z i0 i1 i2 i3 i4 i5 h0 n0) room_1.cells room_1.slots (T81.setTop (mkF m 134 #[.val (.int i0), .val (.int i1), .val (.int i2), .val (.int i3), .val (.int i4), .val (.int i5), .val (.int (3 : Int32)), .val (.int (2 : Int32)), .val (.ref ex), .val (.ref s1), .val (.int i2), .unset, .unset] [(.ref r2)]))
      obtain ⟨T82, X82, e82, st82⟩ := castY X81 hx hZ hown (hw _ (List.mem_of_getElem? (i := 65) rfl)) e81 (Ins.self E_r2) (g := (mkF m 134 #[.val (.int i0), .val (.int i1), .val (.int i2), .val (.int i3), .val (.int i4), .val (.int i5), .val (.int (3 : Int32)), .val (.int (2 : Int32)), .val (.ref ex), .val (.ref s1), .val (.int i2), .unset, .unset] [(.ref r2)])) rfl rfl (hb hby at_134)
      refine own_st st82 ?_
      show Fin1 p e below s (rm0Q Z i0 i1 i2 i3 i4 i5 h0 n0) room_1.cells room_1.slots (T82.setTop (mkF m 137 #[.val (.int i0), .val (.int i1), .val (.int i2), .val (.int i3), .val (.int i4), .val (.int i5), .val (.int (3 : Int32)), .val (.int (2 : Int32)), .val (.ref ex), .val (.ref s1), .val (.int i2), .unset, .unset] [(.ref r2)]))
      refine own_st (fun wt wk => XS.astore X82.here hx rfl (hb hby at_137) rfl rfl (l' := #[.val (.int i0), .val (.int i1), .val (.int i2), .val (.int i3), .val (.int i4), .val (.int i5), .val (.int (3 : Int32)), .val (.int (2 : Int32)), .val (.ref ex), .val (.ref s1), .val (.int i2), .val (.ref r2), .unset]) rfl (XS.aload X82.here hx rfl (hb hby at_139) rfl rfl (XS.iload X82.here hx rfl (hb hby at_141) rfl wk))) ?_
      show Fin1 p e below s (rm0Q Z i0 i1 i2 i3 i4 i5 h0 n0) room_1.cells room_1.slots (T82.setTop (mkF m 143 #[.val (.int i0), .val (.int i1), .val (.int i2), .val (.int i3), .val (.int i4), .val (.int i5), .val (.int (3 : Int32)), .val (.int (2 : Int32)), .val (.ref ex), .val (.ref s1), .val (.int i2), .val (.ref r2), .unset] [(.int i2), (.ref r2)]))
      obtain ⟨v83, T83, h83, L83, X83, e83, hQ83, st83⟩ := own_static X82 hx hZ hown (hw _ (List.mem_of_getElem? (i := 67) rfl)) (hw _ (List.mem_of_getElem? (i := 68) rfl)) (hw _ (List.mem_of_getElem? (i := 69) rfl)) (hw _ (List.mem_of_getElem? (i := 70) rfl)) (by decide) (rmEq l Z a0 hw r2 i2 h81 n0 Z0 E_r2 V_r2) e82 (g := (mkF m 143 #[.val (.int i0), .val (.int i1), .val (.int i2), .val (.int i3), .val (.int i4), .val (.int i5), .val (.int (3 : Int32)), .val (.int (2 : Int32)), .val (.ref ex), .val (.ref s1), .val (.int i2), .val (.ref r2), .unset] [(.int i2), (.ref r2)])) rfl (by rw [hml]; rfl) (argsL := [(.ref r2), (.int i2)]) (rest := []) (lenOf pd_16 rfl) rfl (W := 0) (by show 2 * 0 + _ ≤ _; exact Nat.le_of_eq rfl) (hb hby at_143) (by decide) (by decide) (by decide) (by decide)
      obtain ⟨rfl, N83q, hh83⟩ := hQ83
      have N83 := Fr.app N81 N83q
      rw [hh83] at e83
      refine own_st st83 ?_
      show Fin1 p e below s (rm0Q Z i0 i1 i2 i3 i4 i5 h0 n0) room_1.cells room_1.slots (T83.setTop (mkF m 146 #[.val (.int i0), .val (.int i1), .val (.int i2), .val (.int i3), .val (.int i4), .val (.int i5), .val (.int (3 : Int32)), .val (.int (2 : Int32)), .val (.ref ex), .val (.ref s1), .val (.int i2), .val (.ref r2), .unset] [(.int (1 : Int32))]))
      refine own_st (fun wt wk => XS.ifNo X83.here hx rfl (hb hby at_146) rfl ((if0 _ _).trans (feq (by decide)).1) wk) ?_
      show Fin1 p e below s (rm0Q Z i0 i1 i2 i3 i4 i5 h0 n0) room_1.cells room_1.slots (T83.setTop (mkF m 149 #[.val (.int i0), .val (.int i1), .val (.int i2), .val (.int i3), .val (.int i4), .val (.int i5), .val (.int (3 : Int32)), .val (.int (2 : Int32)), .val (.ref ex), .val (.ref s1), .val (.int i2), .val (.ref r2), .unset] []))
      refine own_st (fun wt wk => XS.aload X83.here hx rfl (hb hby at_149) rfl rfl wk) ?_
      show Fin1 p e below s (rm0Q Z i0 i1 i2 i3 i4 i5 h0 n0) room_1.cells room_1.slots (T83.setTop (mkF m 151 #[.val (.int i0), .val (.int i1), .val (.int i2), .val (.int i3), .val (.int i4), .val (.int i5), .val (.int (3 : Int32)), .val (.int (2 : Int32)), .val (.ref ex), .val (.ref s1), .val (.int i2), .val (.ref r2), .unset] [(.ref s1)]))
      obtain ⟨v84, T84, h84, L84, X84, e84, hQ84, st84⟩ := own_virtual X83 hx hZ hown (hw _ (List.mem_of_getElem? (i := 78) rfl)) (hw _ (List.mem_of_getElem? (i := 79) rfl)) (hw _ (List.mem_of_getElem? (i := 81) rfl)) (hw _ (List.mem_of_getElem? (i := 80) rfl)) (hw _ (List.mem_of_getElem? (i := 82) rfl)) (hw _ (List.mem_of_getElem? (i := 4) rfl)) (by decide) (a := s1) E_s1 (rmZ l Z a0 hw s1 (3 : Int32) h81 n0 Z0 Ss1) e83 (g := (mkF m 151 #[.val (.int i0), .val (.int i1), .val (.int i2), .val (.int i3), .val (.int i4), .val (.int i5), .val (.int (3 : Int32)), .val (.int (2 : Int32)), .val (.ref ex), .val (.ref s1), .val (.int i2), .val (.ref r2), .unset] [(.ref s1)])) rfl (by rw [hml]; rfl) (argsL := []) (rest := []) (lenOf pd_12 rfl) rfl (W := 0) (by show 2 * 0 + _ ≤ _; exact Nat.le_of_eq rfl) (hb hby at_151) (by decide) (by decide) (by decide) (by decide)
      obtain ⟨rfl, N84q, hh84⟩ := hQ84
      have N84 := Fr.app N83 N84q
      rw [hh84] at e84
      refine own_st st84 ?_
      show Fin1 p e below s (rm0Q Z i0 i1 i2 i3 i4 i5 h0 n0) room_1.cells room_1.slots (T84.setTop (mkF m 154 #[.val (.int i0), .val (.int i1), .val (.int i2), .val (.int i3), .val (.int i4), .val (.int i5), .val (.int (3 : Int32)), .val (.int (2 : Int32)), .val (.ref ex), .val (.ref s1), .val (.int i2), .val (.ref r2), .unset] [(.int (3 : Int32))]))
      refine own_st (fun wt wk => XS.iload X84.here hx rfl (hb hby at_154) rfl wk) ?_
      show Fin1 p e below s (rm0Q Z i0 i1 i2 i3 i4 i5 h0 n0) room_1.cells room_1.slots (T84.setTop (mkF m 156 #[.val (.int i0), .val (.int i1), .val (.int i2), .val (.int i3), .val (.int i4), .val (.int i5), .val (.int (3 : Int32)), .val (.int (2 : Int32)), .val (.ref ex), .val (.ref s1), .val (.int i2), .val (.ref r2), .unset] [(.int (3 : Int32)), (.int (3 : Int32))]))
      refine own_st (fun wt wk => XS.icmpNo X84.here hx rfl (hb hby at_156) rfl (teq (by decide)).2 wk) ?_
      show Fin1 p e below s (rm0Q Z i0 i1 i2 i3 i4 i5 h0 n0) room_1.cells room_1.slots (T84.setTop (mkF m 159 #[.val (.int i0), .val (.int i1), .val (.int i2), .val (.int i3), .val (.int i4), .val (.int i5), .val (.int (3 : Int32)), .val (.int (2 : Int32)), .val (.ref ex), .val (.ref s1), .val (.int i2), .val (.ref r2), .unset] []))
      refine own_st (fun wt wk => XS.iconst X84.here hx rfl (hb hby at_159) (XS.goto X84.here hx rfl (pc0 := 160) (pc' := 164) rfl (hb hby at_160) (by decide) (by decide) (XS.istore X84.here hx rfl (hb hby at_164) rfl (l' := #[.val (.int i0), .val (.int i1), .val (.int i2), .val (.int i3), .val (.int i4), .val (.int i5), .val (.int (3 : Int32)), .val (.int (2 : Int32)), .val (.ref ex), .val (.ref s1), .val (.int i2), .val (.ref r2), .val (.int (1 : Int32))]) rfl (XS.iload X84.here hx rfl (hb hby at_166) rfl wk)))) ?_
      show Fin1 p e below s (rm0Q Z i0 i1 i2 i3 i4 i5 h0 n0) room_1.cells room_1.slots (T84.setTop (mkF m 168 #[.val (.int i0), .val (.int i1), .val (.int i2), .val (.int i3), .val (.int i4), .val (.int i5), .val (.int (3 : Int32)), .val (.int (2 : Int32)), .val (.ref ex), .val (.ref s1), .val (.int i2), .val (.ref r2), .val (.int (1 : Int32))] [(.int (1 : Int32))]))
      refine own_st (fun wt wk => XS.ifNo X84.here hx rfl (hb hby at_168) rfl ((if0 _ _).trans (feq (by decide)).1) wk) ?_
      show Fin1 p e below s (rm0Q Z i0 i1 i2 i3 i4 i5 h0 n0) room_1.cells room_1.slots (T84.setTop (mkF m 171 #[.val (.int i0), .val (.int i1), .val (.int i2), .val (.int i3), .val (.int i4), .val (.int i5), .val (.int (3 : Int32)), .val (.int (2 : Int32)), .val (.ref ex), .val (.ref s1), .val (.int i2), .val (.ref r2), .val (.int (1 : Int32))] []))
      refine own_st (fun wt wk => XS.aload X84.here hx rfl (hb hby at_171) rfl rfl (XS.iconst X84.here hx rfl (hb hby at_173) wk)) ?_
      show Fin1 p e below s (rm0Q Z i0 i1 i2 i3 i4 i5 h0 n0) room_1.cells room_1.slots (T84.setTop (mkF m 174 #[.val (.int i0), .val (.int i1), .val (.int i2), .val (.int i3), .val (.int i4), .val (.int i5), .val (.int (3 : Int32)), .val (.int (2 : Int32)), .val (.ref ex), .val (.ref s1), .val (.int i2), .val (.ref r2), .val (.int (1 : Int32))] [(.int (0 : Int32)), (.ref s1)]))
      obtain ⟨v85, T85, h85, L85, X85, e85, hQ85, st85⟩ := own_virtual X84 hx hZ hown (hw _ (List.mem_of_getElem? (i := 83) rfl)) (hw _ (List.mem_of_getElem? (i := 84) rfl)) (hw _ (List.mem_of_getElem? (i := 86) rfl)) (hw _ (List.mem_of_getElem? (i := 85) rfl)) (hw _ (List.mem_of_getElem? (i := 87) rfl)) (hw _ (List.mem_of_getElem? (i := 4) rfl)) (by decide) (a := s1) E_s1 (rmG30 l Z a0 hw s1 q0 r0 h81 n0 Z0 E_s1 Ss1 Hs1 Eq0) e84 (g := (mkF m 174 #[.val (.int i0), .val (.int i1), .val (.int i2), .val (.int i3), .val (.int i4), .val (.int i5), .val (.int (3 : Int32)), .val (.int (2 : Int32)), .val (.ref ex), .val (.ref s1), .val (.int i2), .val (.ref r2), .val (.int (1 : Int32))] [(.int (0 : Int32)), (.ref s1)])) rfl (by rw [hml]; rfl) (argsL := [(.int (0 : Int32))]) (rest := []) (lenOf pd_17 rfl) rfl (W := 0) (by show 2 * 0 + _ ≤ _; exact Nat.le_of_eq rfl) (hb hby at_174) (by decide) (by decide) (by decide) (by decide)
      obtain ⟨rfl, N85q, hh85⟩ := hQ85
      have N85 := Fr.app N84 N85q
      rw [hh85] at e85
      refine own_st st85 ?_
      show Fin1 p e below s (rm0Q Z i0 i1 i2 i3 i4 i5 h0 n0) room_1.cells room_1.slots (T85.setTop (mkF m 177 #[.val (.int i0), .val (.int i1), .val (.int i2), .val (.int i3), .val (.int i4), .val (.int i5), .val (.int (3 : Int32)), .val (.int (2 : Int32)), .val (.ref ex), .val (.ref s1), .val (.int i2), .val (.ref r2), .val (.int (1 : Int32))] [(.ref r0)]))
      obtain ⟨T86, X86, e86, st86⟩ := castY X85 hx hZ hown (hw _ (List.mem_of_getElem? (i := 65) rfl)) e85 (Ins.self E_r0) (g := (mkF m 177 #[.val (.int i0), .val (.int i1), .val (.int i2), .val (.int i3), .val (.int i4), .val (.int i5), .val (.int (3 : Int32)), .val (.int (2 : Int32)), .val (.ref ex), .val (.ref s1), .val (.int i2), .val (.ref r2), .val (.int (1 : Int32))] [(.ref r0)])) rfl rfl (hb hby at_177)
      refine own_st st86 ?_
      show Fin1 p e below s (rm0Q Z i0 i1 i2 i3 i4 i5 h0 n0) room_1.cells room_1.slots (T86.setTop (mkF m 180 #[.val (.int i0), .val (.int i1), .val (.int i2), .val (.int i3), .val (.int i4), .val (.int i5), .val (.int (3 : Int32)), .val (.int (2 : Int32)), .val (.ref ex), .val (.ref s1), .val (.int i2), .val (.ref r2), .val (.int (1 : Int32))] [(.ref r0)]))
      refine own_st (fun wt wk => XS.aload X86.here hx rfl (hb hby at_180) rfl rfl (XS.iconst X86.here hx rfl (hb hby at_182) wk)) ?_
      show Fin1 p e below s (rm0Q Z i0 i1 i2 i3 i4 i5 h0 n0) room_1.cells room_1.slots (T86.setTop (mkF m 183 #[.val (.int i0), .val (.int i1), .val (.int i2), .val (.int i3), .val (.int i4), .val (.int i5), .val (.int (3 : Int32)), .val (.int (2 : Int32)), .val (.ref ex), .val (.ref s1), .val (.int i2), .val (.ref r2), .val (.int (1 : Int32))] [(.int (0 : Int32)), (.ref ex), (.ref r0)]))
      refine own_st (own_ld (j := (0 : Int32)) (v := (.int i0)) X86 hx hZ e86 V_ex ⟨by decide, by decide⟩ rfl (g := (mkF m 183 #[.val (.int i0), .val (.int i1), .val (.int i2), .val (.int i3), .val (.int i4), .val (.int i5), .val (.int (3 : Int32)), .val (.int (2 : Int32)), .val (.ref ex), .val (.ref s1), .val (.int i2), .val (.ref r2), .val (.int (1 : Int32))] [(.int (0 : Int32)), (.ref ex), (.ref r0)])) rfl rfl (Or.inl ⟨rfl, rfl⟩) (hb hby at_183)) ?_
      show Fin1 p e below s (rm0Q Z i0 i1 i2 i3 i4 i5 h0 n0) room_1.cells room_1.slots (T86.setTop (mkF m 184 #[.val (.int i0), .val (.int i1), .val (.int i2), .val (.int i3), .val (.int i4), .val (.int i5), .val (.int (3 : Int32)), .val (.int (2 : Int32)), .val (.ref ex), .val (.ref s1), .val (.int i2), .val (.ref r2), .val (.int (1 : Int32))] [(.int i0), (.ref r0)]))
      obtain ⟨v87, T87, h87, L87, X87, e87, hQ87, st87⟩ := own_static X86 hx hZ hown (hw _ (List.mem_of_getElem? (i := 67) rfl)) (hw _ (List.mem_of_getElem? (i := 68) rfl)) (hw _ (List.mem_of_getElem? (i := 69) rfl)) (hw _ (List.mem_of_getElem? (i := 70) rfl)) (by decide) (rmEq l Z a0 hw r0 i0 h81 n0 Z0 E_r0 V_r0) e86 (g := (mkF m 184 #[.val (.int i0), .val (.int i1), .val (.int i2), .val (.int i3), .val (.int i4), .val (.int i5), .val (.int (3 : Int32)), .val (.int (2 : Int32)), .val (.ref ex), .val (.ref s1), .val (.int i2), .val (.ref r2), .val (.int (1 : Int32))] [(.int i0), (.ref r0)])) rfl (by rw [hml]; rfl) (argsL := [(.ref r0), (.int i0)]) (rest := []) (lenOf pd_16 rfl) rfl (W := 0) (by show 2 * 0 + _ ≤ _; exact Nat.le_of_eq rfl) (hb hby at_184) (by decide) (by decide) (by decide) (by decide)
      obtain ⟨rfl, N87q, hh87⟩ := hQ87
      have N87 := Fr.app N85 N87q
      rw [hh87] at e87
      refine own_st st87 ?_
      show Fin1 p e below s (rm0Q Z i0 i1 i2 i3 i4 i5 h0 n0) room_1.cells room_1.slots (T87.setTop (mkF m 187 #[.val (.int i0), .val (.int i1), .val (.int i2), .val (.int i3), .val (.int i4), .val (.int i5), .val (.int (3 : Int32)), .val (.int (2 : Int32)), .val (.ref ex), .val (.ref s1), .val (.int i2), .val (.ref r2), .val (.int (1 : Int32))] [(.int (1 : Int32))]))
      refine own_st (fun wt wk => XS.ifNo X87.here hx rfl (hb hby at_187) rfl ((if0 _ _).trans (feq (by decide)).1) wk) ?_
      show Fin1 p e below s (rm0Q Z i0 i1 i2 i3 i4 i5 h0 n0) room_1.cells room_1.slots (T87.setTop (mkF m 190 #[.val (.int i0), .val (.int i1), .val (.int i2), .val (.int i3), .val (.int i4), .val (.int i5), .val (.int (3 : Int32)), .val (.int (2 : Int32)), .val (.ref ex), .val (.ref s1), .val (.int i2), .val (.ref r2), .val (.int (1 : Int32))] []))
      refine own_st (fun wt wk => XS.iconst X87.here hx rfl (hb hby at_190) (XS.goto X87.here hx rfl (pc0 := 191) (pc' := 195) rfl (hb hby at_191) (by decide) (by decide) (XS.istore X87.here hx rfl (hb hby at_195) rfl (l' := #[.val (.int i0), .val (.int i1), .val (.int i2), .val (.int i3), .val (.int i4), .val (.int i5), .val (.int (3 : Int32)), .val (.int (2 : Int32)), .val (.ref ex), .val (.ref s1), .val (.int i2), .val (.ref r2), .val (.int (1 : Int32))]) rfl (XS.iload X87.here hx rfl (hb hby at_197) rfl (XS.iconst X87.here hx rfl (hb hby at_199) wk))))) ?_
      show Fin1 p e below s (rm0Q Z i0 i1 i2 i3 i4 i5 h0 n0) room_1.cells room_1.slots (T87.setTop (mkF m 200 #[.val (.int i0), .val (.int i1), .val (.int i2), .val (.int i3), .val (.int i4), .val (.int i5), .val (.int (3 : Int32)), .val (.int (2 : Int32)), .val (.ref ex), .val (.ref s1), .val (.int i2), .val (.ref r2), .val (.int (1 : Int32))] [(.int (1 : Int32)), (.int (3 : Int32))]))
      refine own_st (fun wt wk => XS.icmpNo X87.here hx rfl (hb hby at_200) rfl (tlt (by decide)).2.2.2 wk) ?_
      show Fin1 p e below s (rm0Q Z i0 i1 i2 i3 i4 i5 h0 n0) room_1.cells room_1.slots (T87.setTop (mkF m 203 #[.val (.int i0), .val (.int i1), .val (.int i2), .val (.int i3), .val (.int i4), .val (.int i5), .val (.int (3 : Int32)), .val (.int (2 : Int32)), .val (.ref ex), .val (.ref s1), .val (.int i2), .val (.ref r2), .val (.int (1 : Int32))] []))
      refine own_st (fun wt wk => XS.iload X87.here hx rfl (hb hby at_203) rfl wk) ?_
      show Fin1 p e below s (rm0Q Z i0 i1 i2 i3 i4 i5 h0 n0) room_1.cells room_1.slots (T87.setTop (mkF m 205 #[.val (.int i0), .val (.int i1), .val (.int i2), .val (.int i3), .val (.int i4), .val (.int i5), .val (.int (3 : Int32)), .val (.int (2 : Int32)), .val (.ref ex), .val (.ref s1), .val (.int i2), .val (.ref r2), .val (.int (1 : Int32))] [(.int (1 : Int32))]))
      refine own_st (fun wt wk => XS.ifNo X87.here hx rfl (hb hby at_205) rfl ((if0 _ _).trans (feq (by decide)).1) wk) ?_
      show Fin1 p e below s (rm0Q Z i0 i1 i2 i3 i4 i5 h0 n0) room_1.cells room_1.slots (T87.setTop (mkF m 208 #[.val (.int i0), .val (.int i1), .val (.int i2), .val (.int i3), .val (.int i4), .val (.int i5), .val (.int (3 : Int32)), .val (.int (2 : Int32)), .val (.ref ex), .val (.ref s1), .val (.int i2), .val (.ref r2), .val (.int (1 : Int32))] []))
      refine own_st (fun wt wk => XS.aload X87.here hx rfl (hb hby at_208) rfl rfl (XS.iconst X87.here hx rfl (hb hby at_210) wk)) ?_
      show Fin1 p e below s (rm0Q Z i0 i1 i2 i3 i4 i5 h0 n0) room_1.cells room_1.slots (T87.setTop (mkF m 211 #[.val (.int i0), .val (.int i1), .val (.int i2), .val (.int i3), .val (.int i4), .val (.int i5), .val (.int (3 : Int32)), .val (.int (2 : Int32)), .val (.ref ex), .val (.ref s1), .val (.int i2), .val (.ref r2), .val (.int (1 : Int32))] [(.int (1 : Int32)), (.ref s1)]))
      obtain ⟨v88, T88, h88, L88, X88, e88, hQ88, st88⟩ := own_virtual X87 hx hZ hown (hw _ (List.mem_of_getElem? (i := 83) rfl)) (hw _ (List.mem_of_getElem? (i := 84) rfl)) (hw _ (List.mem_of_getElem? (i := 86) rfl)) (hw _ (List.mem_of_getElem? (i := 85) rfl)) (hw _ (List.mem_of_getElem? (i := 87) rfl)) (hw _ (List.mem_of_getElem? (i := 4) rfl)) (by decide) (a := s1) E_s1 (rmG31 l Z a0 hw s1 q1 q2 r1 h81 n0 Z0 E_s1 Ss1 Ts1 Pq2 Eq1) e87 (g := (mkF m 211 #[.val (.int i0), .val (.int i1), .val (.int i2), .val (.int i3), .val (.int i4), .val (.int i5), .val (.int (3 : Int32)), .val (.int (2 : Int32)), .val (.ref ex), .val (.ref s1), .val (.int i2), .val (.ref r2), .val (.int (1 : Int32))] [(.int (1 : Int32)), (.ref s1)])) rfl (by rw [hml]; rfl) (argsL := [(.int (1 : Int32))]) (rest := []) (lenOf pd_17 rfl) rfl (W := 0) (by show 2 * 0 + _ ≤ _; exact Nat.le_of_eq rfl) (hb hby at_211) (by decide) (by decide) (by decide) (by decide)
      obtain ⟨rfl, N88q, hh88⟩ := hQ88
      have N88 := Fr.app N87 N88q
      rw [hh88] at e88
      refine own_st st88 ?_
      show Fin1 p e below s (rm0Q Z i0 i1 i2 i3 i4 i5 h0 n0) room_1.cells room_1.slots (T88.setTop (mkF m 214 #[.val (.int i0), .val (.int i1), .val (.int i2), .val (.int i3), .val (.int i4), .val (.int i5), .val (.int (3 : Int32)), .val (.int (2 : Int32)), .val (.ref ex), .val (.ref s1), .val (.int i2), .val (.ref r2), .val (.int (1 : Int32))] [(.ref r1)]))
      obtain ⟨T89, X89, e89, st89⟩ := castY X88 hx hZ hown (hw _ (List.mem_of_getElem? (i := 65) rfl)) e88 (Ins.self E_r1) (g := (mkF m 214 #[.val (.int i0), .val (.int i1), .val (.int i2), .val (.int i3), .val (.int i4), .val (.int i5), .val (.int (3 : Int32)), .val (.int (2 : Int32)), .val (.ref ex), .val (.ref s1), .val (.int i2), .val (.ref r2), .val (.int (1 : Int32))] [(.ref r1)])) rfl rfl (hb hby at_214)
      refine own_st st89 ?_
      show Fin1 p e below s (rm0Q Z i0 i1 i2 i3 i4 i5 h0 n0) room_1.cells room_1.slots (T89.setTop (mkF m 217 #[.val (.int i0), .val (.int i1), .val (.int i2), .val (.int i3), .val (.int i4), .val (.int i5), .val (.int (3 : Int32)), .val (.int (2 : Int32)), .val (.ref ex), .val (.ref s1), .val (.int i2), .val (.ref r2), .val (.int (1 : Int32))] [(.ref r1)]))
      refine own_st (fun wt wk => XS.aload X89.here hx rfl (hb hby at_217) rfl rfl (XS.iconst X89.here hx rfl (hb hby at_219) wk)) ?_
      show Fin1 p e below s (rm0Q Z i0 i1 i2 i3 i4 i5 h0 n0) room_1.cells room_1.slots (T89.setTop (mkF m 220 #[.val (.int i0), .val (.int i1), .val (.int i2), .val (.int i3), .val (.int i4), .val (.int i5), .val (.int (3 : Int32)), .val (.int (2 : Int32)), .val (.ref ex), .val (.ref s1), .val (.int i2), .val (.ref r2), .val (.int (1 : Int32))] [(.int (1 : Int32)), (.ref ex), (.ref r1)]))
      refine own_st (own_ld (j := (1 : Int32)) (v := (.int i1)) X89 hx hZ e89 V_ex ⟨by decide, by decide⟩ rfl (g := (mkF m 220 #[.val (.int i0), .val (.int i1), .val (.int i2), .val (.int i3), .val (.int i4), .val (.int i5), .val (.int (3 : Int32)), .val (.int (2 : Int32)), .val (.ref ex), .val (.ref s1), .val (.int i2), .val (.ref r2), .val (.int (1 : Int32))] [(.int (1 : Int32)), (.ref ex), (.ref r1)])) rfl rfl (Or.inl ⟨rfl, rfl⟩) (hb hby at_220)) ?_
      show Fin1 p e below s (rm0Q Z i0 i1 i2 i3 i4 i5 h0 n0) room_1.cells room_1.slots (T89.setTop (mkF m 221 #[.val (.int i0), .val (.int i1), .val (.int i2), .val (.int i3), .val (.int i4), .val (.int i5), .val (.int (3 : Int32)), .val (.int (2 : Int32)), .val (.ref ex), .val (.ref s1), .val (.int i2), .val (.ref r2), .val (.int (1 : Int32))] [(.int i1), (.ref r1)]))
      obtain ⟨v90, T90, h90, L90, X90, e90, hQ90, st90⟩ := own_static X89 hx hZ hown (hw _ (List.mem_of_getElem? (i := 67) rfl)) (hw _ (List.mem_of_getElem? (i := 68) rfl)) (hw _ (List.mem_of_getElem? (i := 69) rfl)) (hw _ (List.mem_of_getElem? (i := 70) rfl)) (by decide) (rmEq l Z a0 hw r1 i1 h81 n0 Z0 E_r1 V_r1) e89 (g := (mkF m 221 #[.val (.int i0), .val (.int i1), .val (.int i2), .val (.int i3), .val (.int i4), .val (.int i5), .val (.int (3 : Int32)), .val (.int (2 : Int32)), .val (.ref ex), .val (.ref s1), .val (.int i2), .val (.ref r2), .val (.int (1 : Int32))] [(.int i1), (.ref r1)])) rfl (by rw [hml]; rfl) (argsL := [(.ref r1), (.int i1)]) (rest := []) (lenOf pd_16 rfl) rfl (W := 0) (by show 2 * 0 + _ ≤ _; exact Nat.le_of_eq rfl) (hb hby at_221) (by decide) (by decide) (by decide) (by decide)
      obtain ⟨rfl, N90q, hh90⟩ := hQ90
      have N90 := Fr.app N88 N90q
      rw [hh90] at e90
      refine own_st st90 ?_
      show Fin1 p e below s (rm0Q Z i0 i1 i2 i3 i4 i5 h0 n0) room_1.cells room_1.slots (T90.setTop (mkF m 224 #[.val (.int i0), .val (.int i1), .val (.int i2), .val (.int i3), .val (.int i4), .val (.int i5), .val (.int (3 : Int32)), .val (.int (2 : Int32)), .val (.ref ex), .val (.ref s1), .val (.int i2), .val (.ref r2), .val (.int (1 : Int32))] [(.int (1 : Int32))]))
      refine own_st (fun wt wk => XS.ifNo X90.here hx rfl (hb hby at_224) rfl ((if0 _ _).trans (feq (by decide)).1) wk) ?_
      show Fin1 p e below s (rm0Q Z i0 i1 i2 i3 i4 i5 h0 n0) room_1.cells room_1.slots (T90.setTop (mkF m 227 #[.val (.int i0), .val (.int i1), .val (.int i2), .val (.int i3), .val (.int i4), .val (.int i5), .val (.int (3 : Int32)), .val (.int (2 : Int32)), .val (.ref ex), .val (.ref s1), .val (.int i2), .val (.ref r2), .val (.int (1 : Int32))] []))
      refine own_st (fun wt wk => XS.iconst X90.here hx rfl (hb hby at_227) (XS.goto X90.here hx rfl (pc0 := 228) (pc' := 232) rfl (hb hby at_228) (by decide) (by decide) (XS.istore X90.here hx rfl (hb hby at_232) rfl (l' := #[.val (.int i0), .val (.int i1), .val (.int i2), .val (.int i3), .val (.int i4), .val (.int i5), .val (.int (3 : Int32)), .val (.int (2 : Int32)), .val (.ref ex), .val (.ref s1), .val (.int i2), .val (.ref r2), .val (.int (1 : Int32))]) rfl (XS.iload X90.here hx rfl (hb hby at_234) rfl (XS.iconst X90.here hx rfl (hb hby at_236) wk))))) ?_
      show Fin1 p e below s (rm0Q Z i0 i1 i2 i3 i4 i5 h0 n0) room_1.cells room_1.slots (T90.setTop (mkF m 237 #[.val (.int i0), .val (.int i1), .val (.int i2), .val (.int i3), .val (.int i4), .val (.int i5), .val (.int (3 : Int32)), .val (.int (2 : Int32)), .val (.ref ex), .val (.ref s1), .val (.int i2), .val (.ref r2), .val (.int (1 : Int32))] [(.int (2 : Int32)), (.int (3 : Int32))]))
      refine own_st (fun wt wk => XS.icmpNo X90.here hx rfl (hb hby at_237) rfl (tlt (by decide)).2.2.2 wk) ?_
      show Fin1 p e below s (rm0Q Z i0 i1 i2 i3 i4 i5 h0 n0) room_1.cells room_1.slots (T90.setTop (mkF m 240 #[.val (.int i0), .val (.int i1), .val (.int i2), .val (.int i3), .val (.int i4), .val (.int i5), .val (.int (3 : Int32)), .val (.int (2 : Int32)), .val (.ref ex), .val (.ref s1), .val (.int i2), .val (.ref r2), .val (.int (1 : Int32))] []))
      refine own_st (fun wt wk => XS.iload X90.here hx rfl (hb hby at_240) rfl wk) ?_
      show Fin1 p e below s (rm0Q Z i0 i1 i2 i3 i4 i5 h0 n0) room_1.cells room_1.slots (T90.setTop (mkF m 242 #[.val (.int i0), .val (.int i1), .val (.int i2), .val (.int i3), .val (.int i4), .val (.int i5), .val (.int (3 : Int32)), .val (.int (2 : Int32)), .val (.ref ex), .val (.ref s1), .val (.int i2), .val (.ref r2), .val (.int (1 : Int32))] [(.int (1 : Int32))]))
      refine own_st (fun wt wk => XS.ifNo X90.here hx rfl (hb hby at_242) rfl ((if0 _ _).trans (feq (by decide)).1) wk) ?_
      show Fin1 p e below s (rm0Q Z i0 i1 i2 i3 i4 i5 h0 n0) room_1.cells room_1.slots (T90.setTop (mkF m 245 #[.val (.int i0), .val (.int i1), .val (.int i2), .val (.int i3), .val (.int i4), .val (.int i5), .val (.int (3 : Int32)), .val (.int (2 : Int32)), .val (.ref ex), .val (.ref s1), .val (.int i2), .val (.ref r2), .val (.int (1 : Int32))] []))
      refine own_st (fun wt wk => XS.aload X90.here hx rfl (hb hby at_245) rfl rfl (XS.iconst X90.here hx rfl (hb hby at_247) wk)) ?_
      show Fin1 p e below s (rm0Q Z i0 i1 i2 i3 i4 i5 h0 n0) room_1.cells room_1.slots (T90.setTop (mkF m 248 #[.val (.int i0), .val (.int i1), .val (.int i2), .val (.int i3), .val (.int i4), .val (.int i5), .val (.int (3 : Int32)), .val (.int (2 : Int32)), .val (.ref ex), .val (.ref s1), .val (.int i2), .val (.ref r2), .val (.int (1 : Int32))] [(.int (2 : Int32)), (.ref s1)]))
      obtain ⟨v91, T91, h91, L91, X91, e91, hQ91, st91⟩ := own_virtual X90 hx hZ hown (hw _ (List.mem_of_getElem? (i := 83) rfl)) (hw _ (List.mem_of_getElem? (i := 84) rfl)) (hw _ (List.mem_of_getElem? (i := 86) rfl)) (hw _ (List.mem_of_getElem? (i := 85) rfl)) (hw _ (List.mem_of_getElem? (i := 87) rfl)) (hw _ (List.mem_of_getElem? (i := 4) rfl)) (by decide) (a := s1) E_s1 (rmG32 l Z a0 hw s1 q2 re h81 n0 Z0 E_s1 Ss1 Ts1 Eq2) e90 (g := (mkF m 248 #[.val (.int i0), .val (.int i1), .val (.int i2), .val (.int i3), .val (.int i4), .val (.int i5), .val (.int (3 : Int32)), .val (.int (2 : Int32)), .val (.ref ex), .val (.ref s1), .val (.int i2), .val (.ref r2), .val (.int (1 : Int32))] [(.int (2 : Int32)), (.ref s1)])) rfl (by rw [hml]; rfl) (argsL := [(.int (2 : Int32))]) (rest := []) (lenOf pd_17 rfl) rfl (W := 0) (by show 2 * 0 + _ ≤ _; exact Nat.le_of_eq rfl) (hb hby at_248) (by decide) (by decide) (by decide) (by decide)
      obtain ⟨rfl, N91q, hh91⟩ := hQ91
      have N91 := Fr.app N90 N91q
      rw [hh91] at e91
      refine own_st st91 ?_
      show Fin1 p e below s (rm0Q Z i0 i1 i2 i3 i4 i5 h0 n0) room_1.cells room_1.slots (T91.setTop (mkF m 251 #[.val (.int i0), .val (.int i1), .val (.int i2), .val (.int i3), .val (.int i4), .val (.int i5), .val (.int (3 : Int32)), .val (.int (2 : Int32)), .val (.ref ex), .val (.ref s1), .val (.int i2), .val (.ref r2), .val (.int (1 : Int32))] [(.ref re)]))
      obtain ⟨T92, X92, e92, st92⟩ := castY X91 hx hZ hown (hw _ (List.mem_of_getElem? (i := 65) rfl)) e91 (Ins.self E_re) (g := (mkF m 251 #[.val (.int i0), .val (.int i1), .val (.int i2), .val (.int i3), .val (.int i4), .val (.int i5), .val (.int (3 : Int32)), .val (.int (2 : Int32)), .val (.ref ex), .val (.ref s1), .val (.int i2), .val (.ref r2), .val (.int (1 : Int32))] [(.ref re)])) rfl rfl (hb hby at_251)
      refine own_st st92 ?_
      show Fin1 p e below s (rm0Q Z i0 i1 i2 i3 i4 i5 h0 n0) room_1.cells room_1.slots (T92.setTop (mkF m 254 #[.val (.int i0), .val (.int i1), .val (.int i2), .val (.int i3), .val (.int i4), .val (.int i5), .val (.int (3 : Int32)), .val (.int (2 : Int32)), .val (.ref ex), .val (.ref s1), .val (.int i2), .val (.ref r2), .val (.int (1 : Int32))] [(.ref re)]))
      refine own_st (fun wt wk => XS.aload X92.here hx rfl (hb hby at_254) rfl rfl (XS.iconst X92.here hx rfl (hb hby at_256) wk)) ?_
      show Fin1 p e below s (rm0Q Z i0 i1 i2 i3 i4 i5 h0 n0) room_1.cells room_1.slots (T92.setTop (mkF m 257 #[.val (.int i0), .val (.int i1), .val (.int i2), .val (.int i3), .val (.int i4), .val (.int i5), .val (.int (3 : Int32)), .val (.int (2 : Int32)), .val (.ref ex), .val (.ref s1), .val (.int i2), .val (.ref r2), .val (.int (1 : Int32))] [(.int (2 : Int32)), (.ref ex), (.ref re)]))
      refine own_st (own_ld (j := (2 : Int32)) (v := (.int i4)) X92 hx hZ e92 V_ex ⟨by decide, by decide⟩ rfl (g := (mkF m 257 #[.val (.int i0), .val (.int i1), .val (.int i2), .val (.int i3), .val (.int i4), .val (.int i5), .val (.int (3 : Int32)), .val (.int (2 : Int32)), .val (.ref ex), .val (.ref s1), .val (.int i2), .val (.ref r2), .val (.int (1 : Int32))] [(.int (2 : Int32)), (.ref ex), (.ref re)])) rfl rfl (Or.inl ⟨rfl, rfl⟩) (hb hby at_257)) ?_
      show Fin1 p e below s (rm0Q Z i0 i1 i2 i3 i4 i5 h0 n0) room_1.cells room_1.slots (T92.setTop (mkF m 258 #[.val (.int i0), .val (.int i1), .val (.int i2), .val (.int i3), .val (.int i4), .val (.int i5), .val (.int (3 : Int32)), .val (.int (2 : Int32)), .val (.ref ex), .val (.ref s1), .val (.int i2), .val (.ref r2), .val (.int (1 : Int32))] [(.int i4), (.ref re)]))
      obtain ⟨v93, T93, h93, L93, X93, e93, hQ93, st93⟩ := own_static X92 hx hZ hown (hw _ (List.mem_of_getElem? (i := 67) rfl)) (hw _ (List.mem_of_getElem? (i := 68) rfl)) (hw _ (List.mem_of_getElem? (i := 69) rfl)) (hw _ (List.mem_of_getElem? (i := 70) rfl)) (by decide) (rmEq l Z a0 hw re i4 h81 n0 Z0 E_re V_re) e92 (g := (mkF m 258 #[.val (.int i0), .val (.int i1), .val (.int i2), .val (.int i3), .val (.int i4), .val (.int i5), .val (.int (3 : Int32)), .val (.int (2 : Int32)), .val (.ref ex), .val (.ref s1), .val (.int i2), .val (.ref r2), .val (.int (1 : Int32))] [(.int i4), (.ref re)])) rfl (by rw [hml]; rfl) (argsL := [(.ref re), (.int i4)]) (rest := []) (lenOf pd_16 rfl) rfl (W := 0) (by show 2 * 0 + _ ≤ _; exact Nat.le_of_eq rfl) (hb hby at_258) (by decide) (by decide) (by decide) (by decide)
      obtain ⟨rfl, N93q, hh93⟩ := hQ93
      have N93 := Fr.app N91 N93q
      rw [hh93] at e93
      refine own_st st93 ?_
      show Fin1 p e below s (rm0Q Z i0 i1 i2 i3 i4 i5 h0 n0) room_1.cells room_1.slots (T93.setTop (mkF m 261 #[.val (.int i0), .val (.int i1), .val (.int i2), .val (.int i3), .val (.int i4), .val (.int i5), .val (.int (3 : Int32)), .val (.int (2 : Int32)), .val (.ref ex), .val (.ref s1), .val (.int i2), .val (.ref r2), .val (.int (1 : Int32))] [(.int (1 : Int32))]))
      refine own_st (fun wt wk => XS.ifNo X93.here hx rfl (hb hby at_261) rfl ((if0 _ _).trans (feq (by decide)).1) wk) ?_
      show Fin1 p e below s (rm0Q Z i0 i1 i2 i3 i4 i5 h0 n0) room_1.cells room_1.slots (T93.setTop (mkF m 264 #[.val (.int i0), .val (.int i1), .val (.int i2), .val (.int i3), .val (.int i4), .val (.int i5), .val (.int (3 : Int32)), .val (.int (2 : Int32)), .val (.ref ex), .val (.ref s1), .val (.int i2), .val (.ref r2), .val (.int (1 : Int32))] []))
      refine own_st (fun wt wk => XS.iconst X93.here hx rfl (hb hby at_264) (XS.goto X93.here hx rfl (pc0 := 265) (pc' := 269) rfl (hb hby at_265) (by decide) (by decide) (XS.istore X93.here hx rfl (hb hby at_269) rfl (l' := #[.val (.int i0), .val (.int i1), .val (.int i2), .val (.int i3), .val (.int i4), .val (.int i5), .val (.int (3 : Int32)), .val (.int (2 : Int32)), .val (.ref ex), .val (.ref s1), .val (.int i2), .val (.ref r2), .val (.int (1 : Int32))]) rfl (XS.iload X93.here hx rfl (hb hby at_271) rfl (XS.iconst X93.here hx rfl (hb hby at_273) wk))))) ?_
      show Fin1 p e below s (rm0Q Z i0 i1 i2 i3 i4 i5 h0 n0) room_1.cells room_1.slots (T93.setTop (mkF m 274 #[.val (.int i0), .val (.int i1), .val (.int i2), .val (.int i3), .val (.int i4), .val (.int i5), .val (.int (3 : Int32)), .val (.int (2 : Int32)), .val (.ref ex), .val (.ref s1), .val (.int i2), .val (.ref r2), .val (.int (1 : Int32))] [(.int (3 : Int32)), (.int (3 : Int32))]))
      refine own_st (fun wt wk => XS.icmpYes X93.here hx rfl (pc0 := 274) (pc' := 308) rfl (hb hby at_274) rfl (flt (by decide)).2.2.2 (by decide) (by decide) wk) ?_
      show Fin1 p e below s (rm0Q Z i0 i1 i2 i3 i4 i5 h0 n0) room_1.cells room_1.slots (T93.setTop (mkF m 308 #[.val (.int i0), .val (.int i1), .val (.int i2), .val (.int i3), .val (.int i4), .val (.int i5), .val (.int (3 : Int32)), .val (.int (2 : Int32)), .val (.ref ex), .val (.ref s1), .val (.int i2), .val (.ref r2), .val (.int (1 : Int32))] []))
      refine own_st (fun wt wk => XS.iload X93.here hx rfl (hb hby at_308) rfl wk) ?_
      show Fin1 p e below s (rm0Q Z i0 i1 i2 i3 i4 i5 h0 n0) room_1.cells room_1.slots (T93.setTop (mkF m 310 #[.val (.int i0), .val (.int i1), .val (.int i2), .val (.int i3), .val (.int i4), .val (.int i5), .val (.int (3 : Int32)), .val (.int (2 : Int32)), .val (.ref ex), .val (.ref s1), .val (.int i2), .val (.ref r2), .val (.int (1 : Int32))] [(.int (1 : Int32))]))
      exact own_retZ X93 hx hlk hret (hb hby at_310) (z := (1 : Int32)) (by decide) (by rw [e93]; exact ⟨rfl, N93⟩) (by decide) (by decide)
  · show Fin1 p e below s (rm0Q Z i0 i1 i2 i3 i4 i5 h0 n0) room_1.cells room_1.slots (T9.setTop (mkF m 63 #[.val (.int i0), .val (.int i1), .val (.int i2), .val (.int i3), .val (.int i4), .val (.int i5), .val (.int (4 : Int32)), .val (.int k7), .val (.ref ex), .val (.ref s1), .unset, .unset, .unset] [(.int (1 : Int32)), (.int (4 : Int32))]))
    refine own_st (fun wt wk => XS.icmpNo X9.here hx rfl (hb hby at_63) rfl (tlt (by decide)).2.2.2 wk) ?_
    show Fin1 p e below s (rm0Q Z i0 i1 i2 i3 i4 i5 h0 n0) room_1.cells room_1.slots (T9.setTop (mkF m 66 #[.val (.int i0), .val (.int i1), .val (.int i2), .val (.int i3), .val (.int i4), .val (.int i5), .val (.int (4 : Int32)), .val (.int k7), .val (.ref ex), .val (.ref s1), .unset, .unset, .unset] []))
    refine own_st (fun wt wk => XS.aload X9.here hx rfl (hb hby at_66) rfl rfl (XS.iconst X9.here hx rfl (hb hby at_68) (XS.iloadN X9.here hx rfl (hb hby at_69) rfl wk))) ?_
    show Fin1 p e below s (rm0Q Z i0 i1 i2 i3 i4 i5 h0 n0) room_1.cells room_1.slots (T9.setTop (mkF m 70 #[.val (.int i0), .val (.int i1), .val (.int i2), .val (.int i3), .val (.int i4), .val (.int i5), .val (.int (4 : Int32)), .val (.int k7), .val (.ref ex), .val (.ref s1), .unset, .unset, .unset] [(.int i1), (.int (1 : Int32)), (.ref s1)]))
    obtain ⟨v94, T94, h94, L94, X94, e94, hQ94, st94⟩ := own_static X9 hx hZ hown (hw _ (List.mem_of_getElem? (i := 16) rfl)) (hw _ (List.mem_of_getElem? (i := 17) rfl)) (hw _ (List.mem_of_getElem? (i := 18) rfl)) (hw _ (List.mem_of_getElem? (i := 19) rfl)) (by decide) (rmV l Z a0 hw i1 h9 n0 Z0 O hic) e9 (g := (mkF m 70 #[.val (.int i0), .val (.int i1), .val (.int i2), .val (.int i3), .val (.int i4), .val (.int i5), .val (.int (4 : Int32)), .val (.int k7), .val (.ref ex), .val (.ref s1), .unset, .unset, .unset] [(.int i1), (.int (1 : Int32)), (.ref s1)])) rfl (by rw [hml]; rfl) (argsL := [(.int i1)]) (rest := [(.int (1 : Int32)), (.ref s1)]) (lenOf pd_13 rfl) rfl (W := 2) (by show 2 * 0 + _ ≤ _; exact Nat.le_of_eq rfl) (hb hby at_70) (by decide) (by decide) (by decide) (by decide)
    obtain ⟨r1, rfl, N94q, K94, E_r1, V_r1⟩ := hQ94
    have N94 := Fr.app N9 N94q
    have Z0 := Nat.le_trans Z0 K94.1
    have O := O.keep K94 all0
    have V_ex := V_ex.keep K94 nin0
    have E_s1 := E_s1.keep K94
    have E_r0 := E_r0.keep K94
    have V_r0 := V_r0.keep K94 nin0
    have E_q0 := E_q0.keep K94
    have Hs1 := Hs1.keep K94 nin0
    have Ts1 := Ts1.keep K94 nin0
    have Ss1 := Ss1.keep K94 nin0
    have Eq0 := Eq0.keep K94 nin0
    have Pq0 := Pq0.keep K94 nin0
    have Nq0 := Nq0.keep K94 nin0
    refine own_st st94 ?_
    show Fin1 p e below s (rm0Q Z i0 i1 i2 i3 i4 i5 h0 n0) room_1.cells room_1.slots (T94.setTop (mkF m 73 #[.val (.int i0), .val (.int i1), .val (.int i2), .val (.int i3), .val (.int i4), .val (.int i5), .val (.int (4 : Int32)), .val (.int k7), .val (.ref ex), .val (.ref s1), .unset, .unset, .unset] [(.ref r1), (.int (1 : Int32)), (.ref s1)]))
    have ne_r1_ex : r1 ≠ ex := own_ne_arv E_r1 (hw _ (List.mem_of_getElem? (i := 89) rfl)) V_ex
    have ne_r1_s1 : r1 ≠ s1 := ne_exa E_r1 E_s1 (by decide)
    have ne_r1_q0 : r1 ≠ q0 := ne_exa E_r1 E_q0 (by decide)
    obtain ⟨v95, T95, h95, L95, X95, e95, hQ95, st95⟩ := own_virtual X94 hx hZ hown (hw _ (List.mem_of_getElem? (i := 23) rfl)) (hw _ (List.mem_of_getElem? (i := 24) rfl)) (hw _ (List.mem_of_getElem? (i := 26) rfl)) (hw _ (List.mem_of_getElem? (i := 25) rfl)) (hw _ (List.mem_of_getElem? (i := 27) rfl)) (hw _ (List.mem_of_getElem? (i := 4) rfl)) (by decide) (a := s1) E_s1 (rmI1 l Z a0 hw s1 r1 q0 q0 r0 .null h94 n0 Z0 g_s1 g_q0 E_s1 E_q0 Hs1 Ts1 Ss1 Eq0 Pq0 Nq0 ne_s1_q0) e94 (g := (mkF m 73 #[.val (.int i0), .val (.int i1), .val (.int i2), .val (.int i3), .val (.int i4), .val (.int i5), .val (.int (4 : Int32)), .val (.int k7), .val (.ref ex), .val (.ref s1), .unset, .unset, .unset] [(.ref r1), (.int (1 : Int32)), (.ref s1)])) rfl (by rw [hml]; rfl) (argsL := [(.int (1 : Int32)), (.ref r1)]) (rest := []) (lenOf pd_14 rfl) rfl (W := 0) (by show 2 * 0 + _ ≤ _; exact Nat.le_of_eq rfl) (hb hby at_73) (by decide) (by decide) (by decide) (by decide)
    obtain ⟨rfl, N95q, q1, s_q1, K95, E_q1, Hs1, Ts1, Ss1, Eq0, Pq0, Nq0, Eq1, Pq1, Nq1⟩ := hQ95
    have N95 := Fr.app N94 N95q
    have ne_ex_q1 : ex ≠ q1 := Nat.ne_of_lt (Nat.lt_of_lt_of_le V_ex.lt s_q1)
    have ne_s1_q1 : s1 ≠ q1 := Nat.ne_of_lt (Nat.lt_of_lt_of_le E_s1.lt s_q1)
    have ne_r0_q1 : r0 ≠ q1 := Nat.ne_of_lt (Nat.lt_of_lt_of_le E_r0.lt s_q1)
    have ne_q0_q1 : q0 ≠ q1 := Nat.ne_of_lt (Nat.lt_of_lt_of_le E_q0.lt s_q1)
    have ne_r1_q1 : r1 ≠ q1 := Nat.ne_of_lt (Nat.lt_of_lt_of_le E_r1.lt s_q1)
    have g_q1 : n0 ≤ q1 := Nat.le_trans Z0 s_q1
    have Z0 := Nat.le_trans Z0 K95.1
    have O := O.keep K95 (allS (P := fun x => n0 ≤ x) g_s1 (allS (P := fun x => n0 ≤ x) g_q0 all0))
    have V_ex := V_ex.keep K95 (ninS ne_ex_s1 (ninS ne_ex_q0 nin0))
    have E_s1 := E_s1.keep K95
    have E_r0 := E_r0.keep K95
    have V_r0 := V_r0.keep K95 (ninS ne_r0_s1 (ninS ne_r0_q0 nin0))
    have E_q0 := E_q0.keep K95
    have E_r1 := E_r1.keep K95
    have V_r1 := V_r1.keep K95 (ninS ne_r1_s1 (ninS ne_r1_q0 nin0))
    refine own_st st95 ?_
    show Fin1 p e below s (rm0Q Z i0 i1 i2 i3 i4 i5 h0 n0) room_1.cells room_1.slots (T95.setTop (mkF m 76 #[.val (.int i0), .val (.int i1), .val (.int i2), .val (.int i3), .val (.int i4), .val (.int i5), .val (.int (4 : Int32)), .val (.int k7), .val (.ref ex), .val (.ref s1), .unset, .unset, .unset] []))
    refine own_st (fun wt wk => XS.iload X95.here hx rfl (hb hby at_76) rfl (XS.iconst X95.here hx rfl (hb hby at_78) wk)) ?_
    show Fin1 p e below s (rm0Q Z i0 i1 i2 i3 i4 i5 h0 n0) room_1.cells room_1.slots (T95.setTop (mkF m 79 #[.val (.int i0), .val (.int i1), .val (.int i2), .val (.int i3), .val (.int i4), .val (.int i5), .val (.int (4 : Int32)), .val (.int k7), .val (.ref ex), .val (.ref s1), .unset, .unset, .unset] [(.int (2 : Int32)), (.int (4 : Int32))]))
    refine own_st (fun wt wk => XS.icmpNo X95.here hx rfl (hb hby at_79) rfl (tlt (by decide)).2.2.2 wk) ?_
    show Fin1 p e below s (rm0Q Z i0 i1 i2 i3 i4 i5 h0 n0) room_1.cells room_1.slots (T95.setTop (mkF m 82 #[.val (.int i0), .val (.int i1), .val (.int i2), .val (.int i3), .val (.int i4), .val (.int i5), .val (.int (4 : Int32)), .val (.int k7), .val (.ref ex), .val (.ref s1), .unset, .unset, .unset] []))
    refine own_st (fun wt wk => XS.aload X95.here hx rfl (hb hby at_82) rfl rfl (XS.iconst X95.here hx rfl (hb hby at_84) (XS.iloadN X95.here hx rfl (hb hby at_85) rfl wk))) ?_
    show Fin1 p e below s (rm0Q Z i0 i1 i2 i3 i4 i5 h0 n0) room_1.cells room_1.slots (T95.setTop (mkF m 86 #[.val (.int i0), .val (.int i1), .val (.int i2), .val (.int i3), .val (.int i4), .val (.int i5), .val (.int (4 : Int32)), .val (.int k7), .val (.ref ex), .val (.ref s1), .unset, .unset, .unset] [(.int i2), (.int (2 : Int32)), (.ref s1)]))
    obtain ⟨v96, T96, h96, L96, X96, e96, hQ96, st96⟩ := own_static X95 hx hZ hown (hw _ (List.mem_of_getElem? (i := 16) rfl)) (hw _ (List.mem_of_getElem? (i := 17) rfl)) (hw _ (List.mem_of_getElem? (i := 18) rfl)) (hw _ (List.mem_of_getElem? (i := 19) rfl)) (by decide) (rmV l Z a0 hw i2 h95 n0 Z0 O hic) e95 (g := (mkF m 86 #[.val (.int i0), .val (.int i1), .val (.int i2), .val (.int i3), .val (.int i4), .val (.int i5), .val (.int (4 : Int32)), .val (.int k7), .val (.ref ex), .val (.ref s1), .unset, .unset, .unset] [(.int i2), (.int (2 : Int32)), (.ref s1)])) rfl (by rw [hml]; rfl) (argsL := [(.int i2)]) (rest := [(.int (2 : Int32)), (.ref s1)]) (lenOf pd_13 rfl) rfl (W := 2) (by show 2 * 0 + _ ≤ _; exact Nat.le_of_eq rfl) (hb hby at_86) (by decide) (by decide) (by decide) (by decide)
    obtain ⟨r2, rfl, N96q, K96, E_r2, V_r2⟩ := hQ96
    have N96 := Fr.app N95 N96q
    have Z0 := Nat.le_trans Z0 K96.1
    have O := O.keep K96 all0
    have V_ex := V_ex.keep K96 nin0
    have E_s1 := E_s1.keep K96
    have E_r0 := E_r0.keep K96
    have V_r0 := V_r0.keep K96 nin0
    have E_q0 := E_q0.keep K96
    have E_r1 := E_r1.keep K96
    have V_r1 := V_r1.keep K96 nin0
    have E_q1 := E_q1.keep K96
    have Hs1 := Hs1.keep K96 nin0
    have Ts1 := Ts1.keep K96 nin0
    have Ss1 := Ss1.keep K96 nin0
    have Eq0 := Eq0.keep K96 nin0
    have Pq0 := Pq0.keep K96 nin0
    have Nq0 := Nq0.keep K96 nin0
    have Eq1 := Eq1.keep K96 nin0
    have Pq1 := Pq1.keep K96 nin0
    have Nq1 := Nq1.keep K96 nin0
    refine own_st st96 ?_
    show Fin1 p e below s (rm0Q Z i0 i1 i2 i3 i4 i5 h0 n0) room_1.cells room_1.slots (T96.setTop (mkF m 89 #[.val (.int i0), .val (.int i1), .val (.int i2), .val (.int i3), .val (.int i4), .val (.int i5), .val (.int (4 : Int32)), .val (.int k7), .val (.ref ex), .val (.ref s1), .unset, .unset, .unset] [(.ref r2), (.int (2 : Int32)), (.ref s1)]))
    have ne_r2_ex : r2 ≠ ex := own_ne_arv E_r2 (hw _ (List.mem_of_getElem? (i := 89) rfl)) V_ex
    have ne_r2_s1 : r2 ≠ s1 := ne_exa E_r2 E_s1 (by decide)
    have ne_r2_q0 : r2 ≠ q0 := ne_exa E_r2 E_q0 (by decide)
    have ne_r2_q1 : r2 ≠ q1 := ne_exa E_r2 E_q1 (by decide)
    obtain ⟨v97, T97, h97, L97, X97, e97, hQ97, st97⟩ := own_virtual X96 hx hZ hown (hw _ (List.mem_of_getElem? (i := 23) rfl)) (hw _ (List.mem_of_getElem? (i := 24) rfl)) (hw _ (List.mem_of_getElem? (i := 26) rfl)) (hw _ (List.mem_of_getElem? (i := 25) rfl)) (hw _ (List.mem_of_getElem? (i := 27) rfl)) (hw _ (List.mem_of_getElem? (i := 4) rfl)) (by decide) (a := s1) E_s1 (rmI2 l Z a0 hw s1 r2 q1 q0 r1 (.ref q0) h96 n0 Z0 g_s1 g_q1 E_s1 E_q1 Hs1 Ts1 Ss1 Eq1 Pq1 Nq1 ne_s1_q1) e96 (g := (mkF m 89 #[.val (.int i0), .val (.int i1), .val (.int i2), .val (.int i3), .val (.int i4), .val (.int i5), .val (.int (4 : Int32)), .val (.int k7), .val (.ref ex), .val (.ref s1), .unset, .unset, .unset] [(.ref r2), (.int (2 : Int32)), (.ref s1)])) rfl (by rw [hml]; rfl) (argsL := [(.int (2 : Int32)), (.ref r2)]) (rest := []) (lenOf pd_14 rfl) rfl (W := 0) (by show 2 * 0 + _ ≤ _; exact Nat.le_of_eq rfl) (hb hby at_89) (by decide) (by decide) (by decide) (by decide)
    obtain ⟨rfl, N97q, q2, s_q2, K97, E_q2, Hs1, Ts1, Ss1, Eq1, Pq1, Nq1, Eq2, Pq2, Nq2⟩ := hQ97
    have N97 := Fr.app N96 N97q
    have ne_ex_q2 : ex ≠ q2 := Nat.ne_of_lt (Nat.lt_of_lt_of_le V_ex.lt s_q2)
    have ne_s1_q2 : s1 ≠ q2 := Nat.ne_of_lt (Nat.lt_of_lt_of_le E_s1.lt s_q2)
    have ne_r0_q2 : r0 ≠ q2 := Nat.ne_of_lt (Nat.lt_of_lt_of_le E_r0.lt s_q2)
    have ne_q0_q2 : q0 ≠ q2 := Nat.ne_of_lt (Nat.lt_of_lt_of_le E_q0.lt s_q2)
    have ne_r1_q2 : r1 ≠ q2 := Nat.ne_of_lt (Nat.lt_of_lt_of_le E_r1.lt s_q2)
    have ne_q1_q2 : q1 ≠ q2 := Nat.ne_of_lt (Nat.lt_of_lt_of_le E_q1.lt s_q2)
    have ne_r2_q2 : r2 ≠ q2 := Nat.ne_of_lt (Nat.lt_of_lt_of_le E_r2.lt s_q2)
    have g_q2 : n0 ≤ q2 := Nat.le_trans Z0 s_q2
    have Z0 := Nat.le_trans Z0 K97.1
    have O := O.keep K97 (allS (P := fun x => n0 ≤ x) g_s1 (allS (P := fun x => n0 ≤ x) g_q1 all0))
    have V_ex := V_ex.keep K97 (ninS ne_ex_s1 (ninS ne_ex_q1 nin0))
    have E_s1 := E_s1.keep K97
    have E_r0 := E_r0.keep K97
    have V_r0 := V_r0.keep K97 (ninS ne_r0_s1 (ninS ne_r0_q1 nin0))
    have E_q0 := E_q0.keep K97
    have E_r1 := E_r1.keep K97
    have V_r1 := V_r1.keep K97 (ninS ne_r1_s1 (ninS ne_r1_q1 nin0))
    have E_q1 := E_q1.keep K97
    have Eq0 := Eq0.keep K97 (ninS (Ne.symm ne_s1_q0) (ninS ne_q0_q1 nin0))
    have Pq0 := Pq0.keep K97 (ninS (Ne.symm ne_s1_q0) (ninS ne_q0_q1 nin0))
    have Nq0 := Nq0.keep K97 (ninS (Ne.symm ne_s1_q0) (ninS ne_q0_q1 nin0))
    have E_r2 := E_r2.keep K97
    have V_r2 := V_r2.keep K97 (ninS ne_r2_s1 (ninS ne_r2_q1 nin0))
    refine own_st st97 ?_
    show Fin1 p e below s (rm0Q Z i0 i1 i2 i3 i4 i5 h0 n0) room_1.cells room_1.slots (T97.setTop (mkF m 92 #[.val (.int i0), .val (.int i1), .val (.int i2), .val (.int i3), .val (.int i4), .val (.int i5), .val (.int (4 : Int32)), .val (.int k7), .val (.ref ex), .val (.ref s1), .unset, .unset, .unset] []))
    refine own_st (fun wt wk => XS.iload X97.here hx rfl (hb hby at_92) rfl (XS.iconst X97.here hx rfl (hb hby at_94) wk)) ?_
    show Fin1 p e below s (rm0Q Z i0 i1 i2 i3 i4 i5 h0 n0) room_1.cells room_1.slots (T97.setTop (mkF m 95 #[.val (.int i0), .val (.int i1), .val (.int i2), .val (.int i3), .val (.int i4), .val (.int i5), .val (.int (4 : Int32)), .val (.int k7), .val (.ref ex), .val (.ref s1), .unset, .unset, .unset] [(.int (3 : Int32)), (.int (4 : Int32))]))
    refine own_st (fun wt wk => XS.icmpNo X97.here hx rfl (hb hby at_95) rfl (tlt (by decide)).2.2.2 wk) ?_
    show Fin1 p e below s (rm0Q Z i0 i1 i2 i3 i4 i5 h0 n0) room_1.cells room_1.slots (T97.setTop (mkF m 98 #[.val (.int i0), .val (.int i1), .val (.int i2), .val (.int i3), .val (.int i4), .val (.int i5), .val (.int (4 : Int32)), .val (.int k7), .val (.ref ex), .val (.ref s1), .unset, .unset, .unset] []))
    refine own_st (fun wt wk => XS.aload X97.here hx rfl (hb hby at_98) rfl rfl (XS.iconst X97.here hx rfl (hb hby at_100) (XS.iloadN X97.here hx rfl (hb hby at_101) rfl wk))) ?_
    show Fin1 p e below s (rm0Q Z i0 i1 i2 i3 i4 i5 h0 n0) room_1.cells room_1.slots (T97.setTop (mkF m 102 #[.val (.int i0), .val (.int i1), .val (.int i2), .val (.int i3), .val (.int i4), .val (.int i5), .val (.int (4 : Int32)), .val (.int k7), .val (.ref ex), .val (.ref s1), .unset, .unset, .unset] [(.int i3), (.int (3 : Int32)), (.ref s1)]))
    obtain ⟨v98, T98, h98, L98, X98, e98, hQ98, st98⟩ := own_static X97 hx hZ hown (hw _ (List.mem_of_getElem? (i := 16) rfl)) (hw _ (List.mem_of_getElem? (i := 17) rfl)) (hw _ (List.mem_of_getElem? (i := 18) rfl)) (hw _ (List.mem_of_getElem? (i := 19) rfl)) (by decide) (rmV l Z a0 hw i3 h97 n0 Z0 O hic) e97 (g := (mkF m 102 #[.val (.int i0), .val (.int i1), .val (.int i2), .val (.int i3), .val (.int i4), .val (.int i5), .val (.int (4 : Int32)), .val (.int k7), .val (.ref ex), .val (.ref s1), .unset, .unset, .unset] [(.int i3), (.int (3 : Int32)), (.ref s1)])) rfl (by rw [hml]; rfl) (argsL := [(.int i3)]) (rest := [(.int (3 : Int32)), (.ref s1)]) (lenOf pd_13 rfl) rfl (W := 2) (by show 2 * 0 + _ ≤ _; exact Nat.le_of_eq rfl) (hb hby at_102) (by decide) (by decide) (by decide) (by decide)
    obtain ⟨r3, rfl, N98q, K98, E_r3, V_r3⟩ := hQ98
    have N98 := Fr.app N97 N98q
    have Z0 := Nat.le_trans Z0 K98.1
    have O := O.keep K98 all0
    have V_ex := V_ex.keep K98 nin0
    have E_s1 := E_s1.keep K98
    have E_r0 := E_r0.keep K98
    have V_r0 := V_r0.keep K98 nin0
    have E_q0 := E_q0.keep K98
    have E_r1 := E_r1.keep K98
    have V_r1 := V_r1.keep K98 nin0
    have E_q1 := E_q1.keep K98
    have Eq0 := Eq0.keep K98 nin0
    have Pq0 := Pq0.keep K98 nin0
    have Nq0 := Nq0.keep K98 nin0
    have E_r2 := E_r2.keep K98
    have V_r2 := V_r2.keep K98 nin0
    have E_q2 := E_q2.keep K98
    have Hs1 := Hs1.keep K98 nin0
    have Ts1 := Ts1.keep K98 nin0
    have Ss1 := Ss1.keep K98 nin0
    have Eq1 := Eq1.keep K98 nin0
    have Pq1 := Pq1.keep K98 nin0
    have Nq1 := Nq1.keep K98 nin0
    have Eq2 := Eq2.keep K98 nin0
    have Pq2 := Pq2.keep K98 nin0
    have Nq2 := Nq2.keep K98 nin0
    refine own_st st98 ?_
    show Fin1 p e below s (rm0Q Z i0 i1 i2 i3 i4 i5 h0 n0) room_1.cells room_1.slots (T98.setTop (mkF m 105 #[.val (.int i0), .val (.int i1), .val (.int i2), .val (.int i3), .val (.int i4), .val (.int i5), .val (.int (4 : Int32)), .val (.int k7), .val (.ref ex), .val (.ref s1), .unset, .unset, .unset] [(.ref r3), (.int (3 : Int32)), (.ref s1)]))
    have ne_r3_ex : r3 ≠ ex := own_ne_arv E_r3 (hw _ (List.mem_of_getElem? (i := 89) rfl)) V_ex
    have ne_r3_s1 : r3 ≠ s1 := ne_exa E_r3 E_s1 (by decide)
    have ne_r3_q0 : r3 ≠ q0 := ne_exa E_r3 E_q0 (by decide)
    have ne_r3_q1 : r3 ≠ q1 := ne_exa E_r3 E_q1 (by decide)
    have ne_r3_q2 : r3 ≠ q2 := ne_exa E_r3 E_q2 (by decide)
    obtain ⟨v99, T99, h99, L99, X99, e99, hQ99, st99⟩ := own_virtual X98 hx hZ hown (hw _ (List.mem_of_getElem? (i := 23) rfl)) (hw _ (List.mem_of_getElem? (i := 24) rfl)) (hw _ (List.mem_of_getElem? (i := 26) rfl)) (hw _ (List.mem_of_getElem? (i := 25) rfl)) (hw _ (List.mem_of_getElem? (i := 27) rfl)) (hw _ (List.mem_of_getElem? (i := 4) rfl)) (by decide) (a := s1) E_s1 (rmI3 l Z a0 hw s1 r3 q2 q0 r2 (.ref q1) h98 n0 Z0 g_s1 g_q2 E_s1 E_q2 Hs1 Ts1 Ss1 Eq2 Pq2 Nq2 ne_s1_q2) e98 (g := (mkF m 105 #[.val (.int i0), .val (.int i1), .val (.int i2), .val (.int i3), .val (.int i4), .val (.int i5), .val (.int (4 : Int32)), .val (.int k7), .val (.ref ex), .val (.ref s1), .unset, .unset, .unset] [(.ref r3), (.int (3 : Int32)), (.ref s1)])) rfl (by rw [hml]; rfl) (argsL := [(.int (3 : Int32)), (.ref r3)]) (rest := []) (lenOf pd_14 rfl) rfl (W := 0) (by show 2 * 0 + _ ≤ _; exact Nat.le_of_eq rfl) (hb hby at_105) (by decide) (by decide) (by decide) (by decide)
    obtain ⟨rfl, N99q, q3, s_q3, K99, E_q3, Hs1, Ts1, Ss1, Eq2, Pq2, Nq2, Eq3, Pq3, Nq3⟩ := hQ99
    have N99 := Fr.app N98 N99q
    have ne_ex_q3 : ex ≠ q3 := Nat.ne_of_lt (Nat.lt_of_lt_of_le V_ex.lt s_q3)
    have ne_s1_q3 : s1 ≠ q3 := Nat.ne_of_lt (Nat.lt_of_lt_of_le E_s1.lt s_q3)
    have ne_r0_q3 : r0 ≠ q3 := Nat.ne_of_lt (Nat.lt_of_lt_of_le E_r0.lt s_q3)
    have ne_q0_q3 : q0 ≠ q3 := Nat.ne_of_lt (Nat.lt_of_lt_of_le E_q0.lt s_q3)
    have ne_r1_q3 : r1 ≠ q3 := Nat.ne_of_lt (Nat.lt_of_lt_of_le E_r1.lt s_q3)
    have ne_q1_q3 : q1 ≠ q3 := Nat.ne_of_lt (Nat.lt_of_lt_of_le E_q1.lt s_q3)
    have ne_r2_q3 : r2 ≠ q3 := Nat.ne_of_lt (Nat.lt_of_lt_of_le E_r2.lt s_q3)
    have ne_q2_q3 : q2 ≠ q3 := Nat.ne_of_lt (Nat.lt_of_lt_of_le E_q2.lt s_q3)
    have ne_r3_q3 : r3 ≠ q3 := Nat.ne_of_lt (Nat.lt_of_lt_of_le E_r3.lt s_q3)
    have g_q3 : n0 ≤ q3 := Nat.le_trans Z0 s_q3
    have Z0 := Nat.le_trans Z0 K99.1
    have O := O.keep K99 (allS (P := fun x => n0 ≤ x) g_s1 (allS (P := fun x => n0 ≤ x) g_q2 all0))
    have V_ex := V_ex.keep K99 (ninS ne_ex_s1 (ninS ne_ex_q2 nin0))
    have E_s1 := E_s1.keep K99
    have E_r0 := E_r0.keep K99
    have V_r0 := V_r0.keep K99 (ninS ne_r0_s1 (ninS ne_r0_q2 nin0))
    have E_q0 := E_q0.keep K99
    have E_r1 := E_r1.keep K99
    have V_r1 := V_r1.keep K99 (ninS ne_r1_s1 (ninS ne_r1_q2 nin0))
    have E_q1 := E_q1.keep K99
    have Eq0 := Eq0.keep K99 (ninS (Ne.symm ne_s1_q0) (ninS ne_q0_q2 nin0))
    have Pq0 := Pq0.keep K99 (ninS (Ne.symm ne_s1_q0) (ninS ne_q0_q2 nin0))
    have Nq0 := Nq0.keep K99 (ninS (Ne.symm ne_s1_q0) (ninS ne_q0_q2 nin0))
    have E_r2 := E_r2.keep K99
    have V_r2 := V_r2.keep K99 (ninS ne_r2_s1 (ninS ne_r2_q2 nin0))
    have E_q2 := E_q2.keep K99
    have Eq1 := Eq1.keep K99 (ninS (Ne.symm ne_s1_q1) (ninS ne_q1_q2 nin0))
    have Pq1 := Pq1.keep K99 (ninS (Ne.symm ne_s1_q1) (ninS ne_q1_q2 nin0))
    have Nq1 := Nq1.keep K99 (ninS (Ne.symm ne_s1_q1) (ninS ne_q1_q2 nin0))
    have E_r3 := E_r3.keep K99
    have V_r3 := V_r3.keep K99 (ninS ne_r3_s1 (ninS ne_r3_q2 nin0))
    refine own_st st99 ?_
    show Fin1 p e below s (rm0Q Z i0 i1 i2 i3 i4 i5 h0 n0) room_1.cells room_1.slots (T99.setTop (mkF m 108 #[.val (.int i0), .val (.int i1), .val (.int i2), .val (.int i3), .val (.int i4), .val (.int i5), .val (.int (4 : Int32)), .val (.int k7), .val (.ref ex), .val (.ref s1), .unset, .unset, .unset] []))
    refine own_st (fun wt wk => XS.aload X99.here hx rfl (hb hby at_108) rfl rfl (XS.iload X99.here hx rfl (hb hby at_110) rfl wk)) ?_
    show Fin1 p e below s (rm0Q Z i0 i1 i2 i3 i4 i5 h0 n0) room_1.cells room_1.slots (T99.setTop (mkF m 112 #[.val (.int i0), .val (.int i1), .val (.int i2), .val (.int i3), .val (.int i4), .val (.int i5), .val (.int (4 : Int32)), .val (.int k7), .val (.ref ex), .val (.ref s1), .unset, .unset, .unset] [(.int k7), (.ref ex)]))
    rcases hk with rfl | rfl | rfl | rfl
    · show Fin1 p e below s (rm0Q Z i0 i1 i2 i3 i4 i5 h0 n0) room_1.cells room_1.slots (T99.setTop (mkF m 112 #[.val (.int i0), .val (.int i1), .val (.int i2), .val (.int i3), .val (.int i4), .val (.int i5), .val (.int (4 : Int32)), .val (.int (0 : Int32)), .val (.ref ex), .val (.ref s1), .unset, .unset, .unset] [(.int (0 : Int32)), (.ref ex)]))
      refine own_st (own_ld (j := (0 : Int32)) (v := (.int i0)) X99 hx hZ e99 V_ex ⟨by decide, by decide⟩ rfl (g := (mkF m 112 #[.val (.int i0), .val (.int i1), .val (.int i2), .val (.int i3), .val (.int i4), .val (.int i5), .val (.int (4 : Int32)), .val (.int (0 : Int32)), .val (.ref ex), .val (.ref s1), .unset, .unset, .unset] [(.int (0 : Int32)), (.ref ex)])) rfl rfl (Or.inl ⟨rfl, rfl⟩) (hb hby at_112)) ?_
      show Fin1 p e below s (rm0Q Z i0 i1 i2 i3 i4 i5 h0 n0) room_1.cells room_1.slots (T99.setTop (mkF m 113 #[.val (.int i0), .val (.int i1), .val (.int i2), .val (.int i3), .val (.int i4), .val (.int i5), .val (.int (4 : Int32)), .val (.int (0 : Int32)), .val (.ref ex), .val (.ref s1), .unset, .unset, .unset] [(.int i0)]))
      refine own_st (fun wt wk => XS.istore X99.here hx rfl (hb hby at_113) rfl (l' := #[.val (.int i0), .val (.int i1), .val (.int i2), .val (.int i3), .val (.int i4), .val (.int i5), .val (.int (4 : Int32)), .val (.int (0 : Int32)), .val (.ref ex), .val (.ref s1), .val (.int i0), .unset, .unset]) rfl (XS.aload X99.here hx rfl (hb hby at_115) rfl rfl (XS.iload X99.here hx rfl (hb hby at_117) rfl (XS.iload X99.here hx rfl (hb hby at_119) rfl wk)))) ?_
      show Fin1 p e below s (rm0Q Z i0 i1 i2 i3 i4 i5 h0 n0) room_1.cells room_1.slots (T99.setTop (mkF m 121 #[.val (.int i0), .val (.int i1), .val (.int i2), .val (.int i3), .val (.int i4), .val (.int i5), .val (.int (4 : Int32)), .val (.int (0 : Int32)), .val (.ref ex), .val (.ref s1), .val (.int i0), .unset, .unset] [(.int i4), (.int (0 : Int32)), (.ref ex)]))
      obtain ⟨T100, h100, X100, e100, W100, U100, st100⟩ := own_stI (j := (0 : Int32)) X99 hx hZ e99 V_ex ⟨by decide, by decide⟩ 0 rfl (by simp) (g := (mkF m 121 #[.val (.int i0), .val (.int i1), .val (.int i2), .val (.int i3), .val (.int i4), .val (.int i5), .val (.int (4 : Int32)), .val (.int (0 : Int32)), .val (.ref ex), .val (.ref s1), .val (.int i0), .unset, .unset] [(.int i4), (.int (0 : Int32)), (.ref ex)])) rfl rfl (hb hby at_121)
      have N100 := Fr.snoc X100 N99 g_ex
      have Z0 := Nat.le_trans Z0 (Nat.le_of_eq W100.size.symm)
      have O := O.wr W100 g_ex
      have E_s1 := E_s1.wr W100
      have E_r0 := E_r0.wr W100
      have V_r0 := V_r0.other W100 (Or.inl ne_r0_ex)
      have E_q0 := E_q0.wr W100
      have E_r1 := E_r1.wr W100
      have V_r1 := V_r1.other W100 (Or.inl ne_r1_ex)
      have E_q1 := E_q1.wr W100
      have Eq0 := Eq0.other W100 (Or.inl (Ne.symm ne_ex_q0))
      have Pq0 := Pq0.other W100 (Or.inl (Ne.symm ne_ex_q0))
      have Nq0 := Nq0.other W100 (Or.inl (Ne.symm ne_ex_q0))
      have E_r2 := E_r2.wr W100
      have V_r2 := V_r2.other W100 (Or.inl ne_r2_ex)
      have E_q2 := E_q2.wr W100
      have Eq1 := Eq1.other W100 (Or.inl (Ne.symm ne_ex_q1))
      have Pq1 := Pq1.other W100 (Or.inl (Ne.symm ne_ex_q1))
      have Nq1 := Nq1.other W100 (Or.inl (Ne.symm ne_ex_q1))
      have E_r3 := E_r3.wr W100
      have V_r3 := V_r3.other W100 (Or.inl ne_r3_ex)
      have E_q3 := E_q3.wr W100
      have Hs1 := Hs1.other W100 (Or.inl (Ne.symm ne_ex_s1))
      have Ts1 := Ts1.other W100 (Or.inl (Ne.symm ne_ex_s1))
      have Ss1 := Ss1.other W100 (Or.inl (Ne.symm ne_ex_s1))
      have Eq2 := Eq2.other W100 (Or.inl (Ne.symm ne_ex_q2))
      have Pq2 := Pq2.other W100 (Or.inl (Ne.symm ne_ex_q2))
      have Nq2 := Nq2.other W100 (Or.inl (Ne.symm ne_ex_q2))
      have Eq3 := Eq3.other W100 (Or.inl (Ne.symm ne_ex_q3))
      have Pq3 := Pq3.other W100 (Or.inl (Ne.symm ne_ex_q3))
      have Nq3 := Nq3.other W100 (Or.inl (Ne.symm ne_ex_q3))
      have V_ex : Arv Z h100 ex kc1 .int (4 : Int32) [(.int i4), (.int i1), (.int i2), (.int i3)] (.int (0 : Int32)) := U100
      refine own_st st100 ?_
      show Fin1 p e below s (rm0Q Z i0 i1 i2 i3 i4 i5 h0 n0) room_1.cells room_1.slots (T100.setTop (mkF m 122 #[.val (.int i0), .val (.int i1), .val (.int i2), .val (.int i3), .val (.int i4), .val (.int i5), .val (.int (4 : Int32)), .val (.int (0 : Int32)), .val (.ref ex), .val (.ref s1), .val (.int i0), .unset, .unset] []))
      refine own_st (fun wt wk => XS.aload X100.here hx rfl (hb hby at_122) rfl rfl (XS.iload X100.here hx rfl (hb hby at_124) rfl (XS.iload X100.here hx rfl (hb hby at_126) rfl wk))) ?_
      show Fin1 p e below s (rm0Q Z i0 i1 i2 i3 i4 i5 h0 n0) room_1.cells room_1.slots (T100.setTop (mkF m 128 #[.val (.int i0), .val (.int i1), .val (.int i2), .val (.int i3), .val (.int i4), .val (.int i5), .val (.int (4 : Int32)), .val (.int (0 : Int32)), .val (.ref ex), .val (.ref s1), .val (.int i0), .unset, .unset] [(.int i4), (.int (0 : Int32)), (.ref s1)]))
      obtain ⟨v101, T101, h101, L101, X101, e101, hQ101, st101⟩ := own_static X100 hx hZ hown (hw _ (List.mem_of_getElem? (i := 16) rfl)) (hw _ (List.mem_of_getElem? (i := 17) rfl)) (hw _ (List.mem_of_getElem? (i := 18) rfl)) (hw _ (List.mem_of_getElem? (i := 19) rfl)) (by decide) (rmV l Z a0 hw i4 h100 n0 Z0 O hic) e100 (g := (mkF m 128 #[.val (.int i0), .val (.int i1), .val (.int i2), .val (.int i3), .val (.int i4), .val (.int i5), .val (.int (4 : Int32)), .val (.int (0 : Int32)), .val (.ref ex), .val (.ref s1), .val (.int i0), .unset, .unset] [(.int i4), (.int (0 : Int32)), (.ref s1)])) rfl (by rw [hml]; rfl) (argsL := [(.int i4)]) (rest := [(.int (0 : Int32)), (.ref s1)]) (lenOf pd_13 rfl) rfl (W := 2) (by show 2 * 0 + _ ≤ _; exact Nat.le_of_eq rfl) (hb hby at_128) (by decide) (by decide) (by decide) (by decide)
      obtain ⟨re, rfl, N101q, K101, E_re, V_re⟩ := hQ101
      have N101 := Fr.app N100 N101q
      have Z0 := Nat.le_trans Z0 K101.1
      have O := O.keep K101 all0
      have V_ex := V_ex.keep K101 nin0
      have E_s1 := E_s1.keep K101
      have E_r0 := E_r0.keep K101
      have V_r0 := V_r0.keep K101 nin0
      have E_q0 := E_q0.keep K101
      have E_r1 := E_r1.keep K101
      have V_r1 := V_r1.keep K101 nin0
      have E_q1 := E_q1.keep K101
      have Eq0 := Eq0.keep K101 nin0
      have Pq0 := Pq0.keep K101 nin0
      have Nq0 := Nq0.keep K101 nin0
      have E_r2 := E_r2.keep K101
      have V_r2 := V_r2.keep K101 nin0
      have E_q2 := E_q2.keep K101
      have Eq1 := Eq1.keep K101 nin0
      have Pq1 := Pq1.keep K101 nin0
      have Nq1 := Nq1.keep K101 nin0
      have E_r3 := E_r3.keep K101
      have V_r3 := V_r3.keep K101 nin0
      have E_q3 := E_q3.keep K101
      have Hs1 := Hs1.keep K101 nin0
      have Ts1 := Ts1.keep K101 nin0
      have Ss1 := Ss1.keep K101 nin0
      have Eq2 := Eq2.keep K101 nin0
      have Pq2 := Pq2.keep K101 nin0
      have Nq2 := Nq2.keep K101 nin0
      have Eq3 := Eq3.keep K101 nin0
      have Pq3 := Pq3.keep K101 nin0
      have Nq3 := Nq3.keep K101 nin0
      refine own_st st101 ?_
      show Fin1 p e below s (rm0Q Z i0 i1 i2 i3 i4 i5 h0 n0) room_1.cells room_1.slots (T101.setTop (mkF m 131 #[.val (.int i0), .val (.int i1), .val (.int i2), .val (.int i3), .val (.int i4), .val (.int i5), .val (.int (4 : Int32)), .val (.int (0 : Int32)), .val (.ref ex), .val (.ref s1), .val (.int i0), .unset, .unset] [(.ref re), (.int (0 : Int32)), (.ref s1)]))
      have ne_re_ex : re ≠ ex := own_ne_arv E_re (hw _ (List.mem_of_getElem? (i := 89) rfl)) V_ex
      have ne_re_s1 : re ≠ s1 := ne_exa E_re E_s1 (by decide)
      have ne_re_q0 : re ≠ q0 := ne_exa E_re E_q0 (by decide)
      have ne_re_q1 : re ≠ q1 := ne_exa E_re E_q1 (by decide)
      have ne_re_q2 : re ≠ q2 := ne_exa E_re E_q2 (by decide)
      have ne_re_q3 : re ≠ q3 := ne_exa E_re E_q3 (by decide)
      obtain ⟨v102, T102, h102, L102, X102, e102, hQ102, st102⟩ := own_virtual X101 hx hZ hown (hw _ (List.mem_of_getElem? (i := 59) rfl)) (hw _ (List.mem_of_getElem? (i := 60) rfl)) (hw _ (List.mem_of_getElem? (i := 62) rfl)) (hw _ (List.mem_of_getElem? (i := 61) rfl)) (hw _ (List.mem_of_getElem? (i := 63) rfl)) (hw _ (List.mem_of_getElem? (i := 4) rfl)) (by decide) (a := s1) E_s1 (rmT40 l Z a0 hw s1 re q0 r0 .null (.ref q1) h101 n0 Z0 g_q0 E_s1 E_q0 Ss1 Hs1 Eq0 Pq0 Nq0) e101 (g := (mkF m 131 #[.val (.int i0), .val (.int i1), .val (.int i2), .val (.int i3), .val (.int i4), .val (.int i5), .val (.int (4 : Int32)), .val (.int (0 : Int32)), .val (.ref ex), .val (.ref s1), .val (.int i0), .unset, .unset] [(.ref re), (.int (0 : Int32)), (.ref s1)])) rfl (by rw [hml]; rfl) (argsL := [(.int (0 : Int32)), (.ref re)]) (rest := []) (lenOf pd_15 rfl) rfl (W := 0) (by show 2 * 0 + _ ≤ _; exact Nat.le_of_eq rfl) (hb hby at_131) (by decide) (by decide) (by decide) (by decide)
      obtain ⟨rfl, N102q, K102, Eq0, Pq0, Nq0⟩ := hQ102
      have N102 := Fr.app N101 N102q
      have Z0 := Nat.le_trans Z0 K102.1
      have O := O.keep K102 (allS (P := fun x => n0 ≤ x) g_q0 all0)
      have V_ex := V_ex.keep K102 (ninS ne_ex_q0 nin0)
      have E_s1 := E_s1.keep K102
      have E_r0 := E_r0.keep K102
      have V_r0 := V_r0.keep K102 (ninS ne_r0_q0 nin0)
      have E_q0 := E_q0.keep K102
      have E_r1 := E_r1.keep K102
      have V_r1 := V_r1.keep K102 (ninS ne_r1_q0 nin0)
      have E_q1 := E_q1.keep K102
      have E_r2 := E_r2.keep K102
      have V_r2 := V_r2.keep K102 (ninS ne_r2_q0 nin0)
      have E_q2 := E_q2.keep K102
      have Eq1 := Eq1.keep K102 (ninS (Ne.symm ne_q0_q1) nin0)
      have Pq1 := Pq1.keep K102 (ninS (Ne.symm ne_q0_q1) nin0)
      have Nq1 := Nq1.keep K102 (ninS (Ne.symm ne_q0_q1) nin0)
      have E_r3 := E_r3.keep K102
      have V_r3 := V_r3.keep K102 (ninS ne_r3_q0 nin0)
      have E_q3 := E_q3.keep K102
      have Hs1 := Hs1.keep K102 (ninS ne_s1_q0 nin0)
      have Ts1 := Ts1.keep K102 (ninS ne_s1_q0 nin0)
      have Ss1 := Ss1.keep K102 (ninS ne_s1_q0 nin0)
      have Eq2 := Eq2.keep K102 (ninS (Ne.symm ne_q0_q2) nin0)
      have Pq2 := Pq2.keep K102 (ninS (Ne.symm ne_q0_q2) nin0)
      have Nq2 := Nq2.keep K102 (ninS (Ne.symm ne_q0_q2) nin0)
      have Eq3 := Eq3.keep K102 (ninS (Ne.symm ne_q0_q3) nin0)
      have Pq3 := Pq3.keep K102 (ninS (Ne.symm ne_q0_q3) nin0)
      have Nq3 := Nq3.keep K102 (ninS (Ne.symm ne_q0_q3) nin0)
      have E_re := E_re.keep K102
      have V_re := V_re.keep K102 (ninS ne_re_q0 nin0)
      refine own_st st102 ?_
      show Fin1 p e below s (rm0Q Z i0 i1 i2 i3 i4 i5 h0 n0) room_1.cells room_1.slots (T102.setTop (mkF m 134 #[.val (.int i0), .val (.int i1), .val (.int i2), .val (.int i3), .val (.int i4), .val (.int i5), .val (.int (4 : Int32)), .val (.int (0 : Int32)), .val (.ref ex), .val (.ref s1), .val (.int i0), .unset, .unset] [(.ref r0)]))
      obtain ⟨T103, X103, e103, st103⟩ := castY X102 hx hZ hown (hw _ (List.mem_of_getElem? (i := 65) rfl)) e102 (Ins.self E_r0) (g := (mkF m 134 #[.val (.int i0), .val (.int i1), .val (.int i2), .val (.int i3), .val (.int i4), .val (.int i5), .val (.int (4 : Int32)), .val (.int (0 : Int32)), .val (.ref ex), .val (.ref s1), .val (.int i0), .unset, .unset] [(.ref r0)])) rfl rfl (hb hby at_134)
      refine own_st st103 ?_
      show Fin1 p e below s (rm0Q Z i0 i1 i2 i3 i4 i5 h0 n0) room_1.cells room_1.slots (T103.setTop (mkF m 137 #[.val (.int i0), .val (.int i1), .val (.int i2), .val (.int i3), .val (.int i4), .val (.int i5), .val (.int (4 : Int32)), .val (.int (0 : Int32)), .val (.ref ex), .val (.ref s1), .val (.int i0), .unset, .unset] [(.ref r0)]))
      refine own_st (fun wt wk => XS.astore X103.here hx rfl (hb hby at_137) rfl rfl (l' := #[.val (.int i0), .val (.int i1), .val (.int i2), .val (.int i3), .val (.int i4), .val (.int i5), .val (.int (4 : Int32)), .val (.int (0 : Int32)), .val (.ref ex), .val (.ref s1), .val (.int i0), .val (.ref r0), .unset]) rfl (XS.aload X103.here hx rfl (hb hby at_139) rfl rfl (XS.iload X103.here hx rfl (hb hby at_141) rfl wk))) ?_
      show Fin1 p e below s (rm0Q Z i0 i1 i2 i3 i4 i5 h0 n0) room_1.cells room_1.slots (T103.setTop (mkF m 143 #[.val (.int i0), .val (.int i1), .val (.int i2), .val (.int i3), .val (.int i4), .val (.int i5), .val (.int (4 : Int32)), .val (.int (0 : Int32)), .val (.ref ex), .val (.ref s1), .val (.int i0), .val (.ref r0), .unset] [(.int i0), (.ref r0)]))
      obtain ⟨v104, T104, h104, L104, X104, e104, hQ104, st104⟩ := own_static X103 hx hZ hown (hw _ (List.mem_of_getElem? (i := 67) rfl)) (hw _ (List.mem_of_getElem? (i := 68) rfl)) (hw _ (List.mem_of_getElem? (i := 69) rfl)) (hw _ (List.mem_of_getElem? (i := 70) rfl)) (by decide) (rmEq l Z a0 hw r0 i0 h102 n0 Z0 E_r0 V_r0) e103 (g := (mkF m 143 #[.val (.int i0), .val (.int i1), .val (.int i2), .val (.int i3), .val (.int i4), .val (.int i5), .val (.int (4 : Int32)), .val (.int (0 : Int32)), .val (.ref ex), .val (.ref s1), .val (.int i0), .val (.ref r0), .unset] [(.int i0), (.ref r0)])) rfl (by rw [hml]; rfl) (argsL := [(.ref r0), (.int i0)]) (rest := []) (lenOf pd_16 rfl) rfl (W := 0) (by show 2 * 0 + _ ≤ _; exact Nat.le_of_eq rfl) (hb hby at_143) (by decide) (by decide) (by decide) (by decide)
      obtain ⟨rfl, N104q, hh104⟩ := hQ104
      have N104 := Fr.app N102 N104q
      rw [hh104] at e104
      refine own_st st104 ?_
      show Fin1 p e below s (rm0Q Z i0 i1 i2 i3 i4 i5 h0 n0) room_1.cells room_1.slots (T104.setTop (mkF m 146 #[.val (.int i0), .val (.int i1), .val (.int i2), .val (.int i3), .val (.int i4), .val (.int i5), .val (.int (4 : Int32)), .val (.int (0 : Int32)), .val (.ref ex), .val (.ref s1), .val (.int i0), .val (.ref r0), .unset] [(.int (1 : Int32))]))
      refine own_st (fun wt wk => XS.ifNo X104.here hx rfl (hb hby at_146) rfl ((if0 _ _).trans (feq (by decide)).1) wk) ?_
      show Fin1 p e below s (rm0Q Z i0 i1 i2 i3 i4 i5 h0 n0) room_1.cells room_1.slots (T104.setTop (mkF m 149 #[.val (.int i0), .val (.int i1), .val (.int i2), .val (.int i3), .val (.int i4), .val (.int i5), .val (.int (4 : Int32)), .val (.int (0 : Int32)), .val (.ref ex), .val (.ref s1), .val (.int i0), .val (.ref r0), .unset] []))
      refine own_st (fun wt wk => XS.aload X104.here hx rfl (hb hby at_149) rfl rfl wk) ?_
      show Fin1 p e below s (rm0Q Z i0 i1 i2 i3 i4 i5 h0 n0) room_1.cells room_1.slots (T104.setTop (mkF m 151 #[.val (.int i0), .val (.int i1), .val (.int i2), .val (.int i3), .val (.int i4), .val (.int i5), .val (.int (4 : Int32)), .val (.int (0 : Int32)), .val (.ref ex), .val (.ref s1), .val (.int i0), .val (.ref r0), .unset] [(.ref s1)]))
      obtain ⟨v105, T105, h105, L105, X105, e105, hQ105, st105⟩ := own_virtual X104 hx hZ hown (hw _ (List.mem_of_getElem? (i := 78) rfl)) (hw _ (List.mem_of_getElem? (i := 79) rfl)) (hw _ (List.mem_of_getElem? (i := 81) rfl)) (hw _ (List.mem_of_getElem? (i := 80) rfl)) (hw _ (List.mem_of_getElem? (i := 82) rfl)) (hw _ (List.mem_of_getElem? (i := 4) rfl)) (by decide) (a := s1) E_s1 (rmZ l Z a0 hw s1 (4 : Int32) h102 n0 Z0 Ss1) e104 (g := (mkF m 151 #[.val (.int i0), .val (.int i1), .val (.int i2), .val (.int i3), .val (.int i4), .val (.int i5), .val (.int (4 : Int32)), .val (.int (0 : Int32)), .val (.ref ex), .val (.ref s1), .val (.int i0), .val (.ref r0), .unset] [(.ref s1)])) rfl (by rw [hml]; rfl) (argsL := []) (rest := []) (lenOf pd_12 rfl) rfl (W := 0) (by show 2 * 0 + _ ≤ _; exact Nat.le_of_eq rfl) (hb hby at_151) (by decide) (by decide) (by decide) (by decide)
      obtain ⟨rfl, N105q, hh105⟩ := hQ105
      have N105 := Fr.app N104 N105q
      rw [hh105] at e105
      refine own_st st105 ?_
      show Fin1 p e below s (rm0Q Z i0 i1 i2 i3 i4 i5 h0 n0) room_1.cells room_1.slots (T105.setTop (mkF m 154 #[.val (.int i0), .val (.int i1), .val (.int i2), .val (.int i3), .val (.int i4), .val (.int i5), .val (.int (4 : Int32)), .val (.int (0 : Int32)), .val (.ref ex), .val (.ref s1), .val (.int i0), .val (.ref r0), .unset] [(.int (4 : Int32))]))
      refine own_st (fun wt wk => XS.iload X105.here hx rfl (hb hby at_154) rfl wk) ?_
      show Fin1 p e below s (rm0Q Z i0 i1 i2 i3 i4 i5 h0 n0) room_1.cells room_1.slots (T105.setTop (mkF m 156 #[.val (.int i0), .val (.int i1), .val (.int i2), .val (.int i3), .val (.int i4), .val (.int i5), .val (.int (4 : Int32)), .val (.int (0 : Int32)), .val (.ref ex), .val (.ref s1), .val (.int i0), .val (.ref r0), .unset] [(.int (4 : Int32)), (.int (4 : Int32))]))
      refine own_st (fun wt wk => XS.icmpNo X105.here hx rfl (hb hby at_156) rfl (teq (by decide)).2 wk) ?_
      show Fin1 p e below s (rm0Q Z i0 i1 i2 i3 i4 i5 h0 n0) room_1.cells room_1.slots (T105.setTop (mkF m 159 #[.val (.int i0), .val (.int i1), .val (.int i2), .val (.int i3), .val (.int i4), .val (.int i5), .val (.int (4 : Int32)), .val (.int (0 : Int32)), .val (.ref ex), .val (.ref s1), .val (.int i0), .val (.ref r0), .unset] []))
      refine own_st (fun wt wk => XS.iconst X105.here hx rfl (hb hby at_159) (XS.goto X105.here hx rfl (pc0 := 160) (pc' := 164) rfl (hb hby at_160) (by decide) (by decide) (XS.istore X105.here hx rfl (hb hby at_164) rfl (l' := #[.val (.int i0), .val (.int i1), .val (.int i2), .val (.int i3), .val (.int i4), .val (.int i5), .val (.int (4 : Int32)), .val (.int (0 : Int32)), .val (.ref ex), .val (.ref s1), .val (.int i0), .val (.ref r0), .val (.int (1 : Int32))]) rfl (XS.iload X105.here hx rfl (hb hby at_166) rfl wk)))) ?_
      show Fin1 p e below s (rm0Q Z i0 i1 i2 i3 i4 i5 h0 n0) room_1.cells room_1.slots (T105.setTop (mkF m 168 #[.val (.int i0), .val (.int i1), .val (.int i2), .val (.int i3), .val (.int i4), .val (.int i5), .val (.int (4 : Int32)), .val (.int (0 : Int32)), .val (.ref ex), .val (.ref s1), .val (.int i0), .val (.ref r0), .val (.int (1 : Int32))] [(.int (1 : Int32))]))
      refine own_st (fun wt wk => XS.ifNo X105.here hx rfl (hb hby at_168) rfl ((if0 _ _).trans (feq (by decide)).1) wk) ?_
      show Fin1 p e below s (rm0Q Z i0 i1 i2 i3 i4 i5 h0 n0) room_1.cells room_1.slots (T105.setTop (mkF m 171 #[.val (.int i0), .val (.int i1), .val (.int i2), .val (.int i3), .val (.int i4), .val (.int i5), .val (.int (4 : Int32)), .val (.int (0 : Int32)), .val (.ref ex), .val (.ref s1), .val (.int i0), .val (.ref r0), .val (.int (1 : Int32))] []))
      refine own_st (fun wt wk => XS.aload X105.here hx rfl (hb hby at_171) rfl rfl (XS.iconst X105.here hx rfl (hb hby at_173) wk)) ?_
      show Fin1 p e below s (rm0Q Z i0 i1 i2 i3 i4 i5 h0 n0) room_1.cells room_1.slots (T105.setTop (mkF m 174 #[.val (.int i0), .val (.int i1), .val (.int i2), .val (.int i3), .val (.int i4), .val (.int i5), .val (.int (4 : Int32)), .val (.int (0 : Int32)), .val (.ref ex), .val (.ref s1), .val (.int i0), .val (.ref r0), .val (.int (1 : Int32))] [(.int (0 : Int32)), (.ref s1)]))
      obtain ⟨v106, T106, h106, L106, X106, e106, hQ106, st106⟩ := own_virtual X105 hx hZ hown (hw _ (List.mem_of_getElem? (i := 83) rfl)) (hw _ (List.mem_of_getElem? (i := 84) rfl)) (hw _ (List.mem_of_getElem? (i := 86) rfl)) (hw _ (List.mem_of_getElem? (i := 85) rfl)) (hw _ (List.mem_of_getElem? (i := 87) rfl)) (hw _ (List.mem_of_getElem? (i := 4) rfl)) (by decide) (a := s1) E_s1 (rmG40 l Z a0 hw s1 q0 re h102 n0 Z0 E_s1 Ss1 Hs1 Eq0) e105 (g := (mkF m 174 #[.val (.int i0), .val (.int i1), .val (.int i2), .val (.int i3), .val (.int i4), .val (.int i5), .val (.int (4 : Int32)), .val (.int (0 : Int32)), .val (.ref ex), .val (.ref s1), .val (.int i0), .val (.ref r0), .val (.int (1 : Int32))] [(.int (0 : Int32)), (.ref s1)])) rfl (by rw [hml]; rfl) (argsL := [(.int (0 : Int32))]) (rest := []) (lenOf pd_17 rfl) rfl (W := 0) (by show 2 * 0 + _ ≤ _; exact Nat.le_of_eq rfl) (hb hby at_174) (by decide) (by decide) (by decide) (by decide)
      obtain ⟨rfl, N106q, hh106⟩ := hQ106
      have N106 := Fr.app N105 N106q
      rw [hh106] at e106
      refine own_st st106 ?_
      show Fin1 p e below s (rm0Q Z i0 i1 i2 i3 i4 i5 h0 n0) room_1.cells room_1.slots (T106.setTop (mkF m 177 #[.val (.int i0), .val (.int i1), .val (.int i2), .val (.int i3), .val (.int i4), .val (.int i5), .val (.int (4 : Int32)), .val (.int (0 : Int32)), .val (.ref ex), .val (.ref s1), .val (.int i0), .val (.ref r0), .val (.int (1 : Int32))] [(.ref re)]))
      obtain ⟨T107, X107, e107, st107⟩ := castY X106 hx hZ hown (hw _ (List.mem_of_getElem? (i := 65) rfl)) e106 (Ins.self E_re) (g := (mkF m 177 #[.val (.int i0), .val (.int i1), .val (.int i2), .val (.int i3), .val (.int i4), .val (.int i5), .val (.int (4 : Int32)), .val (.int (0 : Int32)), .val (.ref ex), .val (.ref s1), .val (.int i0), .val (.ref r0), .val (.int (1 : Int32))] [(.ref re)])) rfl rfl (hb hby at_177)
      refine own_st st107 ?_
      show Fin1 p e below s (rm0Q Z i0 i1 i2 i3 i4 i5 h0 n0) room_1.cells room_1.slots (T107.setTop (mkF m 180 #[.val (.int i0), .val (.int i1), .val (.int i2), .val (.int i3), .val (.int i4), .val (.int i5), .val (.int (4 : Int32)), .val (.int (0 : Int32)), .val (.ref ex), .val (.ref s1), .val (.int i0), .val (.ref r0), .val (.int (1 : Int32))] [(.ref re)]))
      refine own_st (fun wt wk => XS.aload X107.here hx rfl (hb hby at_180) rfl rfl (XS.iconst X107.here hx rfl (hb hby at_182) wk)) ?_
      show Fin1 p e below s (rm0Q Z i0 i1 i2 i3 i4 i5 h0 n0) room_1.cells room_1.slots (T107.setTop (mkF m 183 #[.val (.int i0), .val (.int i1), .val (.int i2), .val (.int i3), .val (.int i4), .val (.int i5), .val (.int (4 : Int32)), .val (.int (0 : Int32)), .val (.ref ex), .val (.ref s1), .val (.int i0), .val (.ref r0), .val (.int (1 : Int32))] [(.int (0 : Int32)), (.ref ex), (.ref re)]))
      refine own_st (own_ld (j := (0 : Int32)) (v := (.int i4)) X107 hx hZ e107 V_ex ⟨by decide, by decide⟩ rfl (g := (mkF m 183 #[.val (.int i0), .val (.int i1), .val (.int i2), .val (.int i3), .val (.int i4), .val (.int i5), .val (.int (4 : Int32)), .val (.int (0 : Int32)), .val (.ref ex), .val (.ref s1), .val (.int i0), .val (.ref r0), .val (.int (1 : Int32))] [(.int (0 : Int32)), (.ref ex), (.ref re)])) rfl rfl (Or.inl ⟨rfl, rfl⟩) (hb hby at_183)) ?_
      show Fin1 p e below s (rm0Q Z i0 i1 i2 i3 i4 i5 h0 n0) room_1.cells room_1.slots (T107.setTop (mkF m 184 #[.val (.int i0), .val (.int i1), .val (.int i2), .val (.int i3), .val (.int i4), .val (.int i5), .val (.int (4 : Int32)), .val (.int (0 : Int32)), .val (.ref ex), .val (.ref s1), .val (.int i0), .val (.ref r0), .val (.int (1 : Int32))] [(.int i4), (.ref re)]))
      obtain ⟨v108, T108, h108, L108, X108, e108, hQ108, st108⟩ := own_static X107 hx hZ hown (hw _ (List.mem_of_getElem? (i := 67) rfl)) (hw _ (List.mem_of_getElem? (i := 68) rfl)) (hw _ (List.mem_of_getElem? (i := 69) rfl)) (hw _ (List.mem_of_getElem? (i := 70) rfl)) (by decide) (rmEq l Z a0 hw re i4 h102 n0 Z0 E_re V_re) e107 (g := (mkF m 184 #[.val (.int i0), .val (.int i1), .val (.int i2), .val (.int i3), .val (.int i4), .val (.int i5), .val (.int (4 : Int32)), .val (.int (0 : Int32)), .val (.ref ex), .val (.ref s1), .val (.int i0), .val (.ref r0), .val (.int (1 : Int32))] [(.int i4), (.ref re)])) rfl (by rw [hml]; rfl) (argsL := [(.ref re), (.int i4)]) (rest := []) (lenOf pd_16 rfl) rfl (W := 0) (by show 2 * 0 + _ ≤ _; exact Nat.le_of_eq rfl) (hb hby at_184) (by decide) (by decide) (by decide) (by decide)
      obtain ⟨rfl, N108q, hh108⟩ := hQ108
      have N108 := Fr.app N106 N108q
      rw [hh108] at e108
      refine own_st st108 ?_
      show Fin1 p e below s (rm0Q Z i0 i1 i2 i3 i4 i5 h0 n0) room_1.cells room_1.slots (T108.setTop (mkF m 187 #[.val (.int i0), .val (.int i1), .val (.int i2), .val (.int i3), .val (.int i4), .val (.int i5), .val (.int (4 : Int32)), .val (.int (0 : Int32)), .val (.ref ex), .val (.ref s1), .val (.int i0), .val (.ref r0), .val (.int (1 : Int32))] [(.int (1 : Int32))]))
      refine own_st (fun wt wk => XS.ifNo X108.here hx rfl (hb hby at_187) rfl ((if0 _ _).trans (feq (by decide)).1) wk) ?_
      show Fin1 p e below s (rm0Q Z i0 i1 i2 i3 i4 i5 h0 n0) room_1.cells room_1.slots (T108.setTop (mkF m 190 #[.val (.int i0), .val (.int i1), .val (.int i2), .val (.int i3), .val (.int i4), .val (.int i5), .val (.int (4 : Int32)), .val (.int (0 : Int32)), .val (.ref ex), .val (.ref s1), .val (.int i0), .val (.ref r0), .val (.int (1 : Int32))] []))
      refine own_st (fun wt wk => XS.iconst X108.here hx rfl (hb hby at_190) (XS.goto X108.here hx rfl (pc0 := 191) (pc' := 195) rfl (hb hby at_191) (by decide) (by decide) (XS.istore X108.here hx rfl (hb hby at_195) rfl (l' := #[.val (.int i0), .val (.int i1), .val (.int i2), .val (.int i3), .val (.int i4), .val (.int i5), .val (.int (4 : Int32)), .val (.int (0 : Int32)), .val (.ref ex), .val (.ref s1), .val (.int i0), .val (.ref r0), .val (.int (1 : Int32))]) rfl (XS.iload X108.here hx rfl (hb hby at_197) rfl (XS.iconst X108.here hx rfl (hb hby at_199) wk))))) ?_
      show Fin1 p e below s (rm0Q Z i0 i1 i2 i3 i4 i5 h0 n0) room_1.cells room_1.slots (T108.setTop (mkF m 200 #[.val (.int i0), .val (.int i1), .val (.int i2), .val (.int i3), .val (.int i4), .val (.int i5), .val (.int (4 : Int32)), .val (.int (0 : Int32)), .val (.ref ex), .val (.ref s1), .val (.int i0), .val (.ref r0), .val (.int (1 : Int32))] [(.int (1 : Int32)), (.int (4 : Int32))]))
      refine own_st (fun wt wk => XS.icmpNo X108.here hx rfl (hb hby at_200) rfl (tlt (by decide)).2.2.2 wk) ?_
      show Fin1 p e below s (rm0Q Z i0 i1 i2 i3 i4 i5 h0 n0) room_1.cells room_1.slots (T108.setTop (mkF m 203 #[.val (.int i0), .val (.int i1), .val (.int i2), .val (.int i3), .val (.int i4), .val (.int i5), .val (.int (4 : Int32)), .val (.int (0 : Int32)), .val (.ref ex), .val (.ref s1), .val (.int i0), .val (.ref r0), .val (.int (1 : Int32))] []))
      refine own_st (fun wt wk => XS.iload X108.here hx rfl (hb hby at_203) rfl wk) ?_
      show Fin1 p e below s (rm0Q Z i0 i1 i2 i3 i4 i5 h0 n0) room_1.cells room_1.slots (T108.setTop (mkF m 205 #[.val (.int i0), .val (.int i1), .val (.int i2), .val (.int i3), .val (.int i4), .val (.int i5), .val (.int (4 : Int32)), .val (.int (0 : Int32)), .val (.ref ex), .val (.ref s1), .val (.int i0), .val (.ref r0), .val (.int (1 : Int32))] [(.int (1 : Int32))]))
      refine own_st (fun wt wk => XS.ifNo X108.here hx rfl (hb hby at_205) rfl ((if0 _ _).trans (feq (by decide)).1) wk) ?_
      show Fin1 p e below s (rm0Q Z i0 i1 i2 i3 i4 i5 h0 n0) room_1.cells room_1.slots (T108.setTop (mkF m 208 #[.val (.int i0), .val (.int i1), .val (.int i2), .val (.int i3), .val (.int i4), .val (.int i5), .val (.int (4 : Int32)), .val (.int (0 : Int32)), .val (.ref ex), .val (.ref s1), .val (.int i0), .val (.ref r0), .val (.int (1 : Int32))] []))
      refine own_st (fun wt wk => XS.aload X108.here hx rfl (hb hby at_208) rfl rfl (XS.iconst X108.here hx rfl (hb hby at_210) wk)) ?_
      show Fin1 p e below s (rm0Q Z i0 i1 i2 i3 i4 i5 h0 n0) room_1.cells room_1.slots (T108.setTop (mkF m 211 #[.val (.int i0), .val (.int i1), .val (.int i2), .val (.int i3), .val (.int i4), .val (.int i5), .val (.int (4 : Int32)), .val (.int (0 : Int32)), .val (.ref ex), .val (.ref s1), .val (.int i0), .val (.ref r0), .val (.int (1 : Int32))] [(.int (1 : Int32)), (.ref s1)]))
      obtain ⟨v109, T109, h109, L109, X109, e109, hQ109, st109⟩ := own_virtual X108 hx hZ hown (hw _ (List.mem_of_getElem? (i := 83) rfl)) (hw _ (List.mem_of_getElem? (i := 84) rfl)) (hw _ (List.mem_of_getElem? (i := 86) rfl)) (hw _ (List.mem_of_getElem? (i := 85) rfl)) (hw _ (List.mem_of_getElem? (i := 87) rfl)) (hw _ (List.mem_of_getElem? (i := 4) rfl)) (by decide) (a := s1) E_s1 (rmG41 l Z a0 hw s1 q0 q1 r1 h102 n0 Z0 E_s1 Ss1 Hs1 Nq0 Eq1) e108 (g := (mkF m 211 #[.val (.int i0), .val (.int i1), .val (.int i2), .val (.int i3), .val (.int i4), .val (.int i5), .val (.int (4 : Int32)), .val (.int (0 : Int32)), .val (.ref ex), .val (.ref s1), .val (.int i0), .val (.ref r0), .val (.int (1 : Int32))] [(.int (1 : Int32)), (.ref s1)])) rfl (by rw [hml]; rfl) (argsL := [(.int (1 : Int32))]) (rest := []) (lenOf pd_17 rfl) rfl (W := 0) (by show 2 * 0 + _ ≤ _; exact Nat.le_of_eq rfl) (hb hby at_211) (by decide) (by decide) (by decide) (by decide)
      obtain ⟨rfl, N109q, hh109⟩ := hQ109
      have N109 := Fr.app N108 N109q
      rw [hh109] at e109
      refine own_st st109 ?_
      show Fin1 p e below s (rm0Q Z i0 i1 i2 i3 i4 i5 h0 n0) room_1.cells room_1.slots (T109.setTop (mkF m 214 #[.val (.int i0), .val (.int i1), .val (.int i2), .val (.int i3), .val (.int i4), .val (.int i5), .val (.int (4 : Int32)), .val (.int (0 : Int32)), .val (.ref ex), .val (.ref s1), .val (.int i0), .val (.ref r0), .val (.int (1 : Int32))] [(.ref r1)]))
      obtain ⟨T110, X110, e110, st110⟩ := castY X109 hx hZ hown (hw _ (List.mem_of_getElem? (i := 65) rfl)) e109 (Ins.self E_r1) (g := (mkF m 214 #[.val (.int i0), .val (.int i1), .val (.int i2), .val (.int i3), .val (.int i4), .val (.int i5), .val (.int (4 : Int32)), .val (.int (0 : Int32)), .val (.ref ex), .val (.ref s1), .val (.int i0), .val (.ref r0), .val (.int (1 : Int32))] [(.ref r1)])) rfl rfl (hb hby at_214)
      refine own_st st110 ?_
      show Fin1 p e below s (rm0Q Z i0 i1 i2 i3 i4 i5 h0 n0) room_1.cells room_1.slots (T110.setTop (mkF m 217 #[.val (.int i0), .val (.int i1), .val (.int i2), .val (.int i3), .val (.int i4), .val (.int i5), .val (.int (4 : Int32)), .val (.int (0 : Int32)), .val (.ref ex), .val (.ref s1), .val (.int i0), .val (.ref r0), .val (.int (1 : Int32))] [(.ref r1)]))
      refine own_st (fun wt wk => XS.aload X110.here hx rfl (hb hby at_217) rfl rfl (XS.iconst X110.here hx rfl (hb hby at_219) wk)) ?_
      show Fin1 p e below s (rm0Q Z i0 i1 i2 i3 i4 i5 h0 n0) room_1.cells room_1.slots (T110.setTop (mkF m 220 #[.val (.int i0), .val (.int i1), .val (.int i2), .val (.int i3), .val (.int i4), .val (.int i5), .val (.int (4 : Int32)), .val (.int (0 : Int32)), .val (.ref ex), .val (.ref s1), .val (.int i0), .val (.ref r0), .val (.int (1 : Int32))] [(.int (1 : Int32)), (.ref ex), (.ref r1)]))
      refine own_st (own_ld (j := (1 : Int32)) (v := (.int i1)) X110 hx hZ e110 V_ex ⟨by decide, by decide⟩ rfl (g := (mkF m 220 #[.val (.int i0), .val (.int i1), .val (.int i2), .val (.int i3), .val (.int i4), .val (.int i5), .val (.int (4 : Int32)), .val (.int (0 : Int32)), .val (.ref ex), .val (.ref s1), .val (.int i0), .val (.ref r0), .val (.int (1 : Int32))] [(.int (1 : Int32)), (.ref ex), (.ref r1)])) rfl rfl (Or.inl ⟨rfl, rfl⟩) (hb hby at_220)) ?_
      show Fin1 p e below s (rm0Q Z i0 i1 i2 i3 i4 i5 h0 n0) room_1.cells room_1.slots (T110.setTop (mkF m 221 #[.val (.int i0), .val (.int i1), .val (.int i2), .val (.int i3), .val (.int i4), .val (.int i5), .val (.int (4 : Int32)), .val (.int (0 : Int32)), .val (.ref ex), .val (.ref s1), .val (.int i0), .val (.ref r0), .val (.int (1 : Int32))] [(.int i1), (.ref r1)]))
      obtain ⟨v111, T111, h111, L111, X111, e111, hQ111, st111⟩ := own_static X110 hx hZ hown (hw _ (List.mem_of_getElem? (i := 67) rfl)) (hw _ (List.mem_of_getElem? (i := 68) rfl)) (hw _ (List.mem_of_getElem? (i := 69) rfl)) (hw _ (List.mem_of_getElem? (i := 70) rfl)) (by decide) (rmEq l Z a0 hw r1 i1 h102 n0 Z0 E_r1 V_r1) e110 (g := (mkF m 221 #[.val (.int i0), .val (.int i1), .val (.int i2), .val (.int i3), .val (.int i4), .val (.int i5), .val (.int (4 : Int32)), .val (.int (0 : Int32)), .val (.ref ex), .val (.ref s1), .val (.int i0), .val (.ref r0), .val (.int (1 : Int32))] [(.int i1), (.ref r1)])) rfl (by rw [hml]; rfl) (argsL := [(.ref r1), (.int i1)]) (rest := []) (lenOf pd_16 rfl) rfl (W := 0) (by show 2 * 0 + _ ≤ _; exact Nat.le_of_eq rfl) (hb hby at_221) (by decide) (by decide) (by decide) (by decide)
      obtain ⟨rfl, N111q, hh111⟩ := hQ111
      have N111 := Fr.app N109 N111q
      rw [hh111] at e111
      refine own_st st111 ?_
      show Fin1 p e below s (rm0Q Z i0 i1 i2 i3 i4 i5 h0 n0) room_1.cells room_1.slots (T111.setTop (mkF m 224 #[.val (.int i0), .val (.int i1), .val (.int i2), .val (.int i3), .val (.int i4), .val (.int i5), .val (.int (4 : Int32)), .val (.int (0 : Int32)), .val (.ref ex), .val (.ref s1), .val (.int i0), .val (.ref r0), .val (.int (1 : Int32))] [(.int (1 : Int32))]))
      refine own_st (fun wt wk => XS.ifNo X111.here hx rfl (hb hby at_224) rfl ((if0 _ _).trans (feq (by decide)).1) wk) ?_
      show Fin1 p e below s (rm0Q Z i0 i1 i2 i3 i4 i5 h0 n0) room_1.cells room_1.slots (T111.setTop (mkF m 227 #[.val (.int i0), .val (.int i1), .val (.int i2), .val (.int i3), .val (.int i4), .val (.int i5), .val (.int (4 : Int32)), .val (.int (0 : Int32)), .val (.ref ex), .val (.ref s1), .val (.int i0), .val (.ref r0), .val (.int (1 : Int32))] []))
      refine own_st (fun wt wk => XS.iconst X111.here hx rfl (hb hby at_227) (XS.goto X111.here hx rfl (pc0 := 228) (pc' := 232) rfl (hb hby at_228) (by decide) (by decide) (XS.istore X111.here hx rfl (hb hby at_232) rfl (l' := #[.val (.int i0), .val (.int i1), .val (.int i2), .val (.int i3), .val (.int i4), .val (.int i5), .val (.int (4 : Int32)), .val (.int (0 : Int32)), .val (.ref ex), .val (.ref s1), .val (.int i0), .val (.ref r0), .val (.int (1 : Int32))]) rfl (XS.iload X111.here hx rfl (hb hby at_234) rfl (XS.iconst X111.here hx rfl (hb hby at_236) wk))))) ?_
      show Fin1 p e below s (rm0Q Z i0 i1 i2 i3 i4 i5 h0 n0) room_1.cells room_1.slots (T111.setTop (mkF m 237 #[.val (.int i0), .val (.int i1), .val (.int i2), .val (.int i3), .val (.int i4), .val (.int i5), .val (.int (4 : Int32)), .val (.int (0 : Int32)), .val (.ref ex), .val (.ref s1), .val (.int i0), .val (.ref r0), .val (.int (1 : Int32))] [(.int (2 : Int32)), (.int (4 : Int32))]))
      refine own_st (fun wt wk => XS.icmpNo X111.here hx rfl (hb hby at_237) rfl (tlt (by decide)).2.2.2 wk) ?_
      show Fin1 p e below s (rm0Q Z i0 i1 i2 i3 i4 i5 h0 n0) room_1.cells room_1.slots (T111.setTop (mkF m 240 #[.val (.int i0), .val (.int i1), .val (.int i2), .val (.int i3), .val (.int i4), .val (.int i5), .val (.int (4 : Int32)), .val (.int (0 : Int32)), .val (.ref ex), .val (.ref s1), .val (.int i0), .val (.ref r0), .val (.int (1 : Int32))] []))
      refine own_st (fun wt wk => XS.iload X111.here hx rfl (hb hby at_240) rfl wk) ?_
      show Fin1 p e below s (rm0Q Z i0 i1 i2 i3 i4 i5 h0 n0) room_1.cells room_1.slots (T111.setTop (mkF m 242 #[.val (.int i0), .val (.int i1), .val (.int i2), .val (.int i3), .val (.int i4), .val (.int i5), .val (.int (4 : Int32)), .val (.int (0 : Int32)), .val (.ref ex), .val (.ref s1), .val (.int i0), .val (.ref r0), .val (.int (1 : Int32))] [(.int (1 : Int32))]))
      refine own_st (fun wt wk => XS.ifNo X111.here hx rfl (hb hby at_242) rfl ((if0 _ _).trans (feq (by decide)).1) wk) ?_
      show Fin1 p e below s (rm0Q Z i0 i1 i2 i3 i4 i5 h0 n0) room_1.cells room_1.slots (T111.setTop (mkF m 245 #[.val (.int i0), .val (.int i1), .val (.int i2), .val (.int i3), .val (.int i4), .val (.int i5), .val (.int (4 : Int32)), .val (.int (0 : Int32)), .val (.ref ex), .val (.ref s1), .val (.int i0), .val (.ref r0), .val (.int (1 : Int32))] []))
      refine own_st (fun wt wk => XS.aload X111.here hx rfl (hb hby at_245) rfl rfl (XS.iconst X111.here hx rfl (hb hby at_247) wk)) ?_
      show Fin1 p e below s (rm0Q Z i0 i1 i2 i3 i4 i5 h0 n0) room_1.cells room_1.slots (T111.setTop (mkF m 248 #[.val (.int i0), .val (.int i1), .val (.int i2), .val (.int i3), .val (.int i4), .val (.int i5), .val (.int (4 : Int32)), .val (.int (0 : Int32)), .val (.ref ex), .val (.ref s1), .val (.int i0), .val (.ref r0), .val (.int (1 : Int32))] [(.int (2 : Int32)), (.ref s1)]))
      obtain ⟨v112, T112, h112, L112, X112, e112, hQ112, st112⟩ := own_virtual X111 hx hZ hown (hw _ (List.mem_of_getElem? (i := 83) rfl)) (hw _ (List.mem_of_getElem? (i := 84) rfl)) (hw _ (List.mem_of_getElem? (i := 86) rfl)) (hw _ (List.mem_of_getElem? (i := 85) rfl)) (hw _ (List.mem_of_getElem? (i := 87) rfl)) (hw _ (List.mem_of_getElem? (i := 4) rfl)) (by decide) (a := s1) E_s1 (rmG42 l Z a0 hw s1 q2 q3 r2 h102 n0 Z0 E_s1 Ss1 Ts1 Pq3 Eq2) e111 (g := (mkF m 248 #[.val (.int i0), .val (.int i1), .val (.int i2), .val (.int i3), .val (.int i4), .val (.int i5), .val (.int (4 : Int32)), .val (.int (0 : Int32)), .val (.ref ex), .val (.ref s1), .val (.int i0), .val (.ref r0), .val (.int (1 : Int32))] [(.int (2 : Int32)), (.ref s1)])) rfl (by rw [hml]; rfl) (argsL := [(.int (2 : Int32))]) (rest := []) (lenOf pd_17 rfl) rfl (W := 0) (by show 2 * 0 + _ ≤ _; exact Nat.le_of_eq rfl) (hb hby at_248) (by decide) (by decide) (by decide) (by decide)
      obtain ⟨rfl, N112q, hh112⟩ := hQ112
      have N112 := Fr.app N111 N112q
      rw [hh112] at e112
      refine own_st st112 ?_
      show Fin1 p e below s (rm0Q Z i0 i1 i2 i3 i4 i5 h0 n0) room_1.cells room_1.slots (T112.setTop (mkF m 251 #[.val (.int i0), .val (.int i1), .val (.int i2), .val (.int i3), .val (.int i4), .val (.int i5), .val (.int (4 : Int32)), .val (.int (0 : Int32)), .val (.ref ex), .val (.ref s1), .val (.int i0), .val (.ref r0), .val (.int (1 : Int32))] [(.ref r2)]))
      obtain ⟨T113, X113, e113, st113⟩ := castY X112 hx hZ hown (hw _ (List.mem_of_getElem? (i := 65) rfl)) e112 (Ins.self E_r2) (g := (mkF m 251 #[.val (.int i0), .val (.int i1), .val (.int i2), .val (.int i3), .val (.int i4), .val (.int i5), .val (.int (4 : Int32)), .val (.int (0 : Int32)), .val (.ref ex), .val (.ref s1), .val (.int i0), .val (.ref r0), .val (.int (1 : Int32))] [(.ref r2)])) rfl rfl (hb hby at_251)
      refine own_st st113 ?_
      show Fin1 p e below s (rm0Q Z i0 i1 i2 i3 i4 i5 h0 n0) room_1.cells room_1.slots (T113.setTop (mkF m 254 #[.val (.int i0), .val (.int i1), .val (.int i2), .val (.int i3), .val (.int i4), .val (.int i5), .val (.int (4 : Int32)), .val (.int (0 : Int32)), .val (.ref ex), .val (.ref s1), .val (.int i0), .val (.ref r0), .val (.int (1 : Int32))] [(.ref r2)]))
      refine own_st (fun wt wk => XS.aload X113.here hx rfl (hb hby at_254) rfl rfl (XS.iconst X113.here hx rfl (hb hby at_256) wk)) ?_
      show Fin1 p e below s (rm0Q Z i0 i1 i2 i3 i4 i5 h0 n0) room_1.cells room_1.slots (T113.setTop (mkF m 257 #[.val (.int i0), .val (.int i1), .val (.int i2), .val (.int i3), .val (.int i4), .val (.int i5), .val (.int (4 : Int32)), .val (.int (0 : Int32)), .val (.ref ex), .val (.ref s1), .val (.int i0), .val (.ref r0), .val (.int (1 : Int32))] [(.int (2 : Int32)), (.ref ex), (.ref r2)]))
      refine own_st (own_ld (j := (2 : Int32)) (v := (.int i2)) X113 hx hZ e113 V_ex ⟨by decide, by decide⟩ rfl (g := (mkF m 257 #[.val (.int i0), .val (.int i1), .val (.int i2), .val (.int i3), .val (.int i4), .val (.int i5), .val (.int (4 : Int32)), .val (.int (0 : Int32)), .val (.ref ex), .val (.ref s1), .val (.int i0), .val (.ref r0), .val (.int (1 : Int32))] [(.int (2 : Int32)), (.ref ex), (.ref r2)])) rfl rfl (Or.inl ⟨rfl, rfl⟩) (hb hby at_257)) ?_
      show Fin1 p e below s (rm0Q Z i0 i1 i2 i3 i4 i5 h0 n0) room_1.cells room_1.slots (T113.setTop (mkF m 258 #[.val (.int i0), .val (.int i1), .val (.int i2), .val (.int i3), .val (.int i4), .val (.int i5), .val (.int (4 : Int32)), .val (.int (0 : Int32)), .val (.ref ex), .val (.ref s1), .val (.int i0), .val (.ref r0), .val (.int (1 : Int32))] [(.int i2), (.ref r2)]))
      obtain ⟨v114, T114, h114, L114, X114, e114, hQ114, st114⟩ := own_static X113 hx hZ hown (hw _ (List.mem_of_getElem? (i := 67) rfl)) (hw _ (List.mem_of_getElem? (i := 68) rfl)) (hw _ (List.mem_of_getElem? (i := 69) rfl)) (hw _ (List.mem_of_getElem? (i := 70) rfl)) (by decide) (rmEq l Z a0 hw r2 i2 h102 n0 Z0 E_r2 V_r2) e113 (g := (mkF m 258 #[.val (.int i0), .val (.int i1), .val (.int i2), .val (.int i3), .val (.int i4), .val (.int i5), .val (.int (4 : Int32)), .val (.int (0 : Int32)), .val (.ref ex), .val (.ref s1), .val (.int i0), .val (.ref r0), .val (.int (1 : Int32))] [(.int i2), (.ref r2)])) rfl (by rw [hml]; rfl) (argsL := [(.ref r2), (.int i2)]) (rest := []) (lenOf pd_16 rfl) rfl (W := 0) (by show 2 * 0 + _ ≤ _; exact Nat.le_of_eq rfl) (hb hby at_258) (by decide) (by decide) (by decide) (by decide)
      obtain ⟨rfl, N114q, hh114⟩ := hQ114
      have N114 := Fr.app N112 N114q
      rw [hh114] at e114
      refine own_st st114 ?_
      show Fin1 p e below s (rm0Q Z i0 i1 i2 i3 i4 i5 h0 n0) room_1.cells room_1.slots (T114.setTop (mkF m 261 #[.val (.int i0), .val (.int i1), .val (.int i2), .val (.int i3), .val (.int i4), .val (.int i5), .val (.int (4 : Int32)), .val (.int (0 : Int32)), .val (.ref ex), .val (.ref s1), .val (.int i0), .val (.ref r0), .val (.int (1 : Int32))] [(.int (1 : Int32))]))
      refine own_st (fun wt wk => XS.ifNo X114.here hx rfl (hb hby at_261) rfl ((if0 _ _).trans (feq (by decide)).1) wk) ?_
      show Fin1 p e below s (rm0Q Z i0 i1 i2 i3 i4 i5 h0 n0) room_1.cells room_1.slots (T114.setTop (mkF m 264 #[.val (.int i0), .val (.int i1), .val (.int i2), .val (.int i3), .val (.int i4), .val (.int i5), .val (.int (4 : Int32)), .val (.int (0 : Int32)), .val (.ref ex), .val (.ref s1), .val (.int i0), .val (.ref r0), .val (.int (1 : Int32))] []))
      refine own_st (fun wt wk => XS.iconst X114.here hx rfl (hb hby at_264) (XS.goto X114.here hx rfl (pc0 := 265) (pc' := 269) rfl (hb hby at_265) (by decide) (by decide) (XS.istore X114.here hx rfl (hb hby at_269) rfl (l' := #[.val (.int i0), .val (.int i1), .val (.int i2), .val (.int i3), .val (.int i4), .val (.int i5), .val (.int (4 : Int32)), .val (.int (0 : Int32)), .val (.ref ex), .val (.ref s1), .val (.int i0), .val (.ref r0), .val (.int (1 : Int32))]) rfl (XS.iload X114.here hx rfl (hb hby at_271) rfl (XS.iconst X114.here hx rfl (hb hby at_273) wk))))) ?_
      show Fin1 p e below s (rm0Q Z i0 i1 i2 i3 i4 i5 h0 n0) room_1.cells room_1.slots (T114.setTop (mkF m 274 #[.val (.int i0), .val (.int i1), .val (.int i2), .val (.int i3), .val (.int i4), .val (.int i5), .val (.int (4 : Int32)), .val (.int (0 : Int32)), .val (.ref ex), .val (.ref s1), .val (.int i0), .val (.ref r0), .val (.int (1 : Int32))] [(.int (3 : Int32)), (.int (4 : Int32))]))
      refine own_st (fun wt wk => XS.icmpNo X114.here hx rfl (hb hby at_274) rfl (tlt (by decide)).2.2.2 wk) ?_
      show Fin1 p e below s (rm0Q Z i0 i1 i2 i3 i4 i5 h0 n0) room_1.cells room_1.slots (T114.setTop (mkF m 277 #[.val (.int i0), .val (.int i1), .val (.int i2), .val (.int i3), .val (.int i4), .val (.int i5), .val (.int (4 : Int32)), .val (.int (0 : Int32)), .val (.ref ex), .val (.ref s1), .val (.int i0), .val (.ref r0), .val (.int (1 : Int32))] []))
      refine own_st (fun wt wk => XS.iload X114.here hx rfl (hb hby at_277) rfl wk) ?_
      show Fin1 p e below s (rm0Q Z i0 i1 i2 i3 i4 i5 h0 n0) room_1.cells room_1.slots (T114.setTop (mkF m 279 #[.val (.int i0), .val (.int i1), .val (.int i2), .val (.int i3), .val (.int i4), .val (.int i5), .val (.int (4 : Int32)), .val (.int (0 : Int32)), .val (.ref ex), .val (.ref s1), .val (.int i0), .val (.ref r0), .val (.int (1 : Int32))] [(.int (1 : Int32))]))
      refine own_st (fun wt wk => XS.ifNo X114.here hx rfl (hb hby at_279) rfl ((if0 _ _).trans (feq (by decide)).1) wk) ?_
      show Fin1 p e below s (rm0Q Z i0 i1 i2 i3 i4 i5 h0 n0) room_1.cells room_1.slots (T114.setTop (mkF m 282 #[.val (.int i0), .val (.int i1), .val (.int i2), .val (.int i3), .val (.int i4), .val (.int i5), .val (.int (4 : Int32)), .val (.int (0 : Int32)), .val (.ref ex), .val (.ref s1), .val (.int i0), .val (.ref r0), .val (.int (1 : Int32))] []))
      refine own_st (fun wt wk => XS.aload X114.here hx rfl (hb hby at_282) rfl rfl (XS.iconst X114.here hx rfl (hb hby at_284) wk)) ?_
      show Fin1 p e below s (rm0Q Z i0 i1 i2 i3 i4 i5 h0 n0) room_1.cells room_1.slots (T114.setTop (mkF m 285 #[.val (.int i0), .val (.int i1), .val (.int i2), .val (.int i3), .val (.int i4), .val (.int i5), .val (.int (4 : Int32)), .val (.int (0 : Int32)), .val (.ref ex), .val (.ref s1), .val (.int i0), .val (.ref r0), .val (.int (1 : Int32))] [(.int (3 : Int32)), (.ref s1)]))
      obtain ⟨v115, T115, h115, L115, X115, e115, hQ115, st115⟩ := own_virtual X114 hx hZ hown (hw _ (List.mem_of_getElem? (i := 83) rfl)) (hw _ (List.mem_of_getElem? (i := 84) rfl)) (hw _ (List.mem_of_getElem? (i := 86) rfl)) (hw _ (List.mem_of_getElem? (i := 85) rfl)) (hw _ (List.mem_of_getElem? (i := 87) rfl)) (hw _ (List.mem_of_getElem? (i := 4) rfl)) (by decide) (a := s1) E_s1 (rmG43 l Z a0 hw s1 q3 r3 h102 n0 Z0 E_s1 Ss1 Ts1 Eq3) e114 (g := (mkF m 285 #[.val (.int i0), .val (.int i1), .val (.int i2), .val (.int i3), .val (.int i4), .val (.int i5), .val (.int (4 : Int32)), .val (.int (0 : Int32)), .val (.ref ex), .val (.ref s1), .val (.int i0), .val (.ref r0), .val (.int (1 : Int32))] [(.int (3 : Int32)), (.ref s1)])) rfl (by rw [hml]; rfl) (argsL := [(.int (3 : Int32))]) (rest := []) (lenOf pd_17 rfl) rfl (W := 0) (by show 2 * 0 + _ ≤ _; exact Nat.le_of_eq rfl) (hb hby at_285) (by decide) (by decide) (by decide) (by decide)
      obtain ⟨rfl, N115q, hh115⟩ := hQ115
      have N115 := Fr.app N114 N115q
      rw [hh115] at e115
      refine own_st st115 ?_
      show Fin1 p e below s (rm0Q Z i0 i1 i2 i3 i4 i5 h0 n0) room_1.cells room_1.slots (T115.setTop (mkF m 288 #[.val (.int i0), .val (.int i1), .val (.int i2), .val (.int i3), .val (.int i4), .val (.int i5), .val (.int (4 : Int32)), .val (.int (0 : Int32)), .val (.ref ex), .val (.ref s1), .val (.int i0), .val (.ref r0), .val (.int (1 : Int32))] [(.ref r3)]))
      obtain ⟨T116, X116, e116, st116⟩ := castY X115 hx hZ hown (hw _ (List.mem_of_getElem? (i := 65) rfl)) e115 (Ins.self E_r3) (g := (mkF m 288 #[.val (.int i0), .val (.int i1), .val (.int i2), .val (.int i3), .val (.int i4), .val (.int i5), .val (.int (4 : Int32)), .val (.int (0 : Int32)), .val (.ref ex), .val (.ref s1), .val (.int i0), .val (.ref r0), .val (.int (1 : Int32))] [(.ref r3)])) rfl rfl (hb hby at_288)
      refine own_st st116 ?_
      show Fin1 p e below s (rm0Q Z i0 i1 i2 i3 i4 i5 h0 n0) room_1.cells room_1.slots (T116.setTop (mkF m 291 #[.val (.int i0), .val (.int i1), .val (.int i2), .val (.int i3), .val (.int i4), .val (.int i5), .val (.int (4 : Int32)), .val (.int (0 : Int32)), .val (.ref ex), .val (.ref s1), .val (.int i0), .val (.ref r0), .val (.int (1 : Int32))] [(.ref r3)]))
      refine own_st (fun wt wk => XS.aload X116.here hx rfl (hb hby at_291) rfl rfl (XS.iconst X116.here hx rfl (hb hby at_293) wk)) ?_
      show Fin1 p e below s (rm0Q Z i0 i1 i2 i3 i4 i5 h0 n0) room_1.cells room_1.slots (T116.setTop (mkF m 294 #[.val (.int i0), .val (.int i1), .val (.int i2), .val (.int i3), .val (.int i4), .val (.int i5), .val (.int (4 : Int32)), .val (.int (0 : Int32)), .val (.ref ex), .val (.ref s1), .val (.int i0), .val (.ref r0), .val (.int (1 : Int32))] [(.int (3 : Int32)), (.ref ex), (.ref r3)]))
      refine own_st (own_ld (j := (3 : Int32)) (v := (.int i3)) X116 hx hZ e116 V_ex ⟨by decide, by decide⟩ rfl (g := (mkF m 294 #[.val (.int i0), .val (.int i1), .val (.int i2), .val (.int i3), .val (.int i4), .val (.int i5), .val (.int (4 : Int32)), .val (.int (0 : Int32)), .val (.ref ex), .val (.ref s1), .val (.int i0), .val (.ref r0), .val (.int (1 : Int32))] [(.int (3 : Int32)), (.ref ex), (.ref r3)])) rfl rfl (Or.inl ⟨rfl, rfl⟩) (hb hby at_294)) ?_
      show Fin1 p e below s (rm0Q Z i0 i1 i2 i3 i4 i5 h0 n0) room_1.cells room_1.slots (T116.setTop (mkF m 295 #[.val (.int i0), .val (.int i1), .val (.int i2), .val (.int i3), .val (.int i4), .val (.int i5), .val (.int (4 : Int32)), .val (.int (0 : Int32)), .val (.ref ex), .val (.ref s1), .val (.int i0), .val (.ref r0), .val (.int (1 : Int32))] [(.int i3), (.ref r3)]))
      obtain ⟨v117, T117, h117, L117, X117, e117, hQ117, st117⟩ := own_static X116 hx hZ hown (hw _ (List.mem_of_getElem? (i := 67) rfl)) (hw _ (List.mem_of_getElem? (i := 68) rfl)) (hw _ (List.mem_of_getElem? (i := 69) rfl)) (hw _ (List.mem_of_getElem? (i := 70) rfl)) (by decide) (rmEq l Z a0 hw r3 i3 h102 n0 Z0 E_r3 V_r3) e116 (g := (mkF m 295 #[.val (.int i0), .val (.int i1), .val (.int i2), .val (.int i3), .val (.int i4), .val (.int i5), .val (.int (4 : Int32)), .val (.int (0 : Int32)), .val (.ref ex), .val (.ref s1), .val (.int i0), .val (.ref r0), .val (.int (1 : Int32))] [(.int i3), (.ref r3)])) rfl (by rw [hml]; rfl) (argsL := [(.ref r3), (.int i3)]) (rest := []) (lenOf pd_16 rfl) rfl (W := 0) (by show 2 * 0 + _ ≤ _; exact Nat.le_of_eq rfl) (hb hby at_295) (by decide) (by decide) (by decide) (by decide)
      obtain ⟨rfl, N117q, hh117⟩ := hQ117
      have N117 := Fr.app N115 N117q
      rw [hh117] at e117
      refine own_st st117 ?_
      show Fin1 p e below s (rm0Q Z i0 i1 i2 i3 i4 i5 h0 n0) room_1.cells room_1.slots (T117.setTop (mkF m 298 #[.val (.int i0), .val (.int i1), .val (.int i2), .val (.int i3), .val (.int i4), .val (.int i5), .val (.int (4 : Int32)), .val (.int (0 : Int32)), .val (.ref ex), .val (.ref s1), .val (.int i0), .val (.ref r0), .val (.int (1 : Int32))] [(.int (1 : Int32))]))
      refine own_st (fun wt wk => XS.ifNo X117.here hx rfl (hb hby at_298) rfl ((if0 _ _).trans (feq (by decide)).1) wk) ?_
      show Fin1 p e below s (rm0Q Z i0 i1 i2 i3 i4 i5 h0 n0) room_1.cells room_1.slots (T117.setTop (mkF m 301 #[.val (.int i0), .val (.int i1), .val (.int i2), .val (.int i3), .val (.int i4), .val (.int i5), .val (.int (4 : Int32)), .val (.int (0 : Int32)), .val (.ref ex), .val (.ref s1), .val (.int i0), .val (.ref r0), .val (.int (1 : Int32))] []))
      refine own_st (fun wt wk => XS.iconst X117.here hx rfl (hb hby at_301) (XS.goto X117.here hx rfl (pc0 := 302) (pc' := 306) rfl (hb hby at_302) (by decide) (by decide) (XS.istore X117.here hx rfl (hb hby at_306) rfl (l' := #[.val (.int i0), .val (.int i1), .val (.int i2), .val (.int i3), .val (.int i4), .val (.int i5), .val (.int (4 : Int32)), .val (.int (0 : Int32)), .val (.ref ex), .val (.ref s1), .val (.int i0), .val (.ref r0), .val (.int (1 : Int32))]) rfl (XS.iload X117.here hx rfl (hb hby at_308) rfl wk)))) ?_
      show Fin1 p e below s (rm0Q Z i0 i1 i2 i3 i4 i5 h0 n0) room_1.cells room_1.slots (T117.setTop (mkF m 310 #[.val (.int i0), .val (.int i1), .val (.int i2), .val (.int i3), .val (.int i4), .val (.int i5), .val (.int (4 : Int32)), .val (.int (0 : Int32)), .val (.ref ex), .val (.ref s1), .val (.int i0), .val (.ref r0), .val (.int (1 : Int32))] [(.int (1 : Int32))]))
      exact own_retZ X117 hx hlk hret (hb hby at_310) (z := (1 : Int32)) (by decide) (by rw [e117]; exact ⟨rfl, N117⟩) (by decide) (by decide)
    · show Fin1 p e below s (rm0Q Z i0 i1 i2 i3 i4 i5 h0 n0) room_1.cells room_1.slots (T99.setTop (mkF m 112 #[.val (.int i0), .val (.int i1), .val (.int i2), .val (.int i3), .val (.int i4), .val (.int i5), .val (.int (4 : Int32)), .val (.int (1 : Int32)), .val (.ref ex), .val (.ref s1), .unset, .unset, .unset] [(.int (1 : Int32)), (.ref ex)]))
      refine own_st (own_ld (j := (1 : Int32)) (v := (.int i1)) X99 hx hZ e99 V_ex ⟨by decide, by decide⟩ rfl (g := (mkF m 112 #[.val (.int i0), .val (.int i1), .val (.int i2), .val (.int i3), .val (.int i4), .val (.int i5), .val (.int (4 : Int32)), .val (.int (1 : Int32)), .val (.ref ex), .val (.ref s1), .unset, .unset, .unset] [(.int (1 : Int32)), (.ref ex)])) rfl rfl (Or.inl ⟨rfl, rfl⟩) (hb hby at_112)) ?_
      show Fin1 p e below s (rm0Q Z i0 i1 i2 i3 i4 i5 h0 n0) room_1.cells room_1.slots (T99.setTop (mkF m 113 #[.val (.int i0), .val (.int i1), .val (.int i2), .val (.int i3), .val (.int i4), .val (.int i5), .val (.int (4 : Int32)), .val (.int (1 : Int32)), .val (.ref ex), .val (.ref s1), .unset, .unset, .unset] [(.int i1)]))
      refine own_st (fun wt wk => XS.istore X99.here hx rfl (hb hby at_113) rfl (l' := #[.val (.int i0), .val (.int i1), .val (.int i2), .val (.int i3), .val (.int i4), .val (.int i5), .val (.int (4 : Int32)), .val (.int (1 : Int32)), .val (.ref ex), .val (.ref s1), .val (.int i1), .unset, .unset]) rfl (XS.aload X99.here hx rfl (hb hby at_115) rfl rfl (XS.iload X99.here hx rfl (hb hby at_117) rfl (XS.iload X99.here hx rfl (hb hby at_119) rfl wk)))) ?_
      show Fin1 p e below s (rm0Q Z i0 i1 i2 i3 i4 i5 h0 n0) room_1.cells room_1.slots (T99.setTop (mkF m 121 #[.val (.int i0), .val (.int i1), .val (.int i2), .val (.int i3), .val (.int i4), .val (.int i5), .val (.int (4 : Int32)), .val (.int (1 : Int32)), .val (.ref ex), .val (.ref s1), .val (.int i1), .unset, .unset] [(.int i4), (.int (1 : Int32)), (.ref ex)]))
      obtain ⟨T118, h118, X118, e118, W118, U118, st118⟩ := own_stI (j := (1 : Int32)) X99 hx hZ e99 V_ex ⟨by decide, by decide⟩ 1 rfl (by simp) (g := (mkF m 121 #[.val (.int i0), .val (.int i1), .val (.int i2), .val (.int i3), .val (.int i4), .val (.int i5), .val (.int (4 : Int32)), .val (.int (1 : Int32)), .val (.ref ex), .val (.ref s1), .val (.int i1), .unset, .unset] [(.int i4), (.int (1 : Int32)), (.ref ex)])) rfl rfl (hb hby at_121)
      have N118 := Fr.snoc X118 N99 g_ex
      have Z0 := Nat.le_trans Z0 (Nat.le_of_eq W118.size.symm)
      have O := O.wr W118 g_ex
      have E_s1 := E_s1.wr W118
      have E_r0 := E_r0.wr W118
      have V_r0 := V_r0.other W118 (Or.inl ne_r0_ex)
      have E_q0 := E_q0.wr W118
      have E_r1 := E_r1.wr W118
      have V_r1 := V_r1.other W118 (Or.inl ne_r1_ex)
      have E_q1 := E_q1.wr W118
      have Eq0 := Eq0.other W118 (Or.inl (Ne.symm ne_ex_q0))
      have Pq0 := Pq0.other W118 (Or.inl (Ne.symm ne_ex_q0))
      have Nq0 := Nq0.other W118 (Or.inl (Ne.symm ne_ex_q0))
      have E_r2 := E_r2.wr W118
      have V_r2 := V_r2.other W118 (Or.inl ne_r2_ex)
      have E_q2 := E_q2.wr W118
      have Eq1 := Eq1.other W118 (Or.inl (Ne.symm ne_ex_q1))
      have Pq1 := Pq1.other W118 (Or.inl (Ne.symm ne_ex_q1))
      have Nq1 := Nq1.other W118 (Or.inl (Ne.symm ne_ex_q1))
      have E_r3 := E_r3.wr W118
      have V_r3 := V_r3.other W118 (Or.inl ne_r3_ex)
      have E_q3 := E_q3.wr W118
      have Hs1 := Hs1.other W118 (Or.inl (Ne.symm ne_ex_s1))
      have Ts1 := Ts1.other W118 (Or.inl (Ne.symm ne_ex_s1))
      have Ss1 := Ss1.other W118 (Or.inl (Ne.symm ne_ex_s1))
      have Eq2 := Eq2.other W118 (Or.inl (Ne.symm ne_ex_q2))
      have Pq2 := Pq2.other W118 (Or.inl (Ne.symm ne_ex_q2))
      have Nq2 := Nq2.other W118 (Or.inl (Ne.symm ne_ex_q2))
      have Eq3 := Eq3.other W118 (Or.inl (Ne.symm ne_ex_q3))
      have Pq3 := Pq3.other W118 (Or.inl (Ne.symm ne_ex_q3))
      have Nq3 := Nq3.other W118 (Or.inl (Ne.symm ne_ex_q3))
      have V_ex : Arv Z h118 ex kc1 .int (4 : Int32) [(.int i0), (.int i4), (.int i2), (.int i3)] (.int (0 : Int32)) := U118
      refine own_st st118 ?_
      show Fin1 p e below s (rm0Q Z i0 i1 i2 i3 i4 i5 h0 n0) room_1.cells room_1.slots (T118.setTop (mkF m 122 #[.val (.int i0), .val (.int i1), .val (.int i2), .val (.int i3), .val (.int i4), .val (.int i5), .val (.int (4 : Int32)), .val (.int (1 : Int32)), .val (.ref ex), .val (.ref s1), .val (.int i1), .unset, .unset] []))
      refine own_st (fun wt wk => XS.aload X118.here hx rfl (hb hby at_122) rfl rfl (XS.iload X118.here hx rfl (hb hby at_124) rfl (XS.iload X118.here hx rfl (hb hby at_126) rfl wk))) ?_
      show Fin1 p e below s (rm0Q Z i0 i1 i2 i3 i4 i5 h0 n0) room_1.cells room_1.slots (T118.setTop (mkF m 128 #[.val (.int i0), .val (.int i1), .val (.int i2), .val (.int i3), .val (.int i4), .val (.int i5), .val (.int (4 : Int32)), .val (.int (1 : Int32)), .val (.ref ex), .val (.ref s1), .val (.int i1), .unset, .unset] [(.int i4), (.int (1 : Int32)), (.ref s1)]))
      obtain ⟨v119, T119, h119, L119, X119, e119, hQ119, st119⟩ := own_static X118 hx hZ hown (hw _ (List.mem_of_getElem? (i := 16) rfl)) (hw _ (List.mem_of_getElem? (i := 17) rfl)) (hw _ (List.mem_of_getElem? (i := 18) rfl)) (hw _ (List.mem_of_getElem? (i := 19) rfl)) (by decide) (rmV l Z a0 hw i4 h118 n0 Z0 O hic) e118 (g := (mkF m 128 #[.val (.int i0), .val (.int i1), .val (.int i2), .val (.int i3), .val (.int i4), .val (.int i5), .val (.int (4 : Int32)), .val (.int (1 : Int32)), .val (.ref ex), .val (.ref s1), .val (.int i1), .unset, .unset] [(.int i4), (.int (1 : Int32)), (.ref s1)])) rfl (by rw [hml]; rfl) (argsL := [(.int i4)]) (rest := [(.int (1 : Int32)), (.ref s1)]) (lenOf pd_13 rfl) rfl (W := 2) (by show 2 * 0 + _ ≤ _; exact Nat.le_of_eq rfl) (hb hby at_128) (by decide) (by decide) (by decide) (by decide)
      obtain ⟨re, rfl, N119q, K119, E_re, V_re⟩ := hQ119
      have N119 := Fr.app N118 N119q
      have Z0 := Nat.le_trans Z0 K119.1
      have O := O.keep K119 all0
      have V_ex := V_ex.keep K119 nin0
      have E_s1 := E_s1.keep K119
      have E_r0 := E_r0.keep K119
      have V_r0 := V_r0.keep K119 nin0
      have E_q0 := E_q0.keep K119
      have E_r1 := E_r1.keep K119
      have V_r1 := V_r1.keep K119 nin0
      have E_q1 := E_q1.keep K119
      have Eq0 := Eq0.keep K119 nin0
      have Pq0 := Pq0.keep K119 nin0
      have Nq0 := Nq0.keep K119 nin0
      have E_r2 := E_r2.keep K119
      have V_r2 := V_r2.keep K119 nin0
      have E_q2 := E_q2.keep K119
      have Eq1 := Eq1.keep K119 nin0
      have Pq1 := Pq1.keep K119 nin0
      have Nq1 := Nq1.keep K119 nin0
      have E_r3 := E_r3.keep K119
      have V_r3 := V_r3.keep K119 nin0
      have E_q3 := E_q3.keep K119
      have Hs1 := Hs1.keep K119 nin0
      have Ts1 := Ts1.keep K119 nin0
      have Ss1 := Ss1.keep K119 nin0
      have Eq2 := Eq2.keep K119 nin0
      have Pq2 := Pq2.keep K119 nin0
      have Nq2 := Nq2.keep K119 nin0
      have Eq3 := Eq3.keep K119 nin0
      have Pq3 := Pq3.keep K119 nin0
      have Nq3 := Nq3.keep K119 nin0
      refine own_st st119 ?_
      show Fin1 p e below s (rm0Q Z i0 i1 i2 i3 i4 i5 h0 n0) room_1.cells room_1.slots (T119.setTop (mkF m 131 #[.val (.int i0), .val (.int i1), .val (.int i2), .val (.int i3), .val (.int i4), .val (.int i5), .val (.int (4 : Int32)), .val (.int (1 : Int32)), .val (.ref ex), .val (.ref s1), .val (.int i1), .unset, .unset] [(.ref re), (.int (1 : Int32)), (.ref s1)]))
      have ne_re_ex : re ≠ ex := own_ne_arv E_re (hw _ (List.mem_of_getElem? (i := 89) rfl)) V_ex
      have ne_re_s1 : re ≠ s1 := ne_exa E_re E_s1 (by decide)
      have ne_re_q0 : re ≠ q0 := ne_exa E_re E_q0 (by decide)
      have ne_re_q1 : re ≠ q1 := ne_exa E_re E_q1 (by decide)
      have ne_re_q2 : re ≠ q2 := ne_exa E_re E_q2 (by decide)
      have ne_re_q3 : re ≠ q3 := ne_exa E_re E_q3 (by decide)
      obtain ⟨v120, T120, h120, L120, X120, e120, hQ120, st120⟩ := own_virtual X119 hx hZ hown (hw _ (List.mem_of_getElem? (i := 59) rfl)) (hw _ (List.mem_of_getElem? (i := 60) rfl)) (hw _ (List.mem_of_getElem? (i := 62) rfl)) (hw _ (List.mem_of_getElem? (i := 61) rfl)) (hw _ (List.mem_of_getElem? (i := 63) rfl)) (hw _ (List.mem_of_getElem? (i := 4) rfl)) (by decide) (a := s1) E_s1 (rmT41 l Z a0 hw s1 re q0 q1 r1 (.ref q0) (.ref q2) h119 n0 Z0 g_q1 E_s1 E_q1 Ss1 Hs1 Nq0 Eq1 Pq1 Nq1) e119 (g := (mkF m 131 #[.val (.int i0), .val (.int i1), .val (.int i2), .val (.int i3), .val (.int i4), .val (.int i5), .val (.int (4 : Int32)), .val (.int (1 : Int32)), .val (.ref ex), .val (.ref s1), .val (.int i1), .unset, .unset] [(.ref re), (.int (1 : Int32)), (.ref s1)])) rfl (by rw [hml]; rfl) (argsL := [(.int (1 : Int32)), (.ref re)]) (rest := []) (lenOf pd_15 rfl) rfl (W := 0) (by show 2 * 0 + _ ≤ _; exact Nat.le_of_eq rfl) (hb hby at_131) (by decide) (by decide) (by decide) (by decide)
      obtain ⟨rfl, N120q, K120, Eq1, Pq1, Nq1⟩ := hQ120
      have N120 := Fr.app N119 N120q
      have Z0 := Nat.le_trans Z0 K120.1
      have O := O.keep K120 (allS (P := fun x => n0 ≤ x) g_q1 all0)
      have V_ex := V_ex.keep K120 (ninS ne_ex_q1 nin0)
      have E_s1 := E_s1.keep K120
      have E_r0 := E_r0.keep K120
      have V_r0 := V_r0.keep K120 (ninS ne_r0_q1 nin0)
      have E_q0 := E_q0.keep K120
      have E_r1 := E_r1.keep K120
      have V_r1 := V_r1.keep K120 (ninS ne_r1_q1 nin0)
      have E_q1 := E_q1.keep K120
      have Eq0 := Eq0.keep K120 (ninS ne_q0_q1 nin0)
      have Pq0 := Pq0.keep K120 (ninS ne_q0_q1 nin0)
      have Nq0 := Nq0.keep K120 (ninS ne_q0_q1 nin0)
      have E_r2 := E_r2.keep K120
      have V_r2 := V_r2.keep K120 (ninS ne_r2_q1 nin0)
      have E_q2 := E_q2.keep K120
      have E_r3 := E_r3.keep K120
      have V_r3 := V_r3.keep K120 (ninS ne_r3_q1 nin0)
      have E_q3 := E_q3.keep K120
      have Hs1 := Hs1.keep K120 (ninS ne_s1_q1 nin0)
      have Ts1 := Ts1.keep K120 (ninS ne_s1_q1 nin0)
      have Ss1 := Ss1.keep K120 (ninS ne_s1_q1 nin0)
      have Eq2 := Eq2.keep K120 (ninS (Ne.symm ne_q1_q2) nin0)
      have Pq2 := Pq2.keep K120 (ninS (Ne.symm ne_q1_q2) nin0)
      have Nq2 := Nq2.keep K120 (ninS (Ne.symm ne_q1_q2) nin0)
      have Eq3 := Eq3.keep K120 (ninS (Ne.symm ne_q1_q3) nin0)
      have Pq3 := Pq3.keep K120 (ninS (Ne.symm ne_q1_q3) nin0)
      have Nq3 := Nq3.keep K120 (ninS (Ne.symm ne_q1_q3) nin0)
      have E_re := E_re.keep K120
      have V_re := V_re.keep K120 (ninS ne_re_q1 nin0)
      refine own_st st120 ?_
      show Fin1 p e below s (rm0Q Z i0 i1 i2 i3 i4 i5 h0 n0) room_1.cells room_1.slots (T120.setTop (mkF m 134 #[.val (.int i0), .val (.int i1), .val (.int i2), .val (.int i3), .val (.int i4), .val (.int i5), .val (.int (4 : Int32)), .val (.int (1 : Int32)), .val (.ref ex), .val (.ref s1), .val (.int i1), .unset, .unset] [(.ref r1)]))
      obtain ⟨T121, X121, e121, st121⟩ := castY X120 hx hZ hown (hw _ (List.mem_of_getElem? (i := 65) rfl)) e120 (Ins.self E_r1) (g := (mkF m 134 #[.val (.int i0), .val (.int i1), .val (.int i2), .val (.int i3), .val (.int i4), .val (.int i5), .val (.int (4 : Int32)), .val (.int (1 : Int32)), .val (.ref ex), .val (.ref s1), .val (.int i1), .unset, .unset] [(.ref r1)])) rfl rfl (hb hby at_134)
      refine own_st st121 ?_
      show Fin1 p e below s (rm0Q Z i0 i1 i2 i3 i4 i5 h0 n0) room_1.cells room_1.slots (T121.setTop (mkF m 137 #[.val (.int i0), .val (.int i1), .val (.int i2), .val (.int i3), .val (.int i4), .val (.int i5), .val (.int (4 : Int32)), .val (.int (1 : Int32)), .val (.ref ex), .val (.ref s1), .val (.int i1), .unset, .unset] [(.ref r1)]))
      refine own_st (fun wt wk => XS.astore X121.here hx rfl (hb hby at_137) rfl rfl (l' := #[.val (.int i0), .val (.int i1), .val (.int i2), .val (.int i3), .val (.int i4), .val (.int i5), .val (.int (4 : Int32)), .val (.int (1 : Int32)), .val (.ref ex), .val (.ref s1), .val (.int i1), .val (.ref r1), .unset]) rfl (XS.aload X121.here hx rfl (hb hby at_139) rfl rfl (XS.iload X121.here hx rfl (hb hby at_141) rfl wk))) ?_
      show Fin1 p e below s (rm0Q Z i0 i1 i2 i3 i4 i5 h0 n0) room_1.cells room_1.slots (T121.setTop (mkF m 143 #[.val (.int i0), .val (.int i1), .val (.int i2), .val (.int i3), .val (.int i4), .val (.int i5), .val (.int (4 : Int32)), .val (.int (1 : Int32)), .val (.ref ex), .val (.ref s1), .val (.int i1), .val (.ref r1), .unset] [(.int i1), (.ref r1)]))
      obtain ⟨v122, T122, h122, L122, X122, e122, hQ122, st122⟩ := own_static X121 hx hZ hown (hw _ (List.mem_of_getElem? (i := 67) rfl)) (hw _ (List.mem_of_getElem? (i := 68) rfl)) (hw _ (List.mem_of_getElem? (i := 69) rfl)) (hw _ (List.mem_of_getElem? (i := 70) rfl)) (by decide) (rmEq l Z a0 hw r1 i1 h120 n0 Z0 E_r1 V_r1) e121 (g := (mkF m 143 #[.val (.int i0), .val (.int i1), .val (.int i2), .val (.int i3), .val (.int i4), .val (.int i5), .val (.int (4 : Int32)), .val (.int (1 : Int32)), .val (.ref ex), .val (.ref s1), .val (.int i1), .val (.ref r1), .unset] [(.int i1), (.ref r1)])) rfl (by rw [hml]; rfl) (argsL := [(.ref r1), (.int i1)]) (rest := []) (lenOf pd_16 rfl) rfl (W := 0) (by show 2 * 0 + _ ≤ _; exact Nat.le_of_eq rfl) (hb hby at_143) (by decide) (by decide) (by decide) (by decide)
      obtain ⟨rfl, N122q, hh122⟩ := hQ122
      have N122 := Fr.app N120 N122q
      rw [hh122] at e122
      refine own_st st122 ?_
      show Fin1 p e below s (rm0Q Z i0 i1 i2 i3 i4 i5 h0 n0) room_1.cells room_1.slots (T122.setTop (mkF m 146 #[.val (.int i0), .val (.int i1), .val (.int i2), .val (.int i3), .val (.int i4), .val (.int i5), .val (.int (4 : Int32)), .val (.int (1 : Int32)), .val (.ref ex), .val (.ref s1), .val (.int i1), .val (.ref r1), .unset] [(.int (1 : Int32))]))
      refine own_st (fun wt wk => XS.ifNo X122.here hx rfl (hb hby at_146) rfl ((if0 _ _).trans (feq (by decide)).1) wk) ?_
      show Fin1 p e below s (rm0Q Z i0 i1 i2 i3 i4 i5 h0 n0) room_1.cells room_1.slots (T122.setTop (mkF m 149 #[.val (.int i0), .val (.int i1), .val (.int i2), .val (.int i3), .val (.int i4), .val (.int i5), .val (.int (4 : Int32)), .val (.int (1 : Int32)), .val (.ref ex), .val (.ref s1), .val (.int i1), .val (.ref r1), .unset] []))
      refine own_st (fun wt wk => XS.aload X122.here hx rfl (hb hby at_149) rfl rfl wk) ?_
      show Fin1 p e below s (rm0Q Z i0 i1 i2 i3 i4 i5 h0 n0) room_1.cells room_1.slots (T122.setTop (mkF m 151 #[.val (.int i0), .val (.int i1), .val (.int i2), .val (.int i3), .val (.int i4), .val (.int i5), .val (.int (4 : Int32)), .val (.int (1 : Int32)), .val (.ref ex), .val (.ref s1), .val (.int i1), .val (.ref r1), .unset] [(.ref s1)]))
      obtain ⟨v123, T123, h123, L123, X123, e123, hQ123, st123⟩ := own_virtual X122 hx hZ hown (hw _ (List.mem_of_getElem? (i := 78) rfl)) (hw _ (List.mem_of_getElem? (i := 79) rfl)) (hw _ (List.mem_of_getElem? (i := 81) rfl)) (hw _ (List.mem_of_getElem? (i := 80) rfl)) (hw _ (List.mem_of_getElem? (i := 82) rfl)) (hw _ (List.mem_of_getElem? (i := 4) rfl)) (by decide) (a := s1) E_s1 (rmZ l Z a0 hw s1 (4 : Int32) h120 n0 Z0 Ss1) e122 (g := (mkF m 151 #[.val (.int i0), .val (.int i1), .val (.int i2), .val (.int i3), .val (.int i4), .val (.int i5), .val (.int (4 : Int32)), .val (.int (1 : Int32)), .val (.ref ex), .val (.ref s1), .val (.int i1), .val (.ref r1), .unset] [(.ref s1)])) rfl (by rw [hml]; rfl) (argsL := []) (rest := []) (lenOf pd_12 rfl) rfl (W := 0) (by show 2 * 0 + _ ≤ _; exact Nat.le_of_eq rfl) (hb hby at_151) (by decide) (by decide) (by decide) (by decide)
      obtain ⟨rfl, N123q, hh123⟩ := hQ123
      have N123 := Fr.app N122 N123q
      rw [hh123] at e123
      refine own_st st123 ?_
      show Fin1 p e below s (rm0Q Z i0 i1 i2 i3 i4 i5 h0 n0) room_1.cells room_1.slots (T123.setTop (mkF m 154 #[.val (.int i0), .val (.int i1), .val (.int i2), .val (.int i3), .val (.int i4), .val (.int i5), .val (.int (4 : Int32)), .val (.int (1 : Int32)), .val (.ref ex), .val (.ref s1), .val (.int i1), .val (.ref r1), .unset] [(.int (4 : Int32))]))
      refine own_st (fun wt wk => XS.iload X123.here hx rfl (hb hby at_154) rfl wk) ?_
      show Fin1 p e below s (rm0Q Z i0 i1 i2 i3 i4 i5 h0 n0) room_1.cells room_1.slots (T123.setTop (mkF m 156 #[.val (.int i0), .val (.int i1), .val (.int i2), .val (.int i3), .val (.int i4), .val (.int i5), .val (.int (4 : Int32)), .val (.int (1 : Int32)), .val (.ref ex), .val (.ref s1), .val (.int i1), .val (.ref r1), .unset] [(.int (4 : Int32)), (.int (4 : Int32))]))
      refine own_st (fun wt wk => XS.icmpNo X123.here hx rfl (hb hby at_156) rfl (teq (by decide)).2 wk) ?_
      show Fin1 p e below s (rm0Q Z i0 i1 i2 i3 i4 i5 h0 n0) room_1.cells room_1.slots (T123.setTop (mkF m 159 #[.val (.int i0), .val (.int i1), .val (.int i2), .val (.int i3), .val (.int i4), .val (.int i5), .val (.int (4 : Int32)), .val (.int (1 : Int32)), .val (.ref ex), .val (.ref s1), .val (.int i1), .val (.ref r1), .unset] []))
      refine own_st (fun wt wk => XS.iconst X123.here hx rfl (hb hby at_159) (XS.goto X123.here hx rfl (pc0 := 160) (pc' := 164) rfl (hb hby at_160) (by decide) (by decide) (XS.istore X123.here hx rfl (hb hby at_164) rfl (l' := #[.val (.int i0), .val (.int i1), .val (.int i2), .val (.int i3), .val (.int i4), .val (.int i5), .val (.int (4 : Int32)), .val (.int (1 : Int32)), .val (.ref ex), .val (.ref s1), .val (.int i1), .val (.ref r1), .val (.int (1 : Int32))]) rfl (XS.iload X123.here hx rfl (hb hby at_166) rfl wk)))) ?_
      show Fin1 p e below s (rm0Q Z i0 i1 i2 i3 i4 i5 h0 n0) room_1.cells room_1.slots (T123.setTop (mkF m 168 #[.val (.int i0), .val (.int i1), .val (.int i2), .val (.int i3), .val (.int i4), .val (.int i5), .val (.int (4 : Int32)), .val (.int (1 : Int32)), .val (.ref ex), .val (.ref s1), .val (.int i1), .val (.ref r1), .val (.int (1 : Int32))] [(.int (1 : Int32))]))
      refine own_st (fun wt wk => XS.ifNo X123.here hx rfl (hb hby at_168) rfl ((if0 _ _).trans (feq (by decide)).1) wk) ?_
      show Fin1 p e below s (rm0Q Z i0 i1 i2 i3 i4 i5 h0 n0) room_1.cells room_1.slots (T123.setTop (mkF m 171 #[.val (.int i0), .val (.int i1), .val (.int i2), .val (.int i3), .val (.int i4), .val (.int i5), .val (.int (4 : Int32)), .val (.int (1 : Int32)), .val (.ref ex), .val (.ref s1), .val (.int i1), .val (.ref r1), .val (.int (1 : Int32))] []))
      refine own_st (fun wt wk => XS.aload X123.here hx rfl (hb hby at_171) rfl rfl (XS.iconst X123.here hx rfl (hb hby at_173) wk)) ?_
      show Fin1 p e below s (rm0Q Z i0 i1 i2 i3 i4 i5 h0 n0) room_1.cells room_1.slots (T123.setTop (mkF m 174 #[.val (.int i0), .val (.int i1), .val (.int i2), .val (.int i3), .val (.int i4), .val (.int i5), .val (.int (4 : Int32)), .val (.int (1 : Int32)), .val (.ref ex), .val (.ref s1), .val (.int i1), .val (.ref r1), .val (.int (1 : Int32))] [(.int (0 : Int32)), (.ref s1)]))
      obtain ⟨v124, T124, h124, L124, X124, e124, hQ124, st124⟩ := own_virtual X123 hx hZ hown (hw _ (List.mem_of_getElem? (i := 83) rfl)) (hw _ (List.mem_of_getElem? (i := 84) rfl)) (hw _ (List.mem_of_getElem? (i := 86) rfl)) (hw _ (List.mem_of_getElem? (i := 85) rfl)) (hw _ (List.mem_of_getElem? (i := 87) rfl)) (hw _ (List.mem_of_getElem? (i := 4) rfl)) (by decide) (a := s1) E_s1 (rmG40 l Z a0 hw s1 q0 r0 h120 n0 Z0 E_s1 Ss1 Hs1 Eq0) e123 (g := (mkF m 174 #[.val (.int i0), .val (.int i1), .val (.int i2), .val (.int i3), .val (.int i4), .val (.int i5), .val (.int (4 : Int32)), .val (.int (1 : Int32)), .val (.ref ex), .val (.ref s1), .val (.int i1), .val (.ref r1), .val (.int (1 : Int32))] [(.int (0 : Int32)), (.ref s1)])) rfl (by rw [hml]; rfl) (argsL := [(.int (0 : Int32))]) (rest := []) (lenOf pd_17 rfl) rfl (W := 0) (by show 2 * 0 + _ ≤ _; exact Nat.le_of_eq rfl) (hb hby at_174) (by decide) (by decide) (by decide) (by decide)
      obtain ⟨rfl, N124q, hh124⟩ := hQ124
      have N124 := Fr.app N123 N124q
      rw [hh124] at e124
      refine own_st st124 ?_
      show Fin1 p e below s (rm0Q Z i0 i1 i2 i3 i4 i5 h0 n0) room_1.cells room_1.slots (T124.setTop (mkF m 177 #[.val (.int i0), .val (.int i1), .val (.int i2), .val (.int i3), .val (.int i4), .val (.int i5), .val (.int (4 : Int32)), .val (.int (1 : Int32)), .val (.ref ex), .val (.ref s1), .val (.int i1), .val (.ref r1), .val (.int (1 : Int32))] [(.ref r0)]))
      obtain ⟨T125, X125, e125, st125⟩ := castY X124 hx hZ hown (hw _ (List.mem_of_getElem? (i := 65) rfl)) e124 (Ins.self E_r0) (g := (mkF m 177 #[.val (.int i0), .val (.int i1), .val (.int i2), .val (.int i3), .val (.int i4), .val (.int i5), .val (.int (4 : Int32)), .val (.int (1 : Int32)), .val (.ref ex), .val (.ref s1), .val (.int i1), .val (.ref r1), .val (.int (1 : Int32))] [(.ref r0)])) rfl rfl (hb hby at_177)
      refine own_st st125 ?_
      show Fin1 p e below s (rm0Q Z i0 i1 i2 i3 i4 i5 h0 n0) room_1.cells room_1.slots (T125.setTop (mkF m 180 #[.val (.int i0), .val (.int i1), .val (.int i2), .val (.int i3), .val (.int i4), .val (.int i5), .val (.int (4 : Int32)), .val (.int (1 : Int32)), .val (.ref ex), .val (.ref s1), .val (.int i1), .val (.ref r1), .val (.int (1 : Int32))] [(.ref r0)]))
      refine own_st (fun wt wk => XS.aload X125.here hx rfl (hb hby at_180) rfl rfl (XS.iconst X125.here hx rfl (hb hby at_182) wk)) ?_
      show Fin1 p e below s (rm0Q Z i0 i1 i2 i3 i4 i5 h0 n0) room_1.cells room_1.slots (T125.setTop (mkF m 183 #[.val (.int i0), .val (.int i1), .val (.int i2), .val (.int i3), .val (.int i4), .val (.int i5), .val (.int (4 : Int32)), .val (.int (1 : Int32)), .val (.ref ex), .val (.ref s1), .val (.int i1), .val (.ref r1), .val (.int (1 : Int32))] [(.int (0 : Int32)), (.ref ex), (.ref r0)]))
      refine own_st (own_ld (j := (0 : Int32)) (v := (.int i0)) X125 hx hZ e125 V_ex ⟨by decide, by decide⟩ rfl (g := (mkF m 183 #[.val (.int i0), .val (.int i1), .val (.int i2), .val (.int i3), .val (.int i4), .val (.int i5), .val (.int (4 : Int32)), .val (.int (1 : Int32)), .val (.ref ex), .val (.ref s1), .val (.int i1), .val (.ref r1), .val (.int (1 : Int32))] [(.int (0 : Int32)), (.ref ex), (.ref r0)])) rfl rfl (Or.inl ⟨rfl, rfl⟩) (hb hby at_183)) ?_
      show Fin1 p e below s (rm0Q Z i0 i1 i2 i3 i4 i5 h0 n0) room_1.cells room_1.slots (T125.setTop (mkF m 184 #[.val (.int i0), .val (.int i1), .val (.int i2), .val (.int i3), .val (.int i4), .val (.int i5), .val (.int (4 : Int32)), .val (.int (1 : Int32)), .val (.ref ex), .val (.ref s1), .val (.int i1), .val (.ref r1), .val (.int (1 : Int32))] [(.int i0), (.ref r0)]))
      obtain ⟨v126, T126, h126, L126, X126, e126, hQ126, st126⟩ := own_static X125 hx hZ hown (hw _ (List.mem_of_getElem? (i := 67) rfl)) (hw _ (List.mem_of_getElem? (i := 68) rfl)) (hw _ (List.mem_of_getElem? (i := 69) rfl)) (hw _ (List.mem_of_getElem? (i := 70) rfl)) (by decide) (rmEq l Z a0 hw r0 i0 h120 n0 Z0 E_r0 V_r0) e125 (g := (mkF m 184 #[.val (.int i0), .val (.int i1), .val (.int i2), .val (.int i3), .val (.int i4), .val (.int i5), .val (.int (4 : Int32)), .val (.int (1 : Int32)), .val (.ref ex), .val (.ref s1), .val (.int i1), .val (.ref r1), .val (.int (1 : Int32))] [(.int i0), (.ref r0)])) rfl (by rw [hml]; rfl) (argsL := [(.ref r0), (.int i0)]) (rest := []) (lenOf pd_16 rfl) rfl (W := 0) (by show 2 * 0 + _ ≤ _; exact Nat.le_of_eq rfl) (hb hby at_184) (by decide) (by decide) (by decide) (by decide)
      obtain ⟨rfl, N126q, hh126⟩ := hQ126
      have N126 := Fr.app N124 N126q
      rw [hh126] at e126
      refine own_st st126 ?_
      show Fin1 p e below s (rm0Q Z i0 i1 i2 i3 i4 i5 h0 n0) room_1.cells room_1.slots (T126.setTop (mkF m 187 #[.val (.int i0), .val (.int i1), .val (.int i2), .val (.int i3), .val (.int i4), .val (.int i5), .val (.int (4 : Int32)), .val (.int (1 : Int32)), .val (.ref ex), .val (.ref s1), .val (.int i1), .val (.ref r1), .val (.int (1 : Int32))] [(.int (1 : Int32))]))
      refine own_st (fun wt wk => XS.ifNo X126.here hx rfl (hb hby at_187) rfl ((if0 _ _).trans (feq (by decide)).1) wk) ?_
      show Fin1 p e below s (rm0Q Z i0 i1 i2 i3 i4 i5 h0 n0) room_1.cells room_1.slots (T126.setTop (mkF m 190 #[.val (.int i0), .val (.int i1), .val (.int i2), .val (.int i3), .val (.int i4), .val (.int i5), .val (.int (4 : Int32)), .val (.int (1 : Int32)), .val (.ref ex), .val (.ref s1), .val (.int i1), .val (.ref r1), .val (.int (1 : Int32))] []))
      refine own_st (fun wt wk => XS.iconst X126.here hx rfl (hb hby at_190) (XS.goto X126.here hx rfl (pc0 := 191) (pc' := 195) rfl (hb hby at_191) (by decide) (by decide) (XS.istore X126.here hx rfl (hb hby at_195) rfl (l' := #[.val (.int i0), .val (.int i1), .val (.int i2), .val (.int i3), .val (.int i4), .val (.int i5), .val (.int (4 : Int32)), .val (.int (1 : Int32)), .val (.ref ex), .val (.ref s1), .val (.int i1), .val (.ref r1), .val (.int (1 : Int32))]) rfl (XS.iload X126.here hx rfl (hb hby at_197) rfl (XS.iconst X126.here hx rfl (hb hby at_199) wk))))) ?_
      show Fin1 p e below s (rm0Q Z i0 i1 i2 i3 i4 i5 h0 n0) room_1.cells room_1.slots (T126.setTop (mkF m 200 #[.val (.int i0), .val (.int i1), .val (.int i2), .val (.int i3), .val (.int i4), .val (.int i5), .val (.int (4 : Int32)), .val (.int (1 : Int32)), .val (.ref ex), .val (.ref s1), .val (.int i1), .val (.ref r1), .val (.int (1 : Int32))] [(.int (1 : Int32)), (.int (4 : Int32))]))
      refine own_st (fun wt wk => XS.icmpNo X126.here hx rfl (hb hby at_200) rfl (tlt (by decide)).2.2.2 wk) ?_
      show Fin1 p e below s (rm0Q Z i0 i1 i2 i3 i4 i5 h0 n0) room_1.cells room_1.slots (T126.setTop (mkF m 203 #[.val (.int i0), .val (.int i1), .val (.int i2), .val (.int i3), .val (.int i4), .val (.int i5), .val (.int (4 : Int32)), .val (.int (1 : Int32)), .val (.ref ex), .val (.ref s1), .val (.int i1), .val (.ref r1), .val (.int (1 : Int32))] []))
      refine own_st (fun wt wk => XS.iload X126.here hx rfl (hb hby at_203) rfl wk) ?_
      show Fin1 p e below s (rm0Q Z i0 i1 i2 i3 i4 i5 h0 n0) room_1.cells room_1.slots (T126.setTop (mkF m 205 #[.val (.int i0), .val (.int i1), .val (.int i2), .val (.int i3), .val (.int i4), .val (.int i5), .val (.int (4 : Int32)), .val (.int (1 : Int32)), .val (.ref ex), .val (.ref s1), .val (.int i1), .val (.ref r1), .val (.int (1 : Int32))] [(.int (1 : Int32))]))
      refine own_st (fun wt wk => XS.ifNo X126.here hx rfl (hb hby at_205) rfl ((if0 _ _).trans (feq (by decide)).1) wk) ?_
      show Fin1 p e below s (rm0Q Z i0 i1 i2 i3 i4 i5 h0 n0) room_1.cells room_1.slots (T126.setTop (mkF m 208 #[.val (.int i0), .val (.int i1), .val (.int i2), .val (.int i3), .val (.int i4), .val (.int i5), .val (.int (4 : Int32)), .val (.int (1 : Int32)), .val (.ref ex), .val (.ref s1), .val (.int i1), .val (.ref r1), .val (.int (1 : Int32))] []))
      refine own_st (fun wt wk => XS.aload X126.here hx rfl (hb hby at_208) rfl rfl (XS.iconst X126.here hx rfl (hb hby at_210) wk)) ?_
      show Fin1 p e below s (rm0Q Z i0 i1 i2 i3 i4 i5 h0 n0) room_1.cells room_1.slots (T126.setTop (mkF m 211 #[.val (.int i0), .val (.int i1), .val (.int i2), .val (.int i3), .val (.int i4), .val (.int i5), .val (.int (4 : Int32)), .val (.int (1 : Int32)), .val (.ref ex), .val (.ref s1), .val (.int i1), .val (.ref r1), .val (.int (1 : Int32))] [(.int (1 : Int32)), (.ref s1)]))
      obtain ⟨v127, T127, h127, L127, X127, e127, hQ127, st127⟩ := own_virtual X126 hx hZ hown (hw _ (List.mem_of_getElem? (i := 83) rfl)) (hw _ (List.mem_of_getElem? (i := 84) rfl)) (hw _ (List.mem_of_getElem? (i := 86) rfl)) (hw _ (List.mem_of_getElem? (i := 85) rfl)) (hw _ (List.mem_of_getElem? (i := 87) rfl)) (hw _ (List.mem_of_getElem? (i := 4) rfl)) (by decide) (a := s1) E_s1 (rmG41 l Z a0 hw s1 q0 q1 re h120 n0 Z0 E_s1 Ss1 Hs1 Nq0 Eq1) e126 (g := (mkF m 211 #[.val (.int i0), .val (.int i1), .val (.int i2), .val (.int i3), .val (.int i4), .val (.int i5), .val (.int (4 : Int32)), .val (.int (1 : Int32)), .val (.ref ex), .val (.ref s1), .val (.int i1), .val (.ref r1), .val (.int (1 : Int32))] [(.int (1 : Int32)), (.ref s1)])) rfl (by rw [hml]; rfl) (argsL := [(.int (1 : Int32))]) (rest := []) (lenOf pd_17 rfl) rfl (W := 0) (by show 2 * 0 + _ ≤ _; exact Nat.le_of_eq rfl) (hb hby at_211) (by decide) (by decide) (by decide) (by decide)
      obtain ⟨rfl, N127q, hh127⟩ := hQ127
      have N127 := Fr.app N126 N127q
      rw [hh127] at e127
      refine own_st st127 ?_
      show Fin1 p e below s (rm0Q Z i0 i1 i2 i3 i4 i5 h0 n0) room_1.cells room_1.slots (T127.setTop (mkF m 214 #[.val (.int i0), .val (.int i1), .val (.int i2), .val (.int i3), .val (.int i4), .val (.int i5), .val (.int (4 : Int32)), .val (.int (1 : Int32)), .val (.ref ex), .val (.ref s1), .val (.int i1), .val (.ref r1), .val (.int (1 : Int32))] [(.ref re)]))
      obtain ⟨T128, X128, e128, st128⟩ := castY X127 hx hZ hown (hw _ (List.mem_of_getElem? (i := 65) rfl)) e127 (Ins.self E_re) (g := (mkF m 214 #[.val (.int i0), .val (.int i1), .val (.int i2), .val (.int i3), .val (.int i4), .val (.int i5), .val (.int (4 : Int32)), .val (.int (1 : Int32)), .val (.ref ex), .val (.ref s1), .val (.int i1), .val (.ref r1), .val (.int (1 : Int32))] [(.ref re)])) rfl rfl (hb hby at_214)
      refine own_st st128 ?_
      show Fin1 p e below s (rm0Q Z i0 i1 i2 i3 i4 i5 h0 n0) room_1.cells room_1.slots (T128.setTop (mkF m 217 #[.val (.int i0), .val (.int i1), .val (.int i2), .val (.int i3), .val (.int i4), .val (.int i5), .val (.int (4 : Int32)), .val (.int (1 : Int32)), .val (.ref ex), .val (.ref s1), .val (.int i1), .val (.ref r1), .val (.int (1 : Int32))] [(.ref re)]))
      refine own_st (fun wt wk => XS.aload X128.here hx rfl (hb hby at_217) rfl rfl (XS.iconst X128.here hx rfl (hb hby at_219) wk)) ?_
      show Fin1 p e below s (rm0Q Z i0 i1 i2 i3 i4 i5 h0 n0) room_1.cells room_1.slots (T128.setTop (mkF m 220 #[.val (.int i0), .val (.int i1), .val (.int i2), .val (.int i3), .val (.int i4), .val (.int i5), .val (.int (4 : Int32)), .val (.int (1 : Int32)), .val (.ref ex), .val (.ref s1), .val (.int i1), .val (.ref r1), .val (.int (1 : Int32))] [(.int (1 : Int32)), (.ref ex), (.ref re)]))
      refine own_st (own_ld (j := (1 : Int32)) (v := (.int i4)) X128 hx hZ e128 V_ex ⟨by decide, by decide⟩ rfl (g := (mkF m 220 #[.val (.int i0), .val (.int i1), .val (.int i2), .val (.int i3), .val (.int i4), .val (.int i5), .val (.int (4 : Int32)), .val (.int (1 : Int32)), .val (.ref ex), .val (.ref s1), .val (.int i1), .val (.ref r1), .val (.int (1 : Int32))] [(.int (1 : Int32)), (.ref ex), (.ref re)])) rfl rfl (Or.inl ⟨rfl, rfl⟩) (hb hby at_220)) ?_
      show Fin1 p e below s (rm0Q Z i0 i1 i2 i3 i4 i5 h0 n0) room_1.cells room_1.slots (T128.setTop (mkF m 221 #[.val (.int i0), .val (.int i1), .val (.int i2), .val (.int i3), .val (.int i4), .val (.int i5), .val (.int (4 : Int32)), .val (.int (1 : Int32)), .val (.ref ex), .val (.ref s1), .val (.int i1), .val (.ref r1), .val (.int (1 : Int32))] [(.int i4), (.ref re)]))
      obtain ⟨v129, T129, h129, L129, X129, e129, hQ129, st129⟩ := own_static X128 hx hZ hown (hw _ (List.mem_of_getElem? (i := 67) rfl)) (hw _ (List.mem_of_getElem? (i := 68) rfl)) (hw _ (List.mem_of_getElem? (i := 69) rfl)) (hw _ (List.mem_of_getElem? (i := 70) rfl)) (by decide) (rmEq l Z a0 hw re i4 h120 n0 Z0 E_re V_re) e128 (g := (mkF m 221 #[.val (.int i0), .val (.int i1), .val (.int i2), .val (.int i3), .val (.int i4), .val (.int i5), .val (.int (4 : Int32)), .val (.int (1 : Int32)), .val (.ref ex), .val (.ref s1), .val (.int i1), .val (.ref r1), .val (.int (1 : Int32))] [(.int i4), (.ref re)])) rfl (by rw [hml]; rfl) (argsL := [(.ref re), (.int i4)]) (rest := []) (lenOf pd_16 rfl) rfl (W := 0) (by show 2 * 0 + _ ≤ _; exact Nat.le_of_eq rfl) (hb hby at_221) (by decide) (by decide) (by decide) (by decide)
      obtain ⟨rfl, N129q, hh129⟩ := hQ129
      have N129 := Fr.app N127 N129q
      rw [hh129] at e129
      refine own_st st129 ?_
      show Fin1 p e below s (rm0Q Z i0 i1 i2 i3 i4 i5 h0 n0) room_1.cells room_1.slots (T129.setTop (mkF m 224 #[.val (.int i0), .val (.int i1), .val (.int i2), .val (.int i3), .val (.int i4), .val (.int i5), .val (.int (4 : Int32)), .val (.int (1 : Int32)), .val (.ref ex), .val (.ref s1), .val (.int i1), .val (.ref r1), .val (.int (1 : Int32))] [(.int (1 : Int32))]))
      refine own_st (fun wt wk => XS.ifNo X129.here hx rfl (hb hby at_224) rfl ((if0 _ _).trans (feq (by decide)).1) wk) ?_
      show Fin1 p e below s (rm0Q Z i0 i1 i2 i3 i4 i5 h0 n0) room_1.cells room_1.slots (T129.setTop (mkF m 227 #[.val (.int i0), .val (.int i1), .val (.int i2), .val (.int i3), .val (.int i4), .val (.int i5), .val (.int (4 : Int32)), .val (.int (1 : Int32)), .val (.ref ex), .val (.ref s1), .val (.int i1), .val (.ref r1), .val (.int (1 : Int32))] []))
      refine own_st (fun wt wk => XS.iconst X129.here hx rfl (hb hby at_227) (XS.goto X129.here hx rfl (pc0 := 228) (pc' := 232) rfl (hb hby at_228) (by decide) (by decide) (XS.istore X129.here hx rfl (hb hby at_232) rfl (l' := #[.val (.int i0), .val (.int i1), .val (.int i2), .val (.int i3), .val (.int i4), .val (.int i5), .val (.int (4 : Int32)), .val (.int (1 : Int32)), .val (.ref ex), .val (.ref s1), .val (.int i1), .val (.ref r1), .val (.int (1 : Int32))]) rfl (XS.iload X129.here hx rfl (hb hby at_234) rfl (XS.iconst X129.here hx rfl (hb hby at_236) wk))))) ?_
      show Fin1 p e below s (rm0Q Z i0 i1 i2 i3 i4 i5 h0 n0) room_1.cells room_1.slots (T129.setTop (mkF m 237 #[.val (.int i0), .val (.int i1), .val (.int i2), .val (.int i3), .val (.int i4), .val (.int i5), .val (.int (4 : Int32)), .val (.int (1 : Int32)), .val (.ref ex), .val (.ref s1), .val (.int i1), .val (.ref r1), .val (.int (1 : Int32))] [(.int (2 : Int32)), (.int (4 : Int32))]))
      refine own_st (fun wt wk => XS.icmpNo X129.here hx rfl (hb hby at_237) rfl (tlt (by decide)).2.2.2 wk) ?_
      show Fin1 p e below s (rm0Q Z i0 i1 i2 i3 i4 i5 h0 n0) room_1.cells room_1.slots (T129.setTop (mkF m 240 #[.val (.int i0), .val (.int i1), .val (.int i2), .val (.int i3), .val (.int i4), .val (.int i5), .val (.int (4 : Int32)), .val (.int (1 : Int32)), .val (.ref ex), .val (.ref s1), .val (.int i1), .val (.ref r1), .val (.int (1 : Int32))] []))
      refine own_st (fun wt wk => XS.iload X129.here hx rfl (hb hby at_240) rfl wk) ?_
      show Fin1 p e below s (rm0Q Z i0 i1 i2 i3 i4 i5 h0 n0) room_1.cells room_1.slots (T129.setTop (mkF m 242 #[.val (.int i0), .val (.int i1), .val (.int i2), .val (.int i3), .val (.int i4), .val (.int i5), .val (.int (4 : Int32)), .val (.int (1 : Int32)), .val (.ref ex), .val (.ref s1), .val (.int i1), .val (.ref r1), .val (.int (1 : Int32))] [(.int (1 : Int32))]))
      refine own_st (fun wt wk => XS.ifNo X129.here hx rfl (hb hby at_242) rfl ((if0 _ _).trans (feq (by decide)).1) wk) ?_
      show Fin1 p e below s (rm0Q Z i0 i1 i2 i3 i4 i5 h0 n0) room_1.cells room_1.slots (T129.setTop (mkF m 245 #[.val (.int i0), .val (.int i1), .val (.int i2), .val (.int i3), .val (.int i4), .val (.int i5), .val (.int (4 : Int32)), .val (.int (1 : Int32)), .val (.ref ex), .val (.ref s1), .val (.int i1), .val (.ref r1), .val (.int (1 : Int32))] []))
      refine own_st (fun wt wk => XS.aload X129.here hx rfl (hb hby at_245) rfl rfl (XS.iconst X129.here hx rfl (hb hby at_247) wk)) ?_
      show Fin1 p e below s (rm0Q Z i0 i1 i2 i3 i4 i5 h0 n0) room_1.cells room_1.slots (T129.setTop (mkF m 248 #[.val (.int i0), .val (.int i1), .val (.int i2), .val (.int i3), .val (.int i4), .val (.int i5), .val (.int (4 : Int32)), .val (.int (1 : Int32)), .val (.ref ex), .val (.ref s1), .val (.int i1), .val (.ref r1), .val (.int (1 : Int32))] [(.int (2 : Int32)), (.ref s1)]))
      obtain ⟨v130, T130, h130, L130, X130, e130, hQ130, st130⟩ := own_virtual X129 hx hZ hown (hw _ (List.mem_of_getElem? (i := 83) rfl)) (hw _ (List.mem_of_getElem? (i := 84) rfl)) (hw _ (List.mem_of_getElem? (i := 86) rfl)) (hw _ (List.mem_of_getElem? (i := 85) rfl)) (hw _ (List.mem_of_getElem? (i := 87) rfl)) (hw _ (List.mem_of_getElem? (i := 4) rfl)) (by decide) (a := s1) E_s1 (rmG42 l Z a0 hw s1 q2 q3 r2 h120 n0 Z0 E_s1 Ss1 Ts1 Pq3 Eq2) e129 (g := (mkF m 248 #[.val (.int i0), .val (.int i1), .val (.int i2), .val (.int i3), .val (.int i4), .val (.int i5), .val (.int (4 : Int32)), .val (.int (1 : Int32)), .val (.ref ex), .val (.ref s1), .val (.int i1), .val (.ref r1), .val (.int (1 : Int32))] [(.int (2 : Int32)), (.ref s1)])) rfl (by rw [hml]; rfl) (argsL := [(.int (2 : Int32))]) (rest := []) (lenOf pd_17 rfl) rfl (W := 0) (by show 2 * 0 + _ ≤ _; exact Nat.le_of_eq rfl) (hb hby at_248) (by decide) (by decide) (by decide) (by decide)
      obtain ⟨rfl, N130q, hh130⟩ := hQ130
      have N130 := Fr.app N129 N130q
      rw [hh130] at e130
      refine own_st st130 ?_
      show Fin1 p e below s (rm0Q Z i0 i1 i2 i3 i4 i5 h0 n0) room_1.cells room_1.slots (T130.setTop (mkF m 251 #[.val (.int i0), .val (.int i1), .val (.int i2), .val (.int i3), .val (.int i4), .val (.int i5), .val (.int (4 : Int32)), .val (.int (1 : Int32)), .val (.ref ex), .val (.ref s1), .val (.int i1), .val (.ref r1), .val (.int (1 : Int32))] [(.ref r2)]))
      obtain ⟨T131, X131, e131, st131⟩ := castY X130 hx hZ hown (hw _ (List.mem_of_getElem? (i := 65) rfl)) e130 (Ins.self E_r2) (g := (mkF m 251 #[.val (.int i0), .val (.int i1), .val (.int i2), .val (.int i3), .val (.int i4), .val (.int i5), .val (.int (4 : Int32)), .val (.int (1 : Int32)), .val (.ref ex), .val (.ref s1), .val (.int i1), .val (.ref r1), .val (.int (1 : Int32))] [(.ref r2)])) rfl rfl (hb hby at_251)
      refine own_st st131 ?_
      show Fin1 p e below s (rm0Q Z i0 i1 i2 i3 i4 i5 h0 n0) room_1.cells room_1.slots (T131.setTop (mkF m 254 #[.val (.int i0), .val (.int i1), .val (.int i2), .val (.int i3), .val (.int i4), .val (.int i5), .val (.int (4 : Int32)), .val (.int (1 : Int32)), .val (.ref ex), .val (.ref s1), .val (.int i1), .val (.ref r1), .val (.int (1 : Int32))] [(.ref r2)]))
      refine own_st (fun wt wk => XS.aload X131.here hx rfl (hb hby at_254) rfl rfl (XS.iconst X131.here hx rfl (hb hby at_256) wk)) ?_
      show Fin1 p e below s (rm0Q Z i0 i1 i2 i3 i4 i5 h0 n0) room_1.cells room_1.slots (T131.setTop (mkF m 257 #[.val (.int i0), .val (.int i1), .val (.int i2), .val (.int i3), .val (.int i4), .val (.int i5), .val (.int (4 : Int32)), .val (.int (1 : Int32)), .val (.ref ex), .val (.ref s1), .val (.int i1), .val (.ref r1), .val (.int (1 : Int32))] [(.int (2 : Int32)), (.ref ex), (.ref r2)]))
      refine own_st (own_ld (j := (2 : Int32)) (v := (.int i2)) X131 hx hZ e131 V_ex ⟨by decide, by decide⟩ rfl (g := (mkF m 257 #[.val (.int i0), .val (.int i1), .val (.int i2), .val (.int i3), .val (.int i4), .val (.int i5), .val (.int (4 : Int32)), .val (.int (1 : Int32)), .val (.ref ex), .val (.ref s1), .val (.int i1), .val (.ref r1), .val (.int (1 : Int32))] [(.int (2 : Int32)), (.ref ex), (.ref r2)])) rfl rfl (Or.inl ⟨rfl, rfl⟩) (hb hby at_257)) ?_
      show Fin1 p e below s (rm0Q Z i0 i1 i2 i3 i4 i5 h0 n0) room_1.cells room_1.slots (T131.setTop (mkF m 258 #[.val (.int i0), .val (.int i1), .val (.int i2), .val (.int i3), .val (.int i4), .val (.int i5), .val (.int (4 : Int32)), .val (.int (1 : Int32)), .val (.ref ex), .val (.ref s1), .val (.int i1), .val (.ref r1), .val (.int (1 : Int32))] [(.int i2), (.ref r2)]))
      obtain ⟨v132, T132, h132, L132, X132, e132, hQ132, st132⟩ := own_static X131 hx hZ hown (hw _ (List.mem_of_getElem? (i := 67) rfl)) (hw _ (List.mem_of_getElem? (i := 68) rfl)) (hw _ (List.mem_of_getElem? (i := 69) rfl)) (hw _ (List.mem_of_getElem? (i := 70) rfl)) (by decide) (rmEq l Z a0 hw r2 i2 h120 n0 Z0 E_r2 V_r2) e131 (g := (mkF m 258 #[.val (.int i0), .val (.int i1), .val (.int i2), .val (.int i3), .val (.int i4), .val (.int i5), .val (.int (4 : Int32)), .val (.int (1 : Int32)), .val (.ref ex), .val (.ref s1), .val (.int i1), .val (.ref r1), .val (.int (1 : Int32))] [(.int i2), (.ref r2)])) rfl (by rw [hml]; rfl) (argsL := [(.ref r2), (.int i2)]) (rest := []) (lenOf pd_16 rfl) rfl (W := 0) (by show 2 * 0 + _ ≤ _; exact Nat.le_of_eq rfl) (hb hby at_258) (by decide) (by decide) (by decide) (by decide)
      obtain ⟨rfl, N132q, hh132⟩ := hQ132
      have N132 := Fr.app N130 N132q
      rw [hh132] at e132
      refine own_st st132 ?_
      show Fin1 p e below s (rm0Q Z i0 i1 i2 i3 i4 i5 h0 n0) room_1.cells room_1.slots (T132.setTop (mkF m 261 #[.val (.int i0), .val (.int i1), .val (.int i2), .val (.int i3), .val (.int i4), .val (.int i5), .val (.int (4 : Int32)), .val (.int (1 : Int32)), .val (.ref ex), .val (.ref s1), .val (.int i1), .val (.ref r1), .val (.int (1 : Int32))] [(.int (1 : Int32))]))
      refine own_st (fun wt wk => XS.ifNo X132.here hx rfl (hb hby at_261) rfl ((if0 _ _).trans (feq (by decide)).1) wk) ?_
      show Fin1 p e below s (rm0Q Z i0 i1 i2 i3 i4 i5 h0 n0) room_1.cells room_1.slots (T132.setTop (mkF m 264 #[.val (.int i0), .val (.int i1), .val (.int i2), .val (.int i3), .val (.int i4), .val (.int i5), .val (.int (4 : Int32)), .val (.int (1 : Int32)), .val (.ref ex), .val (.ref s1), .val (.int i1), .val (.ref r1), .val (.int (1 : Int32))] []))
      refine own_st (fun wt wk => XS.iconst X132.here hx rfl (hb hby at_264) (XS.goto X132.here hx rfl (pc0 := 265) (pc' := 269) rfl (hb hby at_265) (by decide) (by decide) (XS.istore X132.here hx rfl (hb hby at_269) rfl (l' := #[.val (.int i0), .val (.int i1), .val (.int i2), .val (.int i3), .val (.int i4), .val (.int i5), .val (.int (4 : Int32)), .val (.int (1 : Int32)), .val (.ref ex), .val (.ref s1), .val (.int i1), .val (.ref r1), .val (.int (1 : Int32))]) rfl (XS.iload X132.here hx rfl (hb hby at_271) rfl (XS.iconst X132.here hx rfl (hb hby at_273) wk))))) ?_
      show Fin1 p e below s (rm0Q Z i0 i1 i2 i3 i4 i5 h0 n0) room_1.cells room_1.slots (T132.setTop (mkF m 274 #[.val (.int i0), .val (.int i1), .val (.int i2), .val (.int i3), .val (.int i4), .val (.int i5), .val (.int (4 : Int32)), .val (.int (1 : Int32)), .val (.ref ex), .val (.ref s1), .val (.int i1), .val (.ref r1), .val (.int (1 : Int32))] [(.int (3 : Int32)), (.int (4 : Int32))]))
      refine own_st (fun wt wk => XS.icmpNo X132.here hx rfl (hb hby at_274) rfl (tlt (by decide)).2.2.2 wk) ?_
      show Fin1 p e below s (rm0Q Z i0 i1 i2 i3 i4 i5 h0 n0) room_1.cells room_1.slots (T132.setTop (mkF m 277 #[.val (.int i0), .val (.int i1), .val (.int i2), .val (.int i3), .val (.int i4), .val (.int i5), .val (.int (4 : Int32)), .val (.int (1 : Int32)), .val (.ref ex), .val (.ref s1), .val (.int i1), .val (.ref r1), .val (.int (1 : Int32))] []))
      refine own_st (fun wt wk => XS.iload X132.here hx rfl (hb hby at_277) rfl wk) ?_
      show Fin1 p e below s (rm0Q Z i0 i1 i2 i3 i4 i5 h0 n0) room_1.cells room_1.slots (T132.setTop (mkF m 279 #[.val (.int i0), .val (.int i1), .val (.int i2), .val (.int i3), .val (.int i4), .val (.int i5), .val (.int (4 : Int32)), .val (.int (1 : Int32)), .val (.ref ex), .val (.ref s1), .val (.int i1), .val (.ref r1), .val (.int (1 : Int32))] [(.int (1 : Int32))]))
      refine own_st (fun wt wk => XS.ifNo X132.here hx rfl (hb hby at_279) rfl ((if0 _ _).trans (feq (by decide)).1) wk) ?_
      show Fin1 p e below s (rm0Q Z i0 i1 i2 i3 i4 i5 h0 n0) room_1.cells room_1.slots (T132.setTop (mkF m 282 #[.val (.int i0), .val (.int i1), .val (.int i2), .val (.int i3), .val (.int i4), .val (.int i5), .val (.int (4 : Int32)), .val (.int (1 : Int32)), .val (.ref ex), .val (.ref s1), .val (.int i1), .val (.ref r1), .val (.int (1 : Int32))] []))
      refine own_st (fun wt wk => XS.aload X132.here hx rfl (hb hby at_282) rfl rfl (XS.iconst X132.here hx rfl (hb hby at_284) wk)) ?_
      show Fin1 p e below s (rm0Q Z i0 i1 i2 i3 i4 i5 h0 n0) room_1.cells room_1.slots (T132.setTop (mkF m 285 #[.val (.int i0), .val (.int i1), .val (.int i2), .val (.int i3), .val (.int i4), .val (.int i5), .val (.int (4 : Int32)), .val (.int (1 : Int32)), .val (.ref ex), .val (.ref s1), .val (.int i1), .val (.ref r1), .val (.int (1 : Int32))] [(.int (3 : Int32)), (.ref s1)]))
      obtain ⟨v133, T133, h133, L133, X133, e133, hQ133, st133⟩ := own_virtual X132 hx hZ hown (hw _ (List.mem_of_getElem? (i := 83) rfl)) (hw _ (List.mem_of_getElem? (i := 84) rfl)) (hw _ (List.mem_of_getElem? (i := 86) rfl)) (hw _ (List.mem_of_getElem? (i := 85) rfl)) (hw _ (List.mem_of_getElem? (i := 87) rfl)) (hw _ (List.mem_of_getElem? (i := 4) rfl)) (by decide) (a := s1) E_s1 (rmG43 l Z a0 hw s1 q3 r3 h120 n0 Z0 E_s1 Ss1 Ts1 Eq3) e132 (g := (mkF m 285 #[.val (.int i0), .val (.int i1), .val (.int i2), .val (.int i3), .val (.int i4), .val (.int i5), .val (.int (4 : Int32)), .val (.int (1 : Int32)), .val (.ref ex), .val (.ref s1), .val (.int i1), .val (.ref r1), .val (.int (1 : Int32))] [(.int (3 : Int32)), (.ref s1)])) rfl (by rw [hml]; rfl) (argsL := [(.int (3 : Int32))]) (rest := []) (lenOf pd_17 rfl) rfl (W := 0) (by show 2 * 0 + _ ≤ _; exact Nat.le_of_eq rfl) (hb hby at_285) (by decide) (by decide) (by decide) (by decide)
      obtain ⟨rfl, N133q, hh133⟩ := hQ133
      have N133 := Fr.app N132 N133q
      rw [hh133] at e133
      refine own_st st133 ?_
      show Fin1 p e below s (rm0Q Z i0 i1 i2 i3 i4 i5 h0 n0) room_1.cells room_1.slots (T133.setTop (mkF m 288 #[.val (.int i0), .val (.int i1), .val (.int i2), .val (.int i3), .val (.int i4), .val (.int i5), .val (.int (4 : Int32)), .val (.int (1 : Int32)), .val (.ref ex), .val (.ref s1), .val (.int i1), .val (.ref r1), .val (.int (1 : Int32))] [(.ref r3)]))
      obtain ⟨T134, X134, e134, st134⟩ := castY X133 hx hZ hown (hw _ (List.mem_of_getElem? (i := 65) rfl)) e133 (Ins.self E_r3) (g := (mkF m 288 #[.val (.int i0), .val (.int i1), .val (.int i2), .val (.int i3), .val (.int i4), .val (.int i5), .val (.int (4 : Int32)), .val (.int (1 : Int32)), .val (.ref ex), .val (.ref s1), .val (.int i1), .val (.ref r1), .val (.int (1 : Int32))] [(.ref r3)])) rfl rfl (hb hby at_288)
      refine own_st st134 ?_
      show Fin1 p e below s (rm0Q Z i0 i1 i2 i3 i4 i5 h0 n0) room_1.cells room_1.slots (T134.setTop (mkF m 291 #[.val (.int i0), .val (.int i1), .val (.int i2), .val (.int i3), .val (.int i4), .val (.int i5), .val (.int (4 : Int32)), .val (.int (1 : Int32)), .val (.ref ex), .val (.ref s1), .val (.int i1), .val (.ref r1), .val (.int (1 : Int32))] [(.ref r3)]))
      refine own_st (fun wt wk => XS.aload X134.here hx rfl (hb hby at_291) rfl rfl (XS.iconst X134.here hx rfl (hb hby at_293) wk)) ?_
      show Fin1 p e below s (rm0Q Z i0 i1 i2 i3 i4 i5 h0 n0) room_1.cells room_1.slots (T134.setTop (mkF m 294 #[.val (.int i0), .val (.int i1), .val (.int i2), .val (.int i3), .val (.int i4), .val (.int i5), .val (.int (4 : Int32)), .val (.int (1 : Int32)), .val (.ref ex), .val (.ref s1), .val (.int i1), .val (.ref r1), .val (.int (1 : Int32))] [(.int (3 : Int32)), (.ref ex), (.ref r3)]))
      refine own_st (own_ld (j := (3 : Int32)) (v := (.int i3)) X134 hx hZ e134 V_ex ⟨by decide, by decide⟩ rfl (g := (mkF m 294 #[.val (.int i0), .val (.int i1), .val (.int i2), .val (.int i3), .val (.int i4), .val (.int i5), .val (.int (4 : Int32)), .val (.int (1 : Int32)), .val (.ref ex), .val (.ref s1), .val (.int i1), .val (.ref r1), .val (.int (1 : Int32))] [(.int (3 : Int32)), (.ref ex), (.ref r3)])) rfl rfl (Or.inl ⟨rfl, rfl⟩) (hb hby at_294)) ?_
      show Fin1 p e below s (rm0Q Z i0 i1 i2 i3 i4 i5 h0 n0) room_1.cells room_1.slots (T134.setTop (mkF m 295 #[.val (.int i0), .val (.int i1), .val (.int i2), .val (.int i3), .val (.int i4), .val (.int i5), .val (.int (4 : Int32)), .val (.int (1 : Int32)), .val (.ref ex), .val (.ref s1), .val (.int i1), .val (.ref r1), .val (.int (1 : Int32))] [(.int i3), (.ref r3)]))
      obtain ⟨v135, T135, h135, L135, X135, e135, hQ135, st135⟩ := own_static X134 hx hZ hown (hw _ (List.mem_of_getElem? (i := 67) rfl)) (hw _ (List.mem_of_getElem? (i := 68) rfl)) (hw _ (List.mem_of_getElem? (i := 69) rfl)) (hw _ (List.mem_of_getElem? (i := 70) rfl)) (by decide) (rmEq l Z a0 hw r3 i3 h120 n0 Z0 E_r3 V_r3) e134 (g := (mkF m 295 #[.val (.int i0), .val (.int i1), .val (.int i2), .val (.int i3), .val (.int i4), .val (.int i5), .val (.int (4 : Int32)), .val (.int (1 : Int32)), .val (.ref ex), .val (.ref s1), .val (.int i1), .val (.ref r1), .val (.int (1 : Int32))] [(.int i3), (.ref r3)])) rfl (by rw [hml]; rfl) (argsL := [(.ref r3), (.int i3)]) (rest := []) (lenOf pd_16 rfl) rfl (W := 0) (by show 2 * 0 + _ ≤ _; exact Nat.le_of_eq rfl) (hb hby at_295) (by decide) (by decide) (by decide) (by decide)
      obtain ⟨rfl, N135q, hh135⟩ := hQ135
      have N135 := Fr.app N133 N135q
      rw [hh135] at e135
      refine own_st st135 ?_
      show Fin1 p e below s (rm0Q Z i0 i1 i2 i3 i4 i5 h0 n0) room_1.cells room_1.slots (T135.setTop (mkF m 298 #[.val (.int i0), .val (.int i1), .val (.int i2), .val (.int i3), .val (.int i4), .val (.int i5), .val (.int (4 : Int32)), .val (.int (1 : Int32)), .val (.ref ex), .val (.ref s1), .val (.int i1), .val (.ref r1), .val (.int (1 : Int32))] [(.int (1 : Int32))]))
      refine own_st (fun wt wk => XS.ifNo X135.here hx rfl (hb hby at_298) rfl ((if0 _ _).trans (feq (by decide)).1) wk) ?_
      show Fin1 p e below s (rm0Q Z i0 i1 i2 i3 i4 i5 h0 n0) room_1.cells room_1.slots (T135.setTop (mkF m 301 #[.val (.int i0), .val (.int i1), .val (.int i2), .val (.int i3), .val (.int i4), .val (.int i5), .val (.int (4 : Int32)), .val (.int (1 : Int32)), .val (.ref ex), .val (.ref s1), .val (.int i1), .val (.ref r1), .val (.int (1 : Int32))] []))
      refine own_st (fun wt wk => XS.iconst X135.here hx rfl (hb hby at_301) (XS.goto X135.here hx rfl (pc0 := 302) (pc' := 306) rfl (hb hby at_302) (by decide) (by decide) (XS.istore X135.here hx rfl (hb hby at_306) rfl (l' := #[.val (.int i0), .val (.int i1), .val (.int i2), .val (.int i3), .val (.int i4), .val (.int i5), .val (.int (4 : Int32)), .val (.int (1 : Int32)), .val (.ref ex), .val (.ref s1), .val (.int i1), .val (.ref r1), .val (.int (1 : Int32))]) rfl (XS.iload X135.here hx rfl (hb hby at_308) rfl wk)))) ?_
      show Fin1 p e below s (rm0Q Z i0 i1 i2 i3 i4 i5 h0 n0) room_1.cells room_1.slots (T135.setTop (mkF m 310 #[.val (.int i0), .val (.int i1), .val (.int i2), .val (.int i3), .val (.int i4), .val (.int i5), .val (.int (4 : Int32)), .val (.int (1 : Int32)), .val (.ref ex), .val (.ref s1), .val (.int i1), .val (.ref r1), .val (.int (1 : Int32))] [(.int (1 : Int32))]))
      exact own_retZ X135 hx hlk hret (hb hby at_310) (z := (1 : Int32)) (by decide) (by rw [e135]; exact ⟨rfl, N135⟩) (by decide) (by decide)
    · show Fin1 p e below s (rm0Q Z i0 i1 i2 i3 i4 i5 h0 n0) room_1.cells room_1.slots (T99.setTop (mkF m 112 #[.val (.int i0), .val (.int i1), .val (.int i2), .val (.int i3), .val (.int i4), .val (.int i5), .val (.int (4 : Int32)), .val (.int (2 : Int32)), .val (.ref ex), .val (.ref s1), .unset, .unset, .unset] [(.int (2 : Int32)), (.ref ex)]))
      refine own_st (own_ld (j := (2 : Int32)) (v := (.int i2)) X99 hx hZ e99 V_ex ⟨by decide, by decide⟩ rfl (g := (mkF m 112 #[.val (.int i0), .val (.int i1), .val (.int i2), .val (.int i3), .val (.int i4), .val (.int i5), .val (.int (4 : Int32)), .val (.int (2 : Int32)), .val (.ref ex), .val (.ref s1), .unset, .unset, .unset] [(.int (2 : Int32)), (.ref ex)])) rfl rfl (Or.inl ⟨rfl, rfl⟩) (hb hby at_112)) ?_
      show Fin1 p e below s (rm0Q Z i0 i1 i2 i3 i4 i5 h0 n0) room_1.cells room_1.slots (T99.setTop (mkF m 113 #[.val (.int i0), .val (.int i1), .val (.int i2), .val (.int i3), .val (.int i4), .val (.int i5), .val (.int (4 : Int32)), .val (.int (2 : Int32)), .val (.ref ex), .val (.ref s1), .unset, .unset, .unset] [(.int i2)]))
      refine own_st (fun wt wk => XS.istore X99.here hx rfl (hb hby at_113) rfl (l' := #[.val (.int i0), .val (.int i1), .val (.int i2), .val (.int i3), .val (.int i4), .val (.int i5), .val (.int (4 : Int32)), .val (.int (2 : Int32)), .val (.ref ex), .val (.ref s1), .val (.int i2), .unset, .unset]) rfl (XS.aload X99.here hx rfl (hb hby at_115) rfl rfl (XS.iload X99.here hx rfl (hb hby at_117) rfl (XS.iload X99.here hx rfl (hb hby at_119) rfl wk)))) ?_
      show Fin1 p e below s (rm0Q Z i0 i1 i2 i3 i4 i5 h0 n0) room_1.cells room_1.slots (T99.setTop (mkF m 121 #[.val (.int i0), .val (.int i1), .val (.int i2), .val (.int i3), .val (.int i4), .val (.int i5), .val (.int (4 : Int32)), .val (.int (2 : Int32)), .val (.ref ex), .val (.ref s1), .val (.int i2), .unset, .unset] [(.int i4), (.int (2 : Int32)), (.ref ex)]))
      obtain ⟨T136, h136, X136, e136, W136, U136, st136⟩ := own_stI (j := (2 : Int32)) X99 hx hZ e99 V_ex ⟨by decide, by decide⟩ 2 rfl (by simp) (g := (mkF m 121 #[.val (.int i0), .val (.int i1), .val (.int i2), .val (.int i3), .val (.int i4), .val (.int i5), .val (.int (4 : Int32)), .val (.int (2 : Int32)), .val (.ref ex), .val (.ref s1), .val (.int i2), .unset, .unset] [(.int i4), (.int (2 : Int32)), (.ref ex)])) rfl rfl (hb hby at_121)
      have N136 := Fr.snoc X136 N99 g_ex
      have Z0 := Nat.le_trans Z0 (Nat.le_of_eq W136.size.symm)
      have O := O.wr W136 g_ex
      have E_s1 := E_s1.wr W136
      have E_r0 := E_r0.wr W136
      have V_r0 := V_r0.other W136 (Or.inl ne_r0_ex)
      have E_q0 := E_q0.wr W136
      have E_r1 := E_r1.wr W136
      have V_r1 := V_r1.other W136 (Or.inl ne_r1_ex)
      have E_q1 := E_q1.wr W136
      have Eq0 := Eq0.other W136 (Or.inl (Ne.symm ne_ex_q0))
      have Pq0 := Pq0.other W136 (Or.inl (Ne.symm ne_ex_q0))
      have Nq0 := Nq0.other W136 (Or.inl (Ne.symm ne_ex_q0))
      have E_r2 := E_r2.wr W136
      have V_r2 := V_r2.other W136 (Or.inl ne_r2_ex)
      have E_q2 := E_q2.wr W136
      have Eq1 := Eq1.other W136 (Or.inl (Ne.symm ne_ex_q1))
      have Pq1 := Pq1.other W136 (Or.inl (Ne.symm ne_ex_q1))
      have Nq1 := Nq1.other W136 (Or.inl (Ne.symm ne_ex_q1))
      have E_r3 := E_r3.wr W136
      have V_r3 := V_r3.other W136 (Or.inl ne_r3_ex)
      have E_q3 := E_q3.wr W136
      have Hs1 := Hs1.other W136 (Or.inl (Ne.symm ne_ex_s1))
      have Ts1 := Ts1.other W136 (Or.inl (Ne.symm ne_ex_s1))
      have Ss1 := Ss1.other W136 (Or.inl (Ne.symm ne_ex_s1))
      have Eq2 := Eq2.other W136 (Or.inl (Ne.symm ne_ex_q2))
      have Pq2 := Pq2.other W136 (Or.inl (Ne.symm ne_ex_q2))
      have Nq2 := Nq2.other W136 (Or.inl (Ne.symm ne_ex_q2))
      have Eq3 := Eq3.other W136 (Or.inl (Ne.symm ne_ex_q3))
      have Pq3 := Pq3.other W136 (Or.inl (Ne.symm ne_ex_q3))
      have Nq3 := Nq3.other W136 (Or.inl (Ne.symm ne_ex_q3))
      have V_ex : Arv Z h136 ex kc1 .int (4 : Int32) [(.int i0), (.int i1), (.int i4), (.int i3)] (.int (0 : Int32)) := U136
      refine own_st st136 ?_
      show Fin1 p e below s (rm0Q Z i0 i1 i2 i3 i4 i5 h0 n0) room_1.cells room_1.slots (T136.setTop (mkF m 122 #[.val (.int i0), .val (.int i1), .val (.int i2), .val (.int i3), .val (.int i4), .val (.int i5), .val (.int (4 : Int32)), .val (.int (2 : Int32)), .val (.ref ex), .val (.ref s1), .val (.int i2), .unset, .unset] []))
      refine own_st (fun wt wk => XS.aload X136.here hx rfl (hb hby at_122) rfl rfl (XS.iload X136.here hx rfl (hb hby at_124) rfl (XS.iload X136.here hx rfl (hb hby at_126) rfl wk))) ?_
      show Fin1 p e below s (rm0Q Z i0 i1 i2 i3 i4 i5 h0 n0) room_1.cells room_1.slots (T136.setTop (mkF m 128 #[.val (.int i0), .val (.int i1), .val (.int i2), .val (.int i3), .val (.int i4), .val (.int i5), .val (.int (4 : Int32)), .val (.int (2 : Int32)), .val (.ref ex), .val (.ref s1), .val (.int i2), .unset, .unset] [(.int i4), (.int (2 : Int32)), (.ref s1)]))
      obtain ⟨v137, T137, h137, L137, X137, e137, hQ137, st137⟩ := own_static X136 hx hZ hown (hw _ (List.mem_of_getElem? (i := 16) rfl)) (hw _ (List.mem_of_getElem? (i := 17) rfl)) (hw _ (List.mem_of_getElem? (i := 18) rfl)) (hw _ (List.mem_of_getElem? (i := 19) rfl)) (by decide) (rmV l Z a0 hw i4 h136 n0 Z0 O hic) e136 (g := (mkF m 128 #[.val (.int i0), .val (.int i1), .val (.int i2), .val (.int i3), .val (.int i4), .val (.int i5), .val (.int (4 : Int32)), .val (.int (2 : Int32)), .val (.ref ex), .val (.ref s1), .val (.int i2), .unset, .unset] [(.int i4), (.int (2 : Int32)), (.ref s1)])) rfl (by rw [hml]; rfl) (argsL := [(.int i4)]) (rest := [(.int (2 : Int32)), (.ref s1)]) (lenOf pd_13 rfl) rfl (W := 2) (by show 2 * 0 + _ ≤ _; exact Nat.le_of_eq rfl) (hb hby at_128) (by decide) (by decide) (by decide) (by decide)
      obtain ⟨re, rfl, N137q, K137, E_re, V_re⟩ := hQ137
      have N137 := Fr.app N136 N137q
      have Z0 := Nat.le_trans Z0 K137.1
      have O := O.keep K137 all0
      have V_ex := V_ex.keep K137 nin0
      have E_s1 := E_s1.keep K137
      have E_r0 := E_r0.keep K137
      have V_r0 := V_r0.keep K137 nin0
      have E_q0 := E_q0.keep K137
      have E_r1 := E_r1.keep K137
      have V_r1 := V_r1.keep K137 nin0
      have E_q1 := E_q1.keep K137
      have Eq0 := Eq0.keep K137 nin0
      have Pq0 := Pq0.keep K137 nin0
      have Nq0 := Nq0.keep K137 nin0
      have E_r2 := E_r2.keep K137
      have V_r2 := V_r2.keep K137 nin0
      have E_q2 := E_q2.keep K137
      have Eq1 := Eq1.keep K137 nin0
      have Pq1 := Pq1.keep K137 nin0
      have Nq1 := Nq1.keep K137 nin0
      have E_r3 := E_r3.keep K137
      have V_r3 := V_r3.keep K137 nin0
      have E_q3 := E_q3.keep K137
      have Hs1 := Hs1.keep K137 nin0
      have Ts1 := Ts1.keep K137 nin0
      have Ss1 := Ss1.keep K137 nin0
      have Eq2 := Eq2.keep K137 nin0
      have Pq2 := Pq2.keep K137 nin0
      have Nq2 := Nq2.keep K137 nin0
      have Eq3 := Eq3.keep K137 nin0
      have Pq3 := Pq3.keep K137 nin0
      have Nq3 := Nq3.keep K137 nin0
      refine own_st st137 ?_
      show Fin1 p e below s (rm0Q Z i0 i1 i2 i3 i4 i5 h0 n0) room_1.cells room_1.slots (T137.setTop (mkF m 131 #[.val (.int i0), .val (.int i1), .val (.int i2), .val (.int i3), .val (.int i4), .val (.int i5), .val (.int (4 : Int32)), .val (.int (2 : Int32)), .val (.ref ex), .val (.ref s1), .val (.int i2), .unset, .unset] [(.ref re), (.int (2 : Int32)), (.ref s1)]))
      have ne_re_ex : re ≠ ex := own_ne_arv E_re (hw _ (List.mem_of_getElem? (i := 89) rfl)) V_ex
      have ne_re_s1 : re ≠ s1 := ne_exa E_re E_s1 (by decide)
      have ne_re_q0 : re ≠ q0 := ne_exa E_re E_q0 (by decide)
      have ne_re_q1 : re ≠ q1 := ne_exa E_re E_q1 (by decide)
      have ne_re_q2 : re ≠ q2 := ne_exa E_re E_q2 (by decide)
      have ne_re_q3 : re ≠ q3 := ne_exa E_re E_q3 (by decide)
      obtain ⟨v138, T138, h138, L138, X138, e138, hQ138, st138⟩ := own_virtual X137 hx hZ hown (hw _ (List.mem_of_getElem? (i := 59) rfl)) (hw _ (List.mem_of_getElem? (i := 60) rfl)) (hw _ (List.mem_of_getElem? (i := 62) rfl)) (hw _ (List.mem_of_getElem? (i := 61) rfl)) (hw _ (List.mem_of_getElem? (i := 63) rfl)) (hw _ (List.mem_of_getElem? (i := 4) rfl)) (by decide) (a := s1) E_s1 (rmT42 l Z a0 hw s1 re q2 q3 r2 (.ref q1) (.ref q3) h137 n0 Z0 g_q2 E_s1 E_q2 Ss1 Ts1 Pq3 Eq2 Pq2 Nq2) e137 (g := (mkF m 131 #[.val (.int i0), .val (.int i1), .val (.int i2), .val (.int i3), .val (.int i4), .val (.int i5), .val (.int (4 : Int32)), .val (.int (2 : Int32)), .val (.ref ex), .val (.ref s1), .val (.int i2), .unset, .unset] [(.ref re), (.int (2 : Int32)), (.ref s1)])) rfl (by rw [hml]; rfl) (argsL := [(.int (2 : Int32)), (.ref re)]) (rest := []) (lenOf pd_15 rfl) rfl (W := 0) (by show 2 * 0 + _ ≤ _; exact Nat.le_of_eq rfl) (hb hby at_131) (by decide) (by decide) (by decide) (by decide)
      obtain ⟨rfl, N138q, K138, Eq2, Pq2, Nq2⟩ := hQ138
      have N138 := Fr.app N137 N138q
      have Z0 := Nat.le_trans Z0 K138.1
      have O := O.keep K138 (allS (P := fun x => n0 ≤ x) g_q2 all0)
      have V_ex := V_ex.keep K138 (ninS ne_ex_q2 nin0)
      have E_s1 := E_s1.keep K138
      have E_r0 := E_r0.keep K138
      have V_r0 := V_r0.keep K138 (ninS ne_r0_q2 nin0)
      have E_q0 := E_q0.keep K138
      have E_r1 := E_r1.keep K138
      have V_r1 := V_r1.keep K138 (ninS ne_r1_q2 nin0)
      have E_q1 := E_q1.keep K138
      have Eq0 := Eq0.keep K138 (ninS ne_q0_q2 nin0)
      have Pq0 := Pq0.keep K138 (ninS ne_q0_q2 nin0)
      have Nq0 := Nq0.keep K138 (ninS ne_q0_q2 nin0)
      have E_r2 := E_r2.keep K138
      have V_r2 := V_r2.keep K138 (ninS ne_r2_q2 nin0)
      have E_q2 := E_q2.keep K138
      have Eq1 := Eq1.keep K138 (ninS ne_q1_q2 nin0)
      have Pq1 := Pq1.keep K138 (ninS ne_q1_q2 nin0)
      have Nq1 := Nq1.keep K138 (ninS ne_q1_q2 nin0)
      have E_r3 := E_r3.keep K138
      have V_r3 := V_r3.keep K138 (ninS ne_r3_q2 nin0)
      have E_q3 := E_q3.keep K138
      have Hs1 := Hs1.keep K138 (ninS ne_s1_q2 nin0)
      have Ts1 := Ts1.keep K138 (ninS ne_s1_q2 nin0)
      have Ss1 := Ss1.keep K138 (ninS ne_s1_q2 nin0)
      have Eq3 := Eq3.keep K138 (ninS (Ne.symm ne_q2_q3) nin0)
      have Pq3 := Pq3.keep K138 (ninS (Ne.symm ne_q2_q3) nin0)
      have Nq3 := Nq3.keep K138 (ninS (Ne.symm ne_q2_q3) nin0)
      have E_re := E_re.keep K138
      have V_re := V_re.keep K138 (ninS ne_re_q2 nin0)
      refine own_st st138 ?_
      show Fin1 p e below s (rm0Q Z i0 i1 i2 i3 i4 i5 h0 n0) room_1.cells room_1.slots (T138.setTop (mkF m 134 #[.val (.int i0), .val (.int i1), .val (.int i2), .val (.int i3), .val (.int i4), .val (.int i5), .val (.int (4 : Int32)), .val (.int (2 : Int32)), .val (.ref ex), .val (.ref s1), .val (.int i2), .unset, .unset] [(.ref r2)]))
      obtain ⟨T139, X139, e139, st139⟩ := castY X138 hx hZ hown (hw _ (List.mem_of_getElem? (i := 65) rfl)) e138 (Ins.self E_r2) (g := (mkF m 134 #[.val (.int i0), .val (.int i1), .val (.int i2), .val (.int i3), .val (.int i4), .val (.int i5), .val (.int (4 : Int32)), .val (.int (2 : Int32)), .val (.ref ex), .val (.ref s1), .val (.int i2), .unset, .unset] [(.ref r2)])) rfl rfl (hb hby at_134)
      refine own_st st139 ?_
      show Fin1 p e below s (rm0Q Z i0 i1 i2 i3 i4 i5 h0 n0) room_1.cells room_1.slots (T139.setTop (mkF m 137 #[.val (.int i0), .val (.int i1), .val (.int i2), .val (.int i3), .val (.int i4), .val (.int i5), .val (.int (4 : Int32)), .val (.int (2 : Int32)), .val (.ref ex), .val (.ref s1), .val (.int i2), .unset, .unset] [(.ref r2)]))
      refine own_st (fun wt wk => XS.astore X139.here hx rfl (hb hby at_137) rfl rfl (l' := #[.val (.int i0), .val (.int i1), .val (.int i2), .val (.int i3), .val (.int i4), .val (.int i5), .val (.int (4 : Int32)), .val (.int (2 : Int32)), .val (.ref ex), .val (.ref s1), .val (.int i2), .val (.ref r2), .unset]) rfl (XS.aload X139.here hx rfl (hb hby at_139) rfl rfl (XS.iload X139.here hx rfl (hb hby at_141) rfl wk))) ?_
      show Fin1 p e below s (rm0Q Z i0 i1 i2 i3 i4 i5 h0 n0) room_1.cells room_1.slots (T139.setTop (mkF m 143 #[.val (.int i0), .val (.int i1), .val (.int i2), .val (.int i3), .val (.int i4), .val (.int i5), .val (.int (4 : Int32)), .val (.int (2 : Int32)), .val (.ref ex), .val (.ref s1), .val (.int i2), .val (.ref r2), .unset] [(.int i2), (.ref r2)]))
      obtain ⟨v140, T140, h140, L140, X140, e140, hQ140, st140⟩ := own_static X139 hx hZ hown (hw _ (List.mem_of_getElem? (i := 67) rfl)) (hw _ (List.mem_of_getElem? (i := 68) rfl)) (hw _ (List.mem_of_getElem? (i := 69) rfl)) (hw _ (List.mem_of_getElem? (i := 70) rfl)) (by decide) (rmEq l Z a0 hw r2 i2 h138 n0 Z0 E_r2 V_r2) e139 (g := (mkF m 143 #[.val (.int i0), .val (.int i1), .val (.int i2), .val (.int i3), .val (.int i4), .val (.int i5), .val (.int (4 : Int32)), .val (.int (2 : Int32)), .val (.ref ex), .val (.ref s1), .val (.int i2), .val (.ref r2), .unset] [(.int i2), (.ref r2)])) rfl (by rw [hml]; rfl) (argsL := [(.ref r2), (.int i2)]) (rest := []) (lenOf pd_16 rfl) rfl (W := 0) (by show 2 * 0 + _ ≤ _; exact Nat.le_of_eq rfl) (hb hby at_143) (by decide) (by decide) (by decide) (by decide)
      obtain ⟨rfl, N140q, hh140⟩ := hQ140
      have N140 := Fr.app N138 N140q
      rw [hh140] at e140
      refine own_st st140 ?_
      show Fin1 p e below s (rm0Q Z i0 i1 i2 i3 i4 i5 h0 n0) room_1.cells room_1.slots (T140.setTop (mkF m 146 #[.val (.int i0), .val (.int i1), .val (.int i2), .val (.int i3), .val (.int i4), .val (.int i5), .val (.int (4 : Int32)), .val (.int (2 : Int32)), .val (.ref ex), .val (.ref s1), .val (.int i2), .val (.ref r2), .unset] [(.int (1 : Int32))]))
      refine own_st (fun wt wk => XS.ifNo X140.here hx rfl (hb hby at_146) rfl ((if0 _ _).trans (feq (by decide)).1) wk) ?_
      show Fin1 p e below s (rm0Q Z i0 i1 i2 i3 i4 i5 h0 n0) room_1.cells room_1.slots (T140.setTop (mkF m 149 #[.val (.int i0), .val (.int i1), .val (.int i2), .val (.int i3), .val (.int i4), .val (.int i5), .val (.int (4 : Int32)), .val (.int (2 : Int32)), .val (.ref ex), .val (.ref s1), .val (.int i2), .val (.ref r2), .unset] []))
      refine own_st (fun wt wk => XS.aload X140.here hx rfl (hb hby at_149) rfl rfl wk) ?_
      show Fin1 p e below s (rm0Q Z i0 i1 i2 i3 i4 i5 h0 n0) room_1.cells room_1.slots (T140.setTop (mkF m 151 #[.val (.int i0), .val (.int i1), .val (.int i2), .val (.int i3), .val (.int i4), .val (.int i5), .val (.int (4 : Int32)), .val (.int (2 : Int32)), .val (.ref ex), .val (.ref s1), .val (.int i2), .val (.ref r2), .unset] [(.ref s1)]))
      obtain ⟨v141, T141, h141, L141, X141, e141, hQ141, st141⟩ := own_virtual X140 hx hZ hown (hw _ (List.mem_of_getElem? (i := 78) rfl)) (hw _ (List.mem_of_getElem? (i := 79) rfl)) (hw _ (List.mem_of_getElem? (i := 81) rfl)) (hw _ (List.mem_of_getElem? (i := 80) rfl)) (hw _ (List.mem_of_getElem? (i := 82) rfl)) (hw _ (List.mem_of_getElem? (i := 4) rfl)) (by decide) (a := s1) E_s1 (rmZ l Z a0 hw s1 (4 : Int32) h138 n0 Z0 Ss1) e140 (g := (mkF m 151 #[.val (.int i0), .val (.int i1), .val (.int i2), .val (.int i3), .val (.int i4), .val (.int i5), .val (.int (4 : Int32)), .val (.int (2 : Int32)), .val (.ref ex), .val (.ref s1), .val (.int i2), .val (.ref r2), .unset] [(.ref s1)])) rfl (by rw [hml]; rfl) (argsL := []) (rest := []) (lenOf pd_12 rfl) rfl (W := 0) (by show 2 * 0 + _ ≤ _; exact Nat.le_of_eq rfl) (hb hby at_151) (by decide) (by decide) (by decide) (by decide)
      obtain ⟨rfl, N141q, hh141⟩ := hQ141
      have N141 := Fr.app N140 N141q
      rw [hh141] at e141
      refine own_st st141 ?_
      show Fin1 p e below s (rm0Q Z i0 i1 i2 i3 i4 i5 h0 n0) room_1.cells room_1.slots (T141.setTop (mkF m 154 #[.val (.int i0), .val (.int i1), .val (.int i2), .val (.int i3), .val (.int i4), .val (.int i5), .val (.int (4 : Int32)), .val (.int (2 : Int32)), .val (.ref ex), .val (.ref s1), .val (.int i2), .val (.ref r2), .unset] [(.int (4 : Int32))]))
      refine own_st (fun wt wk => XS.iload X141.here hx rfl (hb hby at_154) rfl wk) ?_
      show Fin1 p e below s (rm0Q Z i0 i1 i2 i3 i4 i5 h0 n0) room_1.cells room_1.slots (T141.setTop (mkF m 156 #[.val (.int i0), .val (.int i1), .val (.int i2), .val (.int i3), .val (.int i4), .val (.int i5), .val (.int (4 : Int32)), .val (.int (2 : Int32)), .val (.ref ex), .val (.ref s1), .val (.int i2), .val (.ref r2), .unset] [(.int (4 : Int32)), (.int (4 : Int32))]))
      refine own_st (fun wt wk => XS.icmpNo X141.here hx rfl (hb hby at_156) rfl (teq (by decide)).2 wk) ?_
      show Fin1 p e below s (rm0Q Z i0 i1 i2 i3 i4 i5 h0 n0) room_1.cells room_1.slots (T141.setTop (mkF m 159 #[.val (.int i0), .val (.int i1), .val (.int i2), .val (.int i3), .val (.int i4), .val (.int i5), .val (.int (4 : Int32)), .val (.int (2 : Int32)), .val (.ref ex), .val (.ref s1), .val (.int i2), .val (.ref r2), .unset] []))
      refine own_st (fun wt wk => XS.iconst X141.here hx rfl (hb hby at_159) (XS.goto X141.here hx rfl (pc0 := 160) (pc' := 164) rfl (hb hby at_160) (by decide) (by decide) (XS.istore X141.here hx rfl (hb hby at_164) rfl (l' := #[.val (.int i0), .val (.int i1), .val (.int i2), .val (.int i3), .val (.int i4), .val (.int i5), .val (.int (4 : Int32)), .val (.int (2 : Int32)), .val (.ref ex), .val (.ref s1), .val (.int i2), .val (.ref r2), .val (.int (1 : Int32))]) rfl (XS.iload X141.here hx rfl (hb hby at_166) rfl wk)))) ?_
      show Fin1 p e below s (rm0Q Z i0 i1 i2 i3 i4 i5 h0 n0) room_1.cells room_1.slots (T141.setTop (mkF m 168 #[.val (.int i0), .val (.int i1), .val (.int i2), .val (.int i3), .val (.int i4), .val (.int i5), .val (.int (4 : Int32)), .val (.int (2 : Int32)), .val (.ref ex), .val (.ref s1), .val (.int i2), .val (.ref r2), .val (.int (1 : Int32))] [(.int (1 : Int32))]))
      refine own_st (fun wt wk => XS.ifNo X141.here hx rfl (hb hby at_168) rfl ((if0 _ _).trans (feq (by decide)).1) wk) ?_
      show Fin1 p e below s (rm0Q Z i0 i1 i2 i3 i4 i5 h0 n0) room_1.cells room_1.slots (T141.setTop (mkF m 171 #[.val (.int i0), .val (.int i1), .val (.int i2), .val (.int i3), .val (.int i4), .val (.int i5), .val (.int (4 : Int32)), .val (.int (2 : Int32)), .val (.ref ex), .val (.ref s1), .val (.int i2), .val (.ref r2), .val (.int (1 : Int32))] []))
      refine own_st (fun wt wk => XS.aload X141.here hx rfl (hb hby at_171) rfl rfl (XS.iconst X141.here hx rfl (hb hby at_173) wk)) ?_
      show Fin1 p e below s (rm0Q Z i0 i1 i2 i3 i4 i5 h0 n0) room_1.cells room_1.slots (T141.setTop (mkF m 174 #[.val (.int i0), .val (.int i1), .val (.int i2), .val (.int i3), .val (.int i4), .val (.int i5), .val (.int (4 : Int32)), .val (.int (2 : Int32)), .val (.ref ex), .val (.ref s1), .val (.int i2), .val (.ref r2), .val (.int (1 : Int32))] [(.int (0 : Int32)), (.ref s1)]))
      obtain ⟨v142, T142, h142, L142, X142, e142, hQ142, st142⟩ := own_virtual X141 hx hZ hown (hw _ (List.mem_of_getElem? (i := 83) rfl)) (hw _ (List.mem_of_getElem? (i := 84) rfl)) (hw _ (List.mem_of_getElem? (i := 86) rfl)) (hw _ (List.mem_of_getElem? (i := 85) rfl)) (hw _ (List.mem_of_getElem? (i := 87) rfl)) (hw _ (List.mem_of_getElem? (i := 4) rfl)) (by decide) (a := s1) E_s1 (rmG40 l Z a0 hw s1 q0 r0 h138 n0 Z0 E_s1 Ss1 Hs1 Eq0) e141 (g := (mkF m 174 #[.val (.int i0), .val (.int i1), .val (.int i2), .val (.int i3), .val (.int i4), .val (.int i5), .val (.int (4 : Int32)), .val (.int (2 : Int32)), .val (.ref ex), .val (.ref s1), .val (.int i2), .val (.ref r2), .val (.int (1 : Int32))] [(.int (0 : Int32)), (.ref s1)])) rfl (by rw [hml]; rfl) (argsL := [(.int (0 : Int32))]) (rest := []) (lenOf pd_17 rfl) rfl (W := 0) (by show 2 * 0 + _ ≤ _; exact Nat.le_of_eq rfl) (hb hby at_174) (by decide) (by decide) (by decide) (by decide)
      obtain ⟨rfl, N142q, hh142⟩ := hQ142
      have N142 := Fr.app N141 N142q
      rw [hh142] at e142
      refine own_st st142 ?_
      show Fin1 p e below s (rm0Q Z i0 i1 i2 i3 i4 i5 h0 n0) room_1.cells room_1.slots (T142.setTop (mkF m 177 #[.val (.int i0), .val (.int i1), .val (.int i2), .val (.int i3), .val (.int i4), .val (.int i5), .val (.int (4 : Int32)), .val (.int (2 : Int32)), .val (.ref ex), .val (.ref s1), .val (.int i2), .val (.ref r2), .val (.int (1 : Int32))] [(.ref r0)]))
      obtain ⟨T143, X143, e143, st143⟩ := castY X142 hx hZ hown (hw _ (List.mem_of_getElem? (i := 65) rfl)) e142 (Ins.self E_r0) (g := (mkF m 177 #[.val (.int i0), .val (.int i1), .val (.int i2), .val (.int i3), .val (.int i4), .val (.int i5), .val (.int (4 : Int32)), .val (.int (2 : Int32)), .val (.ref ex), .val (.ref s1), .val (.int i2), .val (.ref r2), .val (.int (1 : Int32))] [(.ref r0)])) rfl rfl (hb hby at_177)
      refine own_st st143 ?_
      show Fin1 p e below s (rm0Q Z i0 i1 i2 i3 i4 i5 h0 n0) room_1.cells room_1.slots (T143.setTop (mkF m 180 #[.val (.int i0), .val (.int i1), .val (.int i2), .val (.int i3), .val (.int i4), .val (.int i5), .val (.int (4 : Int32)), .val (.int (2 : Int32)), .val (.ref ex), .val (.ref s1), .val (.int i2), .val (.ref r2), .val (.int (1 : Int32))] [(.ref r0)]))
      refine own_st (fun wt wk => XS.aload X143.here hx rfl (hb hby at_180) rfl rfl (XS.iconst X143.here hx rfl (hb hby at_182) wk)) ?_
      show Fin1 p e below s (rm0Q Z i0 i1 i2 i3 i4 i5 h0 n0) room_1.cells room_1.slots (T143.setTop (mkF m 183 #[.val (.int i0), .val (.int i1), .val (.int i2), .val (.int i3), .val (.int i4), .val (.int i5), .val (.int (4 : Int32)), .val (.int (2 : Int32)), .val (.ref ex), .val (.ref s1), .val (.int i2), .val (.ref r2), .val (.int (1 : Int32))] [(.int (0 : Int32)), (.ref ex), (.ref r0)]))
      refine own_st (own_ld (j := (0 : Int32)) (v := (.int i0)) X143 hx hZ e143 V_ex ⟨by decide, by decide⟩ rfl (g := (mkF m 183 #[.val (.int i0), .val (.int i1), .val (.int i2), .val (.int i3), .val (.int i4), .val (.int i5), .val (.int (4 : Int32)), .val (.int (2 : Int32)), .val (.ref ex), .val (.ref s1), .val (.int i2), .val (.ref r2), .val (.int (1 : Int32))] [(.int (0 : Int32)), (.ref ex), (.ref r0)])) rfl rfl (Or.inl ⟨rfl, rfl⟩) (hb hby at_183)) ?_
      show Fin1 p e below s (rm0Q Z i0 i1 i2 i3 i4 i5 h0 n0) room_1.cells room_1.slots (T143.setTop (mkF m 184 #[.val (.int i0), .val (.int i1), .val (.int i2), .val (.int i3), .val (.int i4), .val (.int i5), .val (.int (4 : Int32)), .val (.int (2 : Int32)), .val (.ref ex), .val (.ref s1), .val (.int i2), .val (.ref r2), .val (.int (1 : Int32))] [(.int i0), (.ref r0)]))
      obtain ⟨v144, T144, h144, L144, X144, e144, hQ144, st144⟩ := own_static X143 hx hZ hown (hw _ (List.mem_of_getElem? (i := 67) rfl)) (hw _ (List.mem_of_getElem? (i := 68) rfl)) (hw _ (List.mem_of_getElem? (i := 69) rfl)) (hw _ (List.mem_of_getElem? (i := 70) rfl)) (by decide) (rmEq l Z a0 hw r0 i0 h138 n0 Z0 E_r0 V_r0) e143 (g := (mkF m 184 #[.val (.int i0), .val (.int i1), .val (.int i2), .val (.int i3), .val (.int i4), .val (.int i5), .val (.int (4 : Int32)), .val (.int (2 : Int32)), .val (.ref ex), .val (.ref s1), .val (.int i2), .val (.ref r2), .val (.int (1 : Int32))] [(.int i0), (.ref r0)])) rfl (by rw [hml]; rfl) (argsL := [(.ref r0), (.int i0)]) (rest := []) (lenOf pd_16 rfl) rfl (W := 0) (by show 2 * 0 + _ ≤ _; exact Nat.le_of_eq rfl) (hb hby at_184) (by decide) (by decide) (by decide) (by decide)
      obtain ⟨rfl, N144q, hh144⟩ := hQ144
      have N144 := Fr.app N142 N144q
      rw [hh144] at e144
      refine own_st st144 ?_
      show Fin1 p e below s (rm0Q Z i0 i1 i2 i3 i4 i5 h0 n0) room_1.cells room_1.slots (T144.setTop (mkF m 187 #[.val (.int i0), .val (.int i1), .val (.int i2), .val (.int i3), .val (.int i4), .val (.int i5), .val (.int (4 : Int32)), .val (.int (2 : Int32)), .val (.ref ex), .val (.ref s1), .val (.int i2), .val (.ref r2), .val (.int (1 : Int32))] [(.int (1 : Int32))]))
      refine own_st (fun wt wk => XS.ifNo X144.here hx rfl (hb hby at_187) rfl ((if0 _ _).trans (feq (by decide)).1) wk) ?_
      show Fin1 p e below s (rm0Q Z i0 i1 i2 i3 i4 i5 h0 n0) room_1.cells room_1.slots (T144.setTop (mkF m 190 #[.val (.int i0), .val (.int i1), .val (.int i2), .val (.int i3), .val (.int i4), .val (.int i5), .val (.int (4 : Int32)), .val (.int (2 : Int32)), .val (.ref ex), .val (.ref s1), .val (.int i2), .val (.ref r2), .val (.int (1 : Int32))] []))
      refine own_st (fun wt wk => XS.iconst X144.here hx rfl (hb hby at_190) (XS.goto X144.here hx rfl (pc0 := 191) (pc' := 195) rfl (hb hby at_191) (by decide) (by decide) (XS.istore X144.here hx rfl (hb hby at_195) rfl (l' := #[.val (.int i0), .val (.int i1), .val (.int i2), .val (.int i3), .val (.int i4), .val (.int i5), .val (.int (4 : Int32)), .val (.int (2 : Int32)), .val (.ref ex), .val (.ref s1), .val (.int i2), .val (.ref r2), .val (.int (1 : Int32))]) rfl (XS.iload X144.here hx rfl (hb hby at_197) rfl (XS.iconst X144.here hx rfl (hb hby at_199) wk))))) ?_
      show Fin1 p e below s (rm0Q Z i0 i1 i2 i3 i4 i5 h0 n0) room_1.cells room_1.slots (T144.setTop (mkF m 200 #[.val (.int i0), .val (.int i1), .val (.int i2), .val (.int i3), .val (.int i4), .val (.int i5), .val (.int (4 : Int32)), .val (.int (2 : Int32)), .val (.ref ex), .val (.ref s1), .val (.int i2), .val (.ref r2), .val (.int (1 : Int32))] [(.int (1 : Int32)), (.int (4 : Int32))]))
      refine own_st (fun wt wk => XS.icmpNo X144.here hx rfl (hb hby at_200) rfl (tlt (by decide)).2.2.2 wk) ?_
      show Fin1 p e below s (rm0Q Z i0 i1 i2 i3 i4 i5 h0 n0) room_1.cells room_1.slots (T144.setTop (mkF m 203 #[.val (.int i0), .val (.int i1), .val (.int i2), .val (.int i3), .val (.int i4), .val (.int i5), .val (.int (4 : Int32)), .val (.int (2 : Int32)), .val (.ref ex), .val (.ref s1), .val (.int i2), .val (.ref r2), .val (.int (1 : Int32))] []))
      refine own_st (fun wt wk => XS.iload X144.here hx rfl (hb hby at_203) rfl wk) ?_
      show Fin1 p e below s (rm0Q Z i0 i1 i2 i3 i4 i5 h0 n0) room_1.cells room_1.slots (T144.setTop (mkF m 205 #[.val (.int i0), .val (.int i1), .val (.int i2), .val (.int i3), .val (.int i4), .val (.int i5), .val (.int (4 : Int32)), .val (.int (2 : Int32)), .val (.ref ex), .val (.ref s1), .val (.int i2), .val (.ref r2), .val (.int (1 : Int32))] [(.int (1 : Int32))]))
      refine own_st (fun wt wk => XS.ifNo X144.here hx rfl (hb hby at_205) rfl ((if0 _ _).trans (feq (by decide)).1) wk) ?_
      show Fin1 p e below s (rm0Q Z i0 i1 i2 i3 i4 i5 h0 n0) room_1.cells room_1.slots (T144.setTop (mkF m 208 #[.val (.int i0), .val (.int i1), .val (.int i2), .val (.int i3), .val (.int i4), .val (.int i5), .val (.int (4 : Int32)), .val (.int (2 : Int32)), .val (.ref ex), .val (.ref s1), .val (.int i2), .val (.ref r2), .val (.int (1 : Int32))] []))
      refine own_st (fun wt wk => XS.aload X144.here hx rfl (hb hby at_208) rfl rfl (XS.iconst X144.here hx rfl (hb hby at_210) wk)) ?_
      show Fin1 p e below s (rm0Q Z i0 i1 i2 i3 i4 i5 h0 n0) room_1.cells room_1.slots (T144.setTop (mkF m 211 #[.val (.int i0), .val (.int i1), .val (.int i2), .val (.int i3), .val (.int i4), .val (.int i5), .val (.int (4 : Int32)), .val (.int (2 : Int32)), .val (.ref ex), .val (.ref s1), .val (.int i2), .val (.ref r2), .val (.int (1 : Int32))] [(.int (1 : Int32)), (.ref s1)]))
      obtain ⟨v145, T145, h145, L145, X145, e145, hQ145, st145⟩ := own_virtual X144 hx hZ hown (hw _ (List.mem_of_getElem? (i := 83) rfl)) (hw _ (List.mem_of_getElem? (i := 84) rfl)) (hw _ (List.mem_of_getElem? (i := 86) rfl)) (hw _ (List.mem_of_getElem? (i := 85) rfl)) (hw _ (List.mem_of_getElem? (i := 87) rfl)) (hw _ (List.mem_of_getElem? (i := 4) rfl)) (by decide) (a := s1) E_s1 (rmG41 l Z a0 hw s1 q0 q1 r1 h138 n0 Z0 E_s1 Ss1 Hs1 Nq0 Eq1) e144 (g := (mkF m 211 #[.val (.int i0), .val (.int i1), .val (.int i2), .val (.int i3), .val (.int i4), .val (.int i5), .val (.int (4 : Int32)), .val (.int (2 : Int32)), .val (.ref ex), .val (.ref s1), .val (.int i2), .val (.ref r2), .val (.int (1 : Int32))] [(.int (1 : Int32)), (.ref s1)])) rfl (by rw [hml]; rfl) (argsL := [(.int (1 : Int32))]) (rest := []) (lenOf pd_17 rfl) rfl (W := 0) (by show 2 * 0 + _ ≤ _; exact Nat.le_of_eq rfl) (hb hby at_211) (by decide) (by decide) (by decide) (by decide)
      obtain ⟨rfl, N145q, hh145⟩ := hQ145
      have N145 := Fr.app N144 N145q
      rw [hh145] at e145
      refine own_st st145 ?_
      show Fin1 p e below s (rm0Q Z i0 i1 i2 i3 i4 i5 h0 n0) room_1.cells room_1.slots (T145.setTop (mkF m 214 #[.val (.int i0), .val (.int i1), .val (.int i2), .val (.int i3), .val (.int i4), .val (.int i5), .val (.int (4 : Int32)), .val (.int (2 : Int32)), .val (.ref ex), .val (.ref s1), .val (.int i2), .val (.ref r2), .val (.int (1 : Int32))] [(.ref r1)]))
      obtain ⟨T146, X146, e146, st146⟩ := castY X145 hx hZ hown (hw _ (List.mem_of_getElem? (i := 65) rfl)) e145 (Ins.self E_r1) (g := (mkF m 214 #[.val (.int i0), .val (.int i1), .val (.int i2), .val (.int i3), .val (.int i4), .val (.int i5), .val (.int (4 : Int32)), .val (.int (2 : Int32)), .val (.ref ex), .val (.ref s1), .val (.int i2), .val (.ref r2), .val (.int (1 : Int32))] [(.ref r1)])) rfl rfl (hb hby at_214)
      refine own_st st146 ?_
      show Fin1 p e below s (rm0Q Z i0 i1 i2 i3 i4 i5 h0 n0) room_1.cells room_1.slots (T146.setTop (mkF m 217 #[.val (.int i0), .val (.int i1), .val (.int i2), .val (.int i3), .val (.int i4), .val (.int i5), .val (.int (4 : Int32)), .val (.int (2 : Int32)), .val (.ref ex), .val (.ref s1), .val (.int i2), .val (.ref r2), .val (.int (1 : Int32))] [(.ref r1)]))
      refine own_st (fun wt wk => XS.aload X146.here hx rfl (hb hby at_217) rfl rfl (XS.iconst X146.here hx rfl (hb hby at_219) wk)) ?_
      show Fin1 p e below s (rm0Q Z i0 i1 i2 i3 i4 i5 h0 n0) room_1.cells room_1.slots (T146.setTop (mkF m 220 #[.val (.int i0), .val (.int i1), .val (.int i2), .val (.int i3), .val (.int i4), .val (.int i5), .val (.int (4 : Int32)), .val (.int (2 : Int32)), .val (.ref ex), .val (.ref s1), .val (.int i2), .val (.ref r2), .val (.int (1 : Int32))] [(.int (1 : Int32)), (.ref ex), (.ref r1)]))
      refine own_st (own_ld (j := (1 : Int32)) (v := (.int i1)) X146 hx hZ e146 V_ex ⟨by decide, by decide⟩ rfl (g := (mkF m 220 #[.val (.int i0), .val (.int i1), .val (.int i2), .val (.int i3), .val (.int i4), .val (.int i5), .val (.int (4 : Int32)), .val (.int (2 : Int32)), .val (.ref ex), .val (.ref s1), .val (.int i2), .val (.ref r2), .val (.int (1 : Int32))] [(.int (1 : Int32)), (.ref ex), (.ref r1)])) rfl rfl (Or.inl ⟨rfl, rfl⟩) (hb hby at_220)) ?_
      show Fin1 p e below s (rm0Q Z i0 i1 i2 i3 i4 i5 h0 n0) room_1.cells room_1.slots (T146.setTop (mkF m 221 #[.val (.int i0), .val (.int i1), .val (.int i2), .val (.int i3), .val (.int i4), .val (.int i5), .val (.int (4 : Int32)), .val (.int (2 : Int32)), .val (.ref ex), .val (.ref s1), .val (.int i2), .val (.ref r2), .val (.int (1 : Int32))] [(.int i1), (.ref r1)]))
      obtain ⟨v147, T147, h147, L147, X147, e147, hQ147, st147⟩ := own_static X146 hx hZ hown (hw _ (List.mem_of_getElem? (i := 67) rfl)) (hw _ (List.mem_of_getElem? (i := 68) rfl)) (hw _ (List.mem_of_getElem? (i := 69) rfl)) (hw _ (List.mem_of_getElem? (i := 70) rfl)) (by decide) (rmEq l Z a0 hw r1 i1 h138 n0 Z0 E_r1 V_r1) e146 (g := (mkF m 221 #[.val (.int i0), .val (.int i1), .val (.int i2), .val (.int i3), .val (.int i4), .val (.int i5), .val (.int (4 : Int32)), .val (.int (2 : Int32)), .val (.ref ex), .val (.ref s1), .val (.int i2), .val (.ref r2), .val (.int (1 : Int32))] [(.int i1), (.ref r1)])) rfl (by rw [hml]; rfl) (argsL := [(.ref r1), (.int i1)]) (rest := []) (lenOf pd_16 rfl) rfl (W := 0) (by show 2 * 0 + _ ≤ _; exact Nat.le_of_eq rfl) (hb hby at_221) (by decide) (by decide) (by decide) (by decide)
      obtain ⟨rfl, N147q, hh147⟩ := hQ147
      have N147 := Fr.app N145 N147q
      rw [hh147] at e147
      refine own_st st147 ?_
      show Fin1 p e below s (rm0Q Z i0 i1 i2 i3 i4 i5 h0 n0) room_1.cells room_1.slots (T147.setTop (mkF m 224 #[.val (.int i0), .val (.int i1), .val (.int i2), .val (.int i3), .val (.int i4), .val (.int i5), .val (.int (4 : Int32)), .val (.int (2 : Int32)), .val (.ref ex), .val (.ref s1), .val (.int i2), .val (.ref r2), .val (.int (1 : Int32))] [(.int (1 : Int32))]))
      refine own_st (fun wt wk => XS.ifNo X147.here hx rfl (hb hby at_224) rfl ((if0 _ _).trans (feq (by decide)).1) wk) ?_
      show Fin1 p e below s (rm0Q Z i0 i1 i2 i3 i4 i5 h0 n0) room_1.cells room_1.slots (T147.setTop (mkF m 227 #[.val (.int i0), .val (.int i1), .val (.int i2), .val (.int i3), .val (.int i4), .val (.int i5), .val (.int (4 : Int32)), .val (.int (2 : Int32)), .val (.ref ex), .val (.ref s1), .val (.int i2), .val (.ref r2), .val (.int (1 : Int32))] []))
      refine own_st (fun wt wk => XS.iconst X147.here hx rfl (hb hby at_227) (XS.goto X147.here hx rfl (pc0 := 228) (pc' := 232) rfl (hb hby at_228) (by decide) (by decide) (XS.istore X147.here hx rfl (hb hby at_232) rfl (l' := #[.val (.int i0), .val (.int i1), .val (.int i2), .val (.int i3), .val (.int i4), .val (.int i5), .val (.int (4 : Int32)), .val (.int (2 : Int32)), .val (.ref ex), .val (.ref s1), .val (.int i2), .val (.ref r2), .val (.int (1 : Int32))]) rfl (XS.iload X147.here hx rfl (hb hby at_234) rfl (XS.iconst X147.here hx rfl (hb hby at_236) wk))))) ?_
      show Fin1 p e below s (rm0Q Z i0 i1 i2 i3 i4 i5 h0 n0) room_1.cells room_1.slots (T147.setTop (mkF m 237 #[.val (.int i0), .val (.int i1), .val (.int i2), .val (.int i3), .val (.int i4), .val (.int i5), .val (.int (4 : Int32)), .val (.int (2 : Int32)), .val (.ref ex), .val (.ref s1), .val (.int i2), .val (.ref r2), .val (.int (1 : Int32))] [(.int (2 : Int32)), (.int (4 : Int32))]))
      refine own_st (fun wt wk => XS.icmpNo X147.here hx rfl (hb hby at_237) rfl (tlt (by decide)).2.2.2 wk) ?_
      show Fin1 p e below s (rm0Q Z i0 i1 i2 i3 i4 i5 h0 n0) room_1.cells room_1.slots (T147.setTop (mkF m 240 #[.val (.int i0), .val (.int i1), .val (.int i2), .val (.int i3), .val (.int i4), .val (.int i5), .val (.int (4 : Int32)), .val (.int (2 : Int32)), .val (.ref ex), .val (.ref s1), .val (.int i2), .val (.ref r2), .val (.int (1 : Int32))] []))
      refine own_st (fun wt wk => XS.iload X147.here hx rfl (hb hby at_240) rfl wk) ?_
      show Fin1 p e below s (rm0Q Z i0 i1 i2 i3 i4 i5 h0 n0) room_1.cells room_1.slots (T147.setTop (mkF m 242 #[.val (.int i0), .val (.int i1), .val (.int i2), .val (.int i3), .val (.int i4), .val (.int i5), .val (.int (4 : Int32)), .val (.int (2 : Int32)), .val (.ref ex), .val (.ref s1), .val (.int i2), .val (.ref r2), .val (.int (1 : Int32))] [(.int (1 : Int32))]))
      refine own_st (fun wt wk => XS.ifNo X147.here hx rfl (hb hby at_242) rfl ((if0 _ _).trans (feq (by decide)).1) wk) ?_
      show Fin1 p e below s (rm0Q Z i0 i1 i2 i3 i4 i5 h0 n0) room_1.cells room_1.slots (T147.setTop (mkF m 245 #[.val (.int i0), .val (.int i1), .val (.int i2), .val (.int i3), .val (.int i4), .val (.int i5), .val (.int (4 : Int32)), .val (.int (2 : Int32)), .val (.ref ex), .val (.ref s1), .val (.int i2), .val (.ref r2), .val (.int (1 : Int32))] []))
      refine own_st (fun wt wk => XS.aload X147.here hx rfl (hb hby at_245) rfl rfl (XS.iconst X147.here hx rfl (hb hby at_247) wk)) ?_
      show Fin1 p e below s (rm0Q Z i0 i1 i2 i3 i4 i5 h0 n0) room_1.cells room_1.slots (T147.setTop (mkF m 248 #[.val (.int i0), .val (.int i1), .val (.int i2), .val (.int i3), .val (.int i4), .val (.int i5), .val (.int (4 : Int32)), .val (.int (2 : Int32)), .val (.ref ex), .val (.ref s1), .val (.int i2), .val (.ref r2), .val (.int (1 : Int32))] [(.int (2 : Int32)), (.ref s1)]))
      obtain ⟨v148, T148, h148, L148, X148, e148, hQ148, st148⟩ := own_virtual X147 hx hZ hown (hw _ (List.mem_of_getElem? (i := 83) rfl)) (hw _ (List.mem_of_getElem? (i := 84) rfl)) (hw _ (List.mem_of_getElem? (i := 86) rfl)) (hw _ (List.mem_of_getElem? (i := 85) rfl)) (hw _ (List.mem_of_getElem? (i := 87) rfl)) (hw _ (List.mem_of_getElem? (i := 4) rfl)) (by decide) (a := s1) E_s1 (rmG42 l Z a0 hw s1 q2 q3 re h138 n0 Z0 E_s1 Ss1 Ts1 Pq3 Eq2) e147 (g := (mkF m 248 #[.val (.int i0), .val (.int i1), .val (.int i2), .val (.int i3), .val (.int i4), .val (.int i5), .val (.int (4 : Int32)), .val (.int (2 : Int32)), .val (.ref ex), .val (.ref s1), .val (.int i2), .val (.ref r2), .val (.int (1 : Int32))] [(.int (2 : Int32)), (.ref s1)])) rfl (by rw [hml]; rfl) (argsL := [(.int (2 : Int32))]) (rest := []) (lenOf pd_17 rfl) rfl (W := 0) (by show 2 * 0 + _ ≤ _; exact Nat.le_of_eq rfl) (hb hby at_248) (by decide) (by decide) (by decide) (by decide)
      obtain ⟨rfl, N148q, hh148⟩ := hQ148
      have N148 := Fr.app N147 N148q
      rw [hh148] at e148
      refine own_st st148 ?_
      show Fin1 p e below s (rm0Q Z i0 i1 i2 i3 i4 i5 h0 n0) room_1.cells room_1.slots (T148.setTop (mkF m 251 #[.val (.int i0), .val (.int i1), .val (.int i2), .val (.int i3), .val (.int i4), .val (.int i5), .val (.int (4 : Int32)), .val (.int (2 : Int32)), .val (.ref ex), .val (.ref s1), .val (.int i2), .val (.ref r2), .val (.int (1 : Int32))] [(.ref re)]))
      obtain ⟨T149, X149, e149, st149⟩ := castY X148 hx hZ hown (hw _ (List.mem_of_getElem? (i := 65) rfl)) e148 (Ins.self E_re) (g := (mkF m 251 #[.val (.int i0), .val (.int i1), .val (.int i2), .val (.int i3), .val (.int i4), .val (.int i5), .val (.int (4 : Int32)), .val (.int (2 : Int32)), .val (.ref ex), .val (.ref s1), .val (.int i2), .val (.ref r2), .val (.int (1 : Int32))] [(.ref re)])) rfl rfl (hb hby at_251)
      refine own_st st149 ?_
      show Fin1 p e below s (rm0Q Z i0 i1 i2 i3 i4 i5 h0 n0) room_1.cells room_1.slots (T149.setTop (mkF m 254 #[.val (.int i0), .val (.int i1), .val (.int i2), .val (.int i3), .val (.int i4), .val (.int i5), .val (.int (4 : Int32)), .val (.int (2 : Int32)), .val (.ref ex), .val (.ref s1), .val (.int i2), .val (.ref r2), .val (.int (1 : Int32))] [(.ref re)]))
      refine own_st (fun wt wk => XS.aload X149.here hx rfl (hb hby at_254) rfl rfl (XS.iconst X149.here hx rfl (hb hby at_256) wk)) ?_
      show Fin1 p e below s (rm0Q Z i0 i1 i2 i3 i4 i5 h0 n0) room_1.cells room_1.slots (T149.setTop (mkF m 257 #[.val (.int i0), .val (.int i1), .val (.int i2), .val (.int i3), .val (.int i4), .val (.int i5), .val (.int (4 : Int32)), .val (.int (2 : Int32)), .val (.ref ex), .val (.ref s1), .val (.int i2), .val (.ref r2), .val (.int (1 : Int32))] [(.int (2 : Int32)), (.ref ex), (.ref re)]))
      refine own_st (own_ld (j := (2 : Int32)) (v := (.int i4)) X149 hx hZ e149 V_ex ⟨by decide, by decide⟩ rfl (g := (mkF m 257 #[.val (.int i0), .val (.int i1), .val (.int i2), .val (.int i3), .val (.int i4), .val (.int i5), .val (.int (4 : Int32)), .val (.int (2 : Int32)), .val (.ref ex), .val (.ref s1), .val (.int i2), .val (.ref r2), .val (.int (1 : Int32))] [(.int (2 : Int32)), (.ref ex), (.ref re)])) rfl rfl (Or.inl ⟨rfl, rfl⟩) (hb hby at_257)) ?_
      show Fin1 p e below s (rm0Q Z i0 i1 i2 i3 i4 i5 h0 n0) room_1.cells room_1.slots (T149.setTop (mkF m 258 #[.val (.int i0), .val (.int i1), .val (.int i2), .val (.int i3), .val (.int i4), .val (.int i5), .val (.int (4 : Int32)), .val (.int (2 : Int32)), .val (.ref ex), .val (.ref s1), .val (.int i2), .val (.ref r2), .val (.int (1 : Int32))] [(.int i4), (.ref re)]))
      obtain ⟨v150, T150, h150, L150, X150, e150, hQ150, st150⟩ := own_static X149 hx hZ hown (hw _ (List.mem_of_getElem? (i := 67) rfl)) (hw _ (List.mem_of_getElem? (i := 68) rfl)) (hw _ (List.mem_of_getElem? (i := 69) rfl)) (hw _ (List.mem_of_getElem? (i := 70) rfl)) (by decide) (rmEq l Z a0 hw re i4 h138 n0 Z0 E_re V_re) e149 (g := (mkF m 258 #[.val (.int i0), .val (.int i1), .val (.int i2), .val (.int i3), .val (.int i4), .val (.int i5), .val (.int (4 : Int32)), .val (.int (2 : Int32)), .val (.ref ex), .val (.ref s1), .val (.int i2), .val (.ref r2), .val (.int (1 : Int32))] [(.int i4), (.ref re)])) rfl (by rw [hml]; rfl) (argsL := [(.ref re), (.int i4)]) (rest := []) (lenOf pd_16 rfl) rfl (W := 0) (by show 2 * 0 + _ ≤ _; exact Nat.le_of_eq rfl) (hb hby at_258) (by decide) (by decide) (by decide) (by decide)
      obtain ⟨rfl, N150q, hh150⟩ := hQ150
      have N150 := Fr.app N148 N150q
      rw [hh150] at e150
      refine own_st st150 ?_
      show Fin1 p e below s (rm0Q Z i0 i1 i2 i3 i4 i5 h0 n0) room_1.cells room_1.slots (T150.setTop (mkF m 261 #[.val (.int i0), .val (.int i1), .val (.int i2), .val (.int i3), .val (.int i4), .val (.int i5), .val (.int (4 : Int32)), .val (.int (2 : Int32)), .val (.ref ex), .val (.ref s1), .val (.int i2), .val (.ref r2), .val (.int (1 : Int32))] [(.int (1 : Int32))]))
      refine own_st (fun wt wk => XS.ifNo X150.here hx rfl (hb hby at_261) rfl ((if0 _ _).trans (feq (by decide)).1) wk) ?_
      show Fin1 p e below s (rm0Q Z i0 i1 i2 i3 i4 i5 h0 n0) room_1.cells room_1.slots (T150.setTop (mkF m 264 #[.val (.int i0), .val (.int i1), .val (.int i2), .val (.int i3), .val (.int i4), .val (.int i5), .val (.int (4 : Int32)), .val (.int (2 : Int32)), .val (.ref ex), .val (.ref s1), .val (.int i2), .val (.ref r2), .val (.int (1 : Int32))] []))
      refine own_st (fun wt wk => XS.iconst X150.here hx rfl (hb hby at_264) (XS.goto X150.here hx rfl (pc0 := 265) (pc' := 269) rfl (hb hby at_265) (by decide) (by decide) (XS.istore X150.here hx rfl (hb hby at_269) rfl (l' := #[.val (.int i0), .val (.int i1), .val (.int i2), .val (.int i3), .val (.int i4), .val (.int i5), .val (.int (4 : Int32)), .val (.int (2 : Int32)), .val (.ref ex), .val (.ref s1), .val (.int i2), .val (.ref r2), .val (.int (1 : Int32))]) rfl (XS.iload X150.here hx rfl (hb hby at_271) rfl (XS.iconst X150.here hx rfl (hb hby at_273) wk))))) ?_
      show Fin1 p e below s (rm0Q Z i0 i1 i2 i3 i4 i5 h0 n0) room_1.cells room_1.slots (T150.setTop (mkF m 274 #[.val (.int i0), .val (.int i1), .val (.int i2), .val (.int i3), .val (.int i4), .val (.int i5), .val (.int (4 : Int32)), .val (.int (2 : Int32)), .val (.ref ex), .val (.ref s1), .val (.int i2), .val (.ref r2), .val (.int (1 : Int32))] [(.int (3 : Int32)), (.int (4 : Int32))]))
      refine own_st (fun wt wk => XS.icmpNo X150.here hx rfl (hb hby at_274) rfl (tlt (by decide)).2.2.2 wk) ?_
      show Fin1 p e below s (rm0Q Z i0 i1 i2 i3 i4 i5 h0 n0) room_1.cells room_1.slots (T150.setTop (mkF m 277 #[.val (.int i0), .val (.int i1), .val (.int i2), .val (.int i3), .val (.int i4), .val (.int i5), .val (.int (4 : Int32)), .val (.int (2 : Int32)), .val (.ref ex), .val (.ref s1), .val (.int i2), .val (.ref r2), .val (.int (1 : Int32))] []))
      refine own_st (fun wt wk => XS.iload X150.here hx rfl (hb hby at_277) rfl wk) ?_
      show Fin1 p e below s (rm0Q Z i0 i1 i2 i3 i4 i5 h0 n0) room_1.cells room_1.slots (T150.setTop (mkF m 279 #[.val (.int i0), .val (.int i1), .val (.int i2), .val (.int i3), .val (.int i4), .val (.int i5), .val (.int (4 : Int32)), .val (.int (2 : Int32)), .val (.ref ex), .val (.ref s1), .val (.int i2), .val (.ref r2), .val (.int (1 : Int32))] [(.int (1 : Int32))]))
      refine own_st (fun wt wk => XS.ifNo X150.here hx rfl (hb hby at_279) rfl ((if0 _ _).trans (feq (by decide)).1) wk) ?_
      show Fin1 p e below s (rm0Q Z i0 i1 i2 i3 i4 i5 h0 n0) room_1.cells room_1.slots (T150.setTop (mkF m 282 #[.val (.int i0), .val (.int i1), .val (.int i2), .val (.int i3), .val (.int i4), .val (.int i5), .val (.int (4 : Int32)), .val (.int (2 : Int32)), .val (.ref ex), .val (.ref s1), .val (.int i2), .val (.ref r2), .val (.int (1 : Int32))] []))
      refine own_st (fun wt wk => XS.aload X150.here hx rfl (hb hby at_282) rfl rfl (XS.iconst X150.here hx rfl (hb hby at_284) wk)) ?_
      show Fin1 p e below s (rm0Q Z i0 i1 i2 i3 i4 i5 h0 n0) room_1.cells room_1.slots (T150.setTop (mkF m 285 #[.val (.int i0), .val (.int i1), .val (.int i2), .val (.int i3), .val (.int i4), .val (.int i5), .val (.int (4 : Int32)), .val (.int (2 : Int32)), .val (.ref ex), .val (.ref s1), .val (.int i2), .val (.ref r2), .val (.int (1 : Int32))] [(.int (3 : Int32)), (.ref s1)]))
      obtain ⟨v151, T151, h151, L151, X151, e151, hQ151, st151⟩ := own_virtual X150 hx hZ hown (hw _ (List.mem_of_getElem? (i := 83) rfl)) (hw _ (List.mem_of_getElem? (i := 84) rfl)) (hw _ (List.mem_of_getElem? (i := 86) rfl)) (hw _ (List.mem_of_getElem? (i := 85) rfl)) (hw _ (List.mem_of_getElem? (i := 87) rfl)) (hw _ (List.mem_of_getElem? (i := 4) rfl)) (by decide) (a := s1) E_s1 (rmG43 l Z a0 hw s1 q3 r3 h138 n0 Z0 E_s1 Ss1 Ts1 Eq3) e150 (g := (mkF m 285 #[.val (.int i0), .val (.int i1), .val (.int i2), .val (.int i3), .val (.int i4), .val (.int i5), .val (.int (4 : Int32)), .val (.int (2 : Int32)), .val (.ref ex), .val (.ref s1), .val (.int i2), .val (.ref r2), .val (.int (1 : Int32))] [(.int (3 : Int32)), (.ref s1)])) rfl (by rw [hml]; rfl) (argsL := [(.int (3 : Int32))]) (rest := []) (lenOf pd_17 rfl) rfl (W := 0) (by show 2 * 0 + _ ≤ _; exact Nat.le_of_eq rfl) (hb hby at_285) (by decide) (by decide) (by decide) (by decide)
      obtain ⟨rfl, N151q, hh151⟩ := hQ151
      have N151 := Fr.app N150 N151q
      rw [hh151] at e151
      refine own_st st151 ?_
      show Fin1 p e below s (rm0Q Z i0 i1 i2 i3 i4 i5 h0 n0) room_1.cells room_1.slots (T151.setTop (mkF m 288 #[.val (.int i0), .val (.int i1), .val (.int i2), .val (.int i3), .val (.int i4), .val (.int i5), .val (.int (4 : Int32)), .val (.int (2 : Int32)), .val (.ref ex), .val (.ref s1), .val (.int i2), .val (.ref r2), .val (.int (1 : Int32))] [(.ref r3)]))
      obtain ⟨T152, X152, e152, st152⟩ := castY X151 hx hZ hown (hw _ (List.mem_of_getElem? (i := 65) rfl)) e151 (Ins.self E_r3) (g := (mkF m 288 #[.val (.int i0), .val (.int i1), .val (.int i2), .val (.int i3), .val (.int i4), .val (.int i5), .val (.int (4 : Int32)), .val (.int (2 : Int32)), .val (.ref ex), .val (.ref s1), .val (.int i2), .val (.ref r2), .val (.int (1 : Int32))] [(.ref r3)])) rfl rfl (hb hby at_288)
      refine own_st st152 ?_
      show Fin1 p e below s (rm0Q Z i0 i1 i2 i3 i4 i5 h0 n0) room_1.cells room_1.slots (T152.setTop (mkF m 291 #[.val (.int i0), .val (.int i1), .val (.int i2), .val (.int i3), .val (.int i4), .val (.int i5), .val (.int (4 : Int32)), .val (.int (2 : Int32)), .val (.ref ex), .val (.ref s1), .val (.int i2), .val (.ref r2), .val (.int (1 : Int32))] [(.ref r3)]))
      refine own_st (fun wt wk => XS.aload X152.here hx rfl (hb hby at_291) rfl rfl (XS.iconst X152.here hx rfl (hb hby at_293) wk)) ?_
      show Fin1 p e below s (rm0Q Z i0 i1 i2 i3 i4 i5 h0 n0) room_1.cells room_1.slots (T152.setTop (mkF m 294 #[.val (.int i0), .val (.int i1), .val (.int i2), .val (.int i3), .val (.int i4), .val (.int i5), .val (.int (4 : Int32)), .val (.int (2 : Int32)), .val (.ref ex), .val (.ref s1), .val (.int i2), .val (.ref r2), .val (.int (1 : Int32))] [(.int (3 : Int32)), (.ref ex), (.ref r3)]))
      refine own_st (own_ld (j := (3 : Int32)) (v := (.int i3)) X152 hx hZ e152 V_ex ⟨by decide, by decide⟩ rfl (g := (mkF m 294 #[.val (.int i0), .val (.int i1), .val (.int i2), .val (.int i3), .val (.int i4), .val (.int i5), .val (.int (4 : Int32)), .val (.int (2 : Int32)), .val (.ref ex), .val (.ref s1), .val (.int i2), .val (.ref r2), .val (.int (1 : Int32))] [(.int (3 : Int32)), (.ref ex), (.ref r3)])) rfl rfl (Or.inl ⟨rfl, rfl⟩) (hb hby at_294)) ?_
      show Fin1 p e below s (rm0Q Z i0 i1 i2 i3 i4 i5 h0 n0) room_1.cells room_1.slots (T152.setTop (mkF m 295 #[.val (.int i0), .val (.int i1), .val (.int i2), .val (.int i3), .val (.int i4), .val (.int i5), .val (.int (4 : Int32)), .val (.int (2 : Int32)), .val (.ref ex), .val (.ref s1), .val (.int i2), .val (.ref r2), .val (.int (1 : Int32))] [(.int i3), (.ref r3)]))
      obtain ⟨v153, T153, h153, L153, X153, e153, hQ153, st153⟩ := own_static X152 hx hZ hown (hw _ (List.mem_of_getElem? (i := 67) rfl)) (hw _ (List.mem_of_getElem? (i := 68) rfl)) (hw _ (List.mem_of_getElem? (i := 69) rfl)) (hw _ (List.mem_of_getElem? (i := 70) rfl)) (by decide) (rmEq l Z a0 hw r3 i3 h138 n0 Z0 E_r3 V_r3) e152 (g := (mkF m 295 #[.val (.int i0), .val (.int i1), .val (.int i2), .val (.int i3), .val (.int i4), .val (.int i5), .val (.int (4 : Int32)), .val (.int (2 : Int32)), .val (.ref ex), .val (.ref s1), .val (.int i2), .val (.ref r2), .val (.int (1 : Int32))] [(.int i3), (.ref r3)])) rfl (by rw [hml]; rfl) (argsL := [(.ref r3), (.int i3)]) (rest := []) (lenOf pd_16 rfl) rfl (W := 0) (by show 2 * 0 + _ ≤ _; exact Nat.le_of_eq rfl) (hb hby at_295) (by decide) (by decide) (by decide) (by decide)
      obtain ⟨rfl, N153q, hh153⟩ := hQ153
      have N153 := Fr.app N151 N153q
      rw [hh153] at e153
      refine own_st st153 ?_
      show Fin1 p e below s (rm0Q Z i0 i1 i2 i3 i4 i5 h0 n0) room_1.cells room_1.slots (T153.setTop (mkF m 298 #[.val (.int i0), .val (.int i1), .val (.int i2), .val (.int i3), .val (.int i4), .val (.int i5), .val (.int (4 : Int32)), .val (.int (2 : Int32)), .val (.ref ex), .val (.ref s1), .val (.int i2), .val (.ref r2), .val (.int (1 : Int32))] [(.int (1 : Int32))]))
      refine own_st (fun wt wk => XS.ifNo X153.here hx rfl (hb hby at_298) rfl ((if0 _ _).trans (feq (by decide)).1) wk) ?_
      show Fin1 p e below s (rm0Q Z i0 i1 i2 i3 i4 i5 h0 n0) room_1.cells room_1.slots (T153.setTop (mkF m 301 #[.val (.int i0), .val (.int i1), .val (.int i2), .val (.int i3), .val (.int i4), .val (.int i5), .val (.int (4 : Int32)), .val (.int (2 : Int32)), .val (.ref ex), .val (.ref s1), .val (.int i2), .val (.ref r2), .val (.int (1 : Int32))] []))
      refine own_st (fun wt wk => XS.iconst X153.here hx rfl (hb hby at_301) (XS.goto X153.here hx rfl (pc0 := 302) (pc' := 306) rfl (hb hby at_302) (by decide) (by decide) (XS.istore X153.here hx rfl (hb hby at_306) rfl (l' := #[.val (.int i0), .val (.int i1), .val (.int i2), .val (.int i3), .val (.int i4), .val (.int i5), .val (.int (4 : Int32)), .val (.int (2 : Int32)), .val (.ref ex), .val (.ref s1), .val (.int i2), .val (.ref r2), .val (.int (1 : Int32))]) rfl (XS.iload X153.here hx rfl (hb hby at_308) rfl wk)))) ?_
      show Fin1 p e below s (rm0Q Z i0 i1 i2 i3 i4 i5 h0 n0) room_1.cells room_1.slots (T153.setTop (mkF m 310 #[.val (.int i0), .val (.int i1), .val (.int i2), .val (.int i3), .val (.int i4), .val (.int i5), .val (.int (4 : Int32)), .val (.int (2 : Int32)), .val (.ref ex), .val (.ref s1), .val (.int i2), .val (.ref r2), .val (.int (1 : Int32))] [(.int (1 : Int32))]))
      exact own_retZ X153 hx hlk hret (hb hby at_310) (z := (1 : Int32)) (by decide) (by rw [e153]; exact ⟨rfl, N153⟩) (by decide) (by decide)
    · show Fin1 p e below s (rm0Q Z i0 i1 i2 i3 i4 i5 h0 n0) room_1.cells room_1.slots (T99.setTop (mkF m 112 #[.val (.int i0), .val (.int i1), .val (.int i2), .val (.int i3), .val (.int i4), .val (.int i5), .val (.int (4 : Int32)), .val (.int (3 : Int32)), .val (.ref ex), .val (.ref s1), .unset, .unset, .unset] [(.int (3 : Int32)), (.ref ex)]))
      refine own_st (own_ld (j := (3 : Int32)) (v := (.int i3)) X99 hx hZ e99 V_ex ⟨by decide, by decide⟩ rfl (g := (mkF m 112 #[.val (.int i0), .val (.int i1), .val (.int i2), .val (.int i3), .val (.int i4), .val (.int i5), .val (.int (4 : Int32)), .val (.int (3 : Int32)), .val (.ref ex), .val (.ref s1), .unset, .unset, .unset] [(.int (3 : Int32)), (.ref ex)])) rfl rfl (Or.inl ⟨rfl, rfl⟩) (hb hby at_112)) ?_
      show Fin1 p e below s (rm0Q Z i0 i1 i2 i3 i4 i5 h0 n0) room_1.cells room_1.slots (T99.setTop (mkF m 113 #[.val (.int i0), .val (.int i1), .val (.int i2), .val (.int i3), .val (.int i4), .val (.int i5), .val (.int (4 : Int32)), .val (.int (3 : Int32)), .val (.ref ex), .val (.ref s1), .unset, .unset, .unset] [(.int i3)]))
      refine own_st (fun wt wk => XS.istore X99.here hx rfl (hb hby at_113) rfl (l' := #[.val (.int i0), .val (.int i1), .val (.int i2), .val (.int i3), .val (.int i4), .val (.int i5), .val (.int (4 : Int32)), .val (.int (3 : Int32)), .val (.ref ex), .val (.ref s1), .val (.int i3), .unset, .unset]) rfl (XS.aload X99.here hx rfl (hb hby at_115) rfl rfl (XS.iload X99.here hx rfl (hb hby at_117) rfl (XS.iload X99.here hx rfl (hb hby at_119) rfl wk)))) ?_
      show Fin1 p e below s (rm0Q Z i0 i1 i2 i3 i4 i5 h0 n0) room_1.cells room_1.slots (T99.setTop (mkF m 121 #[.val (.int i0), .val (.int i1), .val (.int i2), .val (.int i3), .val (.int i4), .val (.int i5), .val (.int (4 : Int32)), .val (.int (3 : Int32)), .val (.ref ex), .val (.ref s1), .val (.int i3), .unset, .unset] [(.int i4), (.int (3 : Int32)), (.ref ex)]))
      obtain ⟨T154, h154, X154, e154, W154, U154, st154⟩ := own_stI (j := (3 : Int32)) X99 hx hZ e99 V_ex ⟨by decide, by decide⟩ 3 rfl (by simp) (g := (mkF m 121 #[.val (.int i0), .val (.int i1), .val (.int i2), .val (.int i3), .val (.int i4), .val (.int i5), .val (.int (4 : Int32)), .val (.int (3 : Int32)), .val (.ref ex), .val (.ref s1), .val (.int i3), .unset, .unset] [(.int i4), (.int (3 : Int32)), (.ref ex)])) rfl rfl (hb hby at_121)
      have N154 := Fr.snoc X154 N99 g_ex
      have Z0 := Nat.le_trans Z0 (Nat.le_of_eq W154.size.symm)
      have O := O.wr W154 g_ex
      have E_s1 := E_s1.wr W154
      have E_r0 := E_r0.wr W154
      have V_r0 := V_r0.other W154 (Or.inl ne_r0_ex)
      have E_q0 := E_q0.wr W154
      have E_r1 := E_r1.wr W154
      have V_r1 := V_r1.other W154 (Or.inl ne_r1_ex)
      have E_q1 := E_q1.wr W154
      have Eq0 := Eq0.other W154 (Or.inl (Ne.symm ne_ex_q0))
      have Pq0 := Pq0.other W154 (Or.inl (Ne.symm ne_ex_q0))
      have Nq0 := Nq0.other W154 (Or.inl (Ne.symm ne_ex_q0))
      have E_r2 := E_r2.wr W154
      have V_r2 := V_r2.other W154 (Or.inl ne_r2_ex)
      have E_q2 := E_q2.wr W154
      have Eq1 := Eq1.other W154 (Or.inl (Ne.symm ne_ex_q1))
      have Pq1 := Pq1.other W154 (Or.inl (Ne.symm ne_ex_q1))
      have Nq1 := Nq1.other W154 (Or.inl (Ne.symm ne_ex_q1))
      have E_r3 := E_r3.wr W154
      have V_r3 := V_r3.other W154 (Or.inl ne_r3_ex)
      have E_q3 := E_q3.wr W154
      have Hs1 := Hs1.other W154 (Or.inl (Ne.symm ne_ex_s1))
      have Ts1 := Ts1.other W154 (Or.inl (Ne.symm ne_ex_s1))
      have Ss1 := Ss1.other W154 (Or.inl (Ne.symm ne_ex_s1))
      have Eq2 := Eq2.other W154 (Or.inl (Ne.symm ne_ex_q2))
      have Pq2 := Pq2.other W154 (Or.inl (Ne.symm ne_ex_q2))
      have Nq2 := Nq2.other W154 (Or.inl (Ne.symm ne_ex_q2))
      have Eq3 := Eq3.other W154 (Or.inl (Ne.symm ne_ex_q3))
      have Pq3 := Pq3.other W154 (Or.inl (Ne.symm ne_ex_q3))
      have Nq3 := Nq3.other W154 (Or.inl (Ne.symm ne_ex_q3))
      have V_ex : Arv Z h154 ex kc1 .int (4 : Int32) [(.int i0), (.int i1), (.int i2), (.int i4)] (.int (0 : Int32)) := U154
      refine own_st st154 ?_
      show Fin1 p e below s (rm0Q Z i0 i1 i2 i3 i4 i5 h0 n0) room_1.cells room_1.slots (T154.setTop (mkF m 122 #[.val (.int i0), .val (.int i1), .val (.int i2), .val (.int i3), .val (.int i4), .val (.int i5), .val (.int (4 : Int32)), .val (.int (3 : Int32)), .val (.ref ex), .val (.ref s1), .val (.int i3), .unset, .unset] []))
      refine own_st (fun wt wk => XS.aload X154.here hx rfl (hb hby at_122) rfl rfl (XS.iload X154.here hx rfl (hb hby at_124) rfl (XS.iload X154.here hx rfl (hb hby at_126) rfl wk))) ?_
      show Fin1 p e below s (rm0Q Z i0 i1 i2 i3 i4 i5 h0 n0) room_1.cells room_1.slots (T154.setTop (mkF m 128 #[.val (.int i0), .val (.int i1), .val (.int i2), .val (.int i3), .val (.int i4), .val (.int i5), .val (.int (4 : Int32)), .val (.int (3 : Int32)), .val (.ref ex), .val (.ref s1), .val (.int i3), .unset, .unset] [(.int i4), (.int (3 : Int32)), (.ref s1)]))
      obtain ⟨v155, T155, h155, L155, X155, e155, hQ155, st155⟩ := own_static X154 hx hZ hown (hw _ (List.mem_of_getElem? (i := 16) rfl)) (hw _ (List.mem_of_getElem? (i := 17) rfl)) (hw _ (List.mem_of_getElem? (i := 18) rfl)) (hw _ (List.mem_of_getElem? (i := 19) rfl)) (by decide) (rmV l Z a0 hw i4 h154 n0 Z0 O hic) e154 (g := (mkF m 128 #[.val (.int i0), .val (.int i1), .val (.int i2), .val (.int i3), .val (.int i4), .val (.int i5), .val (.int (4 : Int32)), .val (.int (3 : Int32)), .val (.ref ex), .val (.ref s1), .val (.int i3), .unset, .unset] [(.int i4), (.int (3 : Int32)), (.ref s1)])) rfl (by rw [hml]; rfl) (argsL := [(.int i4)]) (rest := [(.int (3 : Int32)), (.ref s1)]) (lenOf pd_13 rfl) rfl (W := 2) (by show 2 * 0 + _ ≤ _; exact Nat.le_of_eq rfl) (hb hby at_128) (by decide) (by decide) (by decide) (by decide)
      obtain ⟨re, rfl, N155q, K155, E_re, V_re⟩ := hQ155
      have N155 := Fr.app N154 N155q
      have Z0 := Nat.le_trans Z0 K155.1
      have O := O.keep K155 all0
      have V_ex := V_ex.keep K155 nin0
      have E_s1 := E_s1.keep K155
      have E_r0 := E_r0.keep K155
      have V_r0 := V_r0.keep K155 nin0
      have E_q0 := E_q0.keep K155
      have E_r1 := E_r1.keep K155
      have V_r1 := V_r1.keep K155 nin0
      have E_q1 := E_q1.keep K155
      have Eq0 := Eq0.keep K155 nin0
      have Pq0 := Pq0.keep K155 nin0
      have Nq0 := Nq0.keep K155 nin0
      have E_r2 := E_r2.keep K155
      have V_r2 := V_r2.keep K155 nin0
      have E_q2 := E_q2.keep K155
      have Eq1 := Eq1.keep K155 nin0
      have Pq1 := Pq1.keep K155 nin0
      have Nq1 := Nq1.keep K155 nin0
      have E_r3 := E_r3.keep K155
      have V_r3 := V_r3.keep K155 nin0
      have E_q3 := E_q3.keep K155
      have Hs1 := Hs1.keep K155 nin0
      have Ts1 := Ts1.keep K155 nin0
      have Ss1 := Ss1.keep K155 nin0
      have Eq2 := Eq2.keep K155 nin0
      have Pq2 := Pq2.keep K155 nin0
      have Nq2 := Nq2.keep K155 nin0
      have Eq3 := Eq3.keep K155 nin0
      have Pq3 := Pq3.keep K155 nin0
      have Nq3 := Nq3.keep K155 nin0
      refine own_st st155 ?_
      show Fin1 p e below s (rm0Q Z i0 i1 i2 i3 i4 i5 h0 n0) room_1.cells room_1.slots (T155.setTop (mkF m 131 #[.val (.int i0), .val (.int i1), .val (.int i2), .val (.int i3), .val (.int i4), .val (.int i5), .val (.int (4 : Int32)), .val (.int (3 : Int32)), .val (.ref ex), .val (.ref s1), .val (.int i3), .unset, .unset] [(.ref re), (.int (3 : Int32)), (.ref s1)]))
      have ne_re_ex : re ≠ ex := own_ne_arv E_re (hw _ (List.mem_of_getElem? (i := 89) rfl)) V_ex
      have ne_re_s1 : re ≠ s1 := ne_exa E_re E_s1 (by decide)
      have ne_re_q0 : re ≠ q0 := ne_exa E_re E_q0 (by decide)
      have ne_re_q1 : re ≠ q1 := ne_exa E_re E_q1 (by decide)
      have ne_re_q2 : re ≠ q2 := ne_exa E_re E_q2 (by decide)
      have ne_re_q3 : re ≠ q3 := ne_exa E_re E_q3 (by decide)
      obtain ⟨v156, T156, h156, L156, X156, e156, hQ156, st156⟩ := own_virtual X155 hx hZ hown (hw _ (List.mem_of_getElem? (i := 59) rfl)) (hw _ (List.mem_of_getElem? (i := 60) rfl)) (hw _ (List.mem_of_getElem? (i := 62) rfl)) (hw _ (List.mem_of_getElem? (i := 61) rfl)) (hw _ (List.mem_of_getElem? (i := 63) rfl)) (hw _ (List.mem_of_getElem? (i := 4) rfl)) (by decide) (a := s1) E_s1 (rmT43 l Z a0 hw s1 re q3 r3 (.ref q2) .null h155 n0 Z0 g_q3 E_s1 E_q3 Ss1 Ts1 Eq3 Pq3 Nq3) e155 (g := (mkF m 131 #[.val (.int i0), .val (.int i1), .val (.int i2), .val (.int i3), .val (.int i4), .val (.int i5), .val (.int (4 : Int32)), .val (.int (3 : Int32)), .val (.ref ex), .val (.ref s1), .val (.int i3), .unset, .unset] [(.ref re), (.int (3 : Int32)), (.ref s1)])) rfl (by rw [hml]; rfl) (argsL := [(.int (3 : Int32)), (.ref re)]) (rest := []) (lenOf pd_15 rfl) rfl (W := 0) (by show 2 * 0 + _ ≤ _; exact Nat.le_of_eq rfl) (hb hby at_131) (by decide) (by decide) (by decide) (by decide)
      obtain ⟨rfl, N156q, K156, Eq3, Pq3, Nq3⟩ := hQ156
      have N156 := Fr.app N155 N156q
      have Z0 := Nat.le_trans Z0 K156.1
      have O := O.keep K156 (allS (P := fun x => n0 ≤ x) g_q3 all0)
      have V_ex := V_ex.keep K156 (ninS ne_ex_q3 nin0)
      have E_s1 := E_s1.keep K156
      have E_r0 := E_r0.keep K156
      have V_r0 := V_r0.keep K156 (ninS ne_r0_q3 nin0)
      have E_q0 := E_q0.keep K156
      have E_r1 := E_r1.keep K156
      have V_r1 := V_r1.keep K156 (ninS ne_r1_q3 nin0)
      have E_q1 := E_q1.keep K156
      have Eq0 := Eq0.keep K156 (ninS ne_q0_q3 nin0)
      have Pq0 := Pq0.keep K156 (ninS ne_q0_q3 nin0)
      have Nq0 := Nq0.keep K156 (ninS ne_q0_q3 nin0)
      have E_r2 := E_r2.keep K156
      have V_r2 := V_r2.keep K156 (ninS ne_r2_q3 nin0)
      have E_q2 := E_q2.keep K156
      have Eq1 := Eq1.keep K156 (ninS ne_q1_q3 nin0)
      have Pq1 := Pq1.keep K156 (ninS ne_q1_q3 nin0)
      have Nq1 := Nq1.keep K156 (ninS ne_q1_q3 nin0)
      have E_r3 := E_r3.keep K156
      have V_r3 := V_r3.keep K156 (ninS ne_r3_q3 nin0)
      have E_q3 := E_q3.keep K156
      have Hs1 := Hs1.keep K156 (ninS ne_s1_q3 nin0)
      have Ts1 := Ts1.keep K156 (ninS ne_s1_q3 nin0)
      have Ss1 := Ss1.keep K156 (ninS ne_s1_q3 nin0)
      have Eq2 := Eq2.keep K156 (ninS ne_q2_q3 nin0)
      have Pq2 := Pq2.keep K156 (ninS ne_q2_q3 nin0)
      have Nq2 := Nq2.keep K156 (ninS ne_q2_q3 nin0)
      have E_re := E_re.keep K156
      have V_re := V_re.keep K156 (ninS ne_re_q3 nin0)
      refine own_st st156 ?_
      show Fin1 p e below s (rm0Q Z i0 i1 i2 i3 i4 i5 h0 n0) room_1.cells room_1.slots (T156.setTop (mkF m 134 #[.val (.int i0), .val (.int i1), .val (.int i2), .val (.int i3), .val (.int i4), .val (.int i5), .val (.int (4 : Int32)), .val (.int (3 : Int32)), .val (.ref ex), .val (.ref s1), .val (.int i3), .unset, .unset] [(.ref r3)]))
      obtain ⟨T157, X157, e157, st157⟩ := castY X156 hx hZ hown (hw _ (List.mem_of_getElem? (i := 65) rfl)) e156 (Ins.self E_r3) (g := (mkF m 134 #[.val (.int i0), .val (.int i1), .val (.int i2), .val (.int i3), .val (.int i4), .val (.int i5), .val (.int (4 : Int32)), .val (.int (3 : Int32)), .val (.ref ex), .val (.ref s1), .val (.int i3), .unset, .unset] [(.ref r3)])) rfl rfl (hb hby at_134)
      refine own_st st157 ?_
      show Fin1 p e below s (rm0Q Z i0 i1 i2 i3 i4 i5 h0 n0) room_1.cells room_1.slots (T157.setTop (mkF m 137 #[.val (.int i0), .val (.int i1), .val (.int i2), .val (.int i3), .val (.int i4), .val (.int i5), .val (.int (4 : Int32)), .val (.int (3 : Int32)), .val (.ref ex), .val (.ref s1), .val (.int i3), .unset, .unset] [(.ref r3)]))
      refine own_st (fun wt wk => XS.astore X157.here hx rfl (hb hby at_137) rfl rfl (l' := #[.val (.int i0), .val (.int i1), .val (.int i2), .val (.int i3), .val (.int i4), .val (.int i5), .val (.int (4 : Int32)), .val (.int (3 : Int32)), .val (.ref ex), .val (.ref s1), .val (.int i3), .val (.ref r3), .unset]) rfl (XS.aload X157.here hx rfl (hb hby at_139) rfl rfl (XS.iload X157.here hx rfl (hb hby at_141) rfl wk))) ?_
      show Fin1 p e below s (rm0Q Z i0 i1 i2 i3 i4 i5 h0 n0) room_1.cells room_1.slots (T157.setTop (mkF m 143 #[.val (.int i0), .val (.int i1), .val (.int i2), .val (.int i3), .val (.int i4), .val (.int i5), .val (.int (4 : Int32)), .val (.int (3 : Int32)), .val (.ref ex), .val (.ref s1), .val (.int i3), .val (.ref r3), .unset] [(.int i3), (.ref r3)]))
      obtain ⟨v158, T158, h158, L158, X158, e158, hQ158, st158⟩ := own_static X157 hx hZ hown (hw _ (List.mem_of_getElem? (i := 67) rfl)) (hw _ (List.mem_of_getElem? (i := 68) rfl)) (hw _ (List.mem_of_getElem? (i := 69) rfl)) (hw _ (List.mem_of_getElem? (i := 70) rfl)) (by decide) (rmEq l Z a0 hw r3 i3 h156 n0 Z0 E_r3 V_r3) e157 (g := (mkF m 143 #[.val (.int i0), .val (.int i1), .val (.int i2), .val (.int i3), .val (.int i4), .val (.int i5), .val (.int (4 : Int32)), .val (.int (3 : Int32)), .val (.ref ex), .val (.ref s1), .val (.int i3), .val (.ref r3), .unset] [(.int i3), (.ref r3)])) rfl (by rw [hml]; rfl) (argsL := [(.ref r3), (.int i3)]) (rest := []) (lenOf pd_16 rfl) rfl (W := 0) (by show 2 * 0 + _ ≤ _; exact Nat.le_of_eq rfl) (hb hby at_143) (by decide) (by decide) (by decide) (by decide)
      obtain ⟨rfl, N158q, hh158⟩ := hQ158
      have N158 := Fr.app N156 N158q
      rw [hh158] at e158
      refine own_st st158 ?_
      show Fin1 p e below s (rm0Q Z i0 i1 i2 i3 i4 i5 h0 n0) room_1.cells room_1.slots (T158.setTop (mkF m 146 #[.val (.int i0), .val (.int i1), .val (.int i2), .val (.int i3), .val (.int i4), .val (.int i5), .val (.int (4 : Int32)), .val (.int (3 : Int32)), .val (.ref ex), .val (.ref s1), .val (.int i3), .val (.ref r3), .unset] [(.int (1 : Int32))]))
      refine own_st (fun wt wk => XS.ifNo X158.here hx rfl (hb hby at_146) rfl ((if0 _ _).trans (feq (by decide)).1) wk) ?_
      show Fin1 p e below s (rm0Q Z i0 i1 i2 i3 i4 i5 h0 n0) room_1.cells room_1.slots (T158.setTop (mkF m 149 #[.val (.int i0), .val (.int i1), .val (.int i2), .val (.int i3), .val (.int i4), .val (.int i5), .val (.int (4 : Int32)), .val (.int (3 : Int32)), .val (.ref ex), .val (.ref s1), .val (.int i3), .val (.ref r3), .unset] []))
      refine own_st (fun wt wk => XS.aload X158.here hx rfl (hb hby at_149) rfl rfl wk) ?_
      show Fin1 p e below s (rm0Q Z i0 i1 i2 i3 i4 i5 h0 n0) room_1.cells room_1.slots (T158.setTop (mkF m 151 #[.val (.int i0), .val (.int i1), .val (.int i2), .val (.int i3), .val (.int i4), .val (.int i5), .val (.int (4 : Int32)), .val (.int (3 : Int32)), .val (.ref ex), .val (.ref s1), .val (.int i3), .val (.ref r3), .unset] [(.ref s1)]))
      obtain ⟨v159, T159, h159, L159, X159, e159, hQ159, st159⟩ := own_virtual X158 hx hZ hown (hw _ (List.mem_of_getElem? (i := 78) rfl)) (hw _ (List.mem_of_getElem? (i := 79) rfl)) (hw _ (List.mem_of_getElem? (i := 81) rfl)) (hw _ (List.mem_of_getElem? (i := 80) rfl)) (hw _ (List.mem_of_getElem? (i := 82) rfl)) (hw _ (List.mem_of_getElem? (i := 4) rfl)) (by decide) (a := s1) E_s1 (rmZ l Z a0 hw s1 (4 : Int32) h156 n0 Z0 Ss1) e158 (g := (mkF m 151 #[.val (.int i0), .val (.int i1), .val (.int i2), .val (.int i3), .val (.int i4), .val (.int i5), .val (.int (4 : Int32)), .val (.int (3 : Int32)), .val (.ref ex), .val (.ref s1), .val (.int i3), .val (.ref r3), .unset] [(.ref s1)])) rfl (by rw [hml]; rfl) (argsL := []) (rest := []) (lenOf pd_12 rfl) rfl (W := 0) (by show 2 * 0 + _ ≤ _; exact Nat.le_of_eq rfl) (hb hby at_151) (by decide) (by decide) (by decide) (by decide)
      obtain ⟨rfl, N159q, hh159⟩ := hQ159
      have N159 := Fr.app N158 N159q
      rw [hh159] at e159
      refine own_st st159 ?_
      show Fin1 p e below s (rm0Q Z i0 i1 i2 i3 i4 i5 h0 n0) room_1.cells room_1.slots (T159.setTop (mkF m 154 #[.val (.int i0), .val (.int i1), .val (.int i2), .val (.int i3), .val (.int i4), .val (.int i5), .val (.int (4 : Int32)), .val (.int (3 : Int32)), .val (.ref ex), .val (.ref s1), .val (.int i3), .val (.ref r3), .unset] [(.int (4 : Int32))]))
      refine own_st (fun wt wk => XS.iload X159.here hx rfl (hb hby at_154) rfl wk) ?_
      show Fin1 p e below s (rm0Q Z i0 i1 i2 i3 i4 i5 h0 n0) room_1.cells room_1.slots (T159.setTop (mkF m 156 #[.val (.int i0), .val (.int i1), .val (.int i2), .val (.int i3), .val (.int i4), .val (.int i5), .val (.int (4 : Int32)), .val (.int (3 : Int32)), .val (.ref ex), .val (.ref s1), .val (.int i3), .val (.ref r3), .unset] [(.int (4 : Int32)), (.int (4 : Int32))]))
      refine own_st (fun wt wk => XS.icmpNo X159.here hx rfl (hb hby at_156) rfl (teq (by decide)).2 wk) ?_
      show Fin1 p e below s (rm0Q Z i0 i1 i2 i3 i4 i5 h0 n0) room_1.cells room_1.slots (T159.setTop (mkF m 159 #[.val (.int i0), .val (.int i1), .val (.int i2), .val (.int i3), .val (.int i4), .val (.int i5), .val (.int (4 : Int32)), .val (.int (3 : Int32)), .val (.ref ex), .val (.ref s1), .val (.int i3), .val (.ref r3), .unset] []))
      refine own_st (fun wt wk => XS.iconst X159.here hx rfl (hb hby at_159) (XS.goto X159.here hx rfl (pc0 := 160) (pc' := 164) rfl (hb hby at_160) (by decide) (by decide) (XS.istore X159.here hx rfl (hb hby at_164) rfl (l' := #[.val (.int i0), .val (.int i1), .val (.int i2), .val (.int i3), .val (.int i4), .val (.int i5), .val (.int (4 : Int32)), .val (.int (3 : Int32)), .val (.ref ex), .val (.ref s1), .val (.int i3), .val (.ref r3), .val (.int (1 : Int32))]) rfl (XS.iload X159.here hx rfl (hb hby at_166) rfl wk)))) ?_
      show Fin1 p e below s (rm0Q Z i0 i1 i2 i3 i4 i5 h0 n0) room_1.cells room_1.slots (T159.setTop (mkF m 168 #[.val (.int i0), .val (.int i1), .val (.int i2), .val (.int i3), .val (.int i4), .val (.int i5), .val (.int (4 : Int32)), .val (.int (3 : Int32)), .val (.ref ex), .val (.ref s1), .val (.int i3), .val (.ref r3), .val (.int (1 : Int32))] [(.int (1 : Int32))]))
      refine own_st (fun wt wk => XS.ifNo X159.here hx rfl (hb hby at_168) rfl ((if0 _ _).trans (feq (by decide)).1) wk) ?_
      show Fin1 p e below s (rm0Q Z i0 i1 i2 i3 i4 i5 h0 n0) room_1.cells room_1.slots (T159.setTop (mkF m 171 #[.val (.int i0), .val (.int i1), .val (.int i2), .val (.int i3), .val (.int i4), .val (.int i5), .val (.int (4 : Int32)), .val (.int (3 : Int32)), .val (.ref ex), .val (.ref s1), .val (.int i3), .val (.ref r3), .val (.int (1 : Int32))] []))
      refine own_st (fun wt wk => XS.aload X159.here hx rfl (hb hby at_171) rfl rfl (XS.iconst X159.here hx rfl (hb hby at_173) wk)) ?_
      show Fin1 p e below s (rm0Q Z i0 i1 i2 i3 i4 i5 h0 n0) room_1.cells room_1.slots (T159.setTop (mkF m 174 #[.val (.int i0), .val (.int i1), .val (.int i2), .val (.int i3), .val (.int i4), .val (.int i5), .val (.int (4 : Int32)), .val (.int (3 : Int32)), .val (.ref ex), .val (.ref s1), .val (.int i3), .val (.ref r3), .val (.int (1 : Int32))] [(.int (0 : Int32)), (.ref s1)]))
      obtain ⟨v160, T160, h160, L160, X160, e160, hQ160, st160⟩ := own_virtual X159 hx hZ hown (hw _ (List.mem_of_getElem? (i := 83) rfl)) (hw _ (List.mem_of_getElem? (i := 84) rfl)) (hw _ (List.mem_of_getElem? (i := 86) rfl)) (hw _ (List.mem_of_getElem? (i := 85) rfl)) (hw _ (List.mem_of_getElem? (i := 87) rfl)) (hw _ (List.mem_of_getElem? (i := 4) rfl)) (by decide) (a := s1) E_s1 (rmG40 l Z a0 hw s1 q0 r0 h156 n0 Z0 E_s1 Ss1 Hs1 Eq0) e159 (g := (mkF m 174 #[.val (.int i0), .val (.int i1), .val (.int i2), .val (.int i3), .val (.int i4), .val (.int i5), .val (.int (4 : Int32)), .val (.int (3 : Int32)), .val (.ref ex), .val (.ref s1), .val (.int i3), .val (.ref r3), .val (.int (1 : Int32))] [(.int (0 : Int32)), (.ref s1)])) rfl (by rw [hml]; rfl) (argsL := [(.int (0 : Int32))]) (rest := []) (lenOf pd_17 rfl) rfl (W := 0) (by show 2 * 0 + _ ≤ _; exact Nat.le_of_eq rfl) (hb hby at_174) (by decide) (by decide) (by decide) (by decide)
      obtain ⟨rfl, N160q, hh160⟩ := hQ160
      have N160 := Fr.app N159 N160q
      rw [hh160] at e160
      refine own_st st160 ?_
      show Fin1 p e below s (rm0Q Z i0 i1 i2 i3 i4 i5 h0 n0) room_1.cells room_1.slots (T160.setTop (mkF m 177 #[.val (.int i0), .val (.int i1), .val (.int i2), .val (.int i3), .val (.int i4), .val (.int i5), .val (.int (4 : Int32)), .val (.int (3 : Int32)), .val (.ref ex), .val (.ref s1), .val (.int i3), .val (.ref r3), .val (.int (1 : Int32))] [(.ref r0)]))
      obtain ⟨T161, X161, e161, st161⟩ := castY X160 hx hZ hown (hw _ (List.mem_of_getElem? (i := 65) rfl)) e160 (Ins.self E_r0) (g := (mkF m 177 #[.val (.int i0), .val (.int i1), .val (.int i2), .val (.int i3), .val (.int i4), .val (.int i5), .val (.int (4 : Int32)), .val (.int (3 : Int32)), .val (.ref ex), .val (.ref s1), .val (.int i3), .val (.ref r3), .val (.int (1 : Int32))] [(.ref r0)])) rfl rfl (hb hby at_177)
      refine own_st st161 ?_
      show Fin1 p e below s (rm0Q Z i0 i1 i2 i3 i4 i5 h0 n0) room_1.cells room_1.slots (T161.setTop (mkF m 180 #[.val (.int i0), .val (.int i1), .val (.int i2), .val (.int i3), .val (.int i4), .val (.int i5), .val (.int (4 : Int32)), .val (.int (3 : Int32)), .val (.ref ex), .val (.ref s1), .val (.int i3), .val (.ref r3), .val (.int (1 : Int32))] [(.ref r0)]))
      refine own_st (fun wt wk => XS.aload X161.here hx rfl (hb hby at_180) rfl rfl (XS.iconst X161.here hx rfl (hb hby at_182) wk)) ?_
      show Fin1 p e below s (rm0Q Z i0 i1 i2 i3 i4 i5 h0 n0) room_1.cells room_1.slots (T161.setTop (mkF m 183 #[.val (.int i0), .val (.int i1), .val (.int i2), .val (.int i3), .val (.int i4), .val (.int i5), .val (.int (4 : Int32)), .val (.int (3 : Int32)), .val (.ref ex), .val (.ref s1), .val (.int i3), .val (.ref r3), .val (.int (1 : Int32))] [(.int (0 : Int32)), (.ref ex), (.ref r0)]))
      refine own_st (own_ld (j := (0 : Int32)) (v := (.int i0)) X161 hx hZ e161 V_ex ⟨by decide, by decide⟩ rfl (g := (mkF m 183 #[.val (.int i0), .val (.int i1), .val (.int i2), .val (.int i3), .val (.int i4), .val (.int i5), .val (.int (4 : Int32)), .val (.int (3 : Int32)), .val (.ref ex), .val (.ref s1), .val (.int i3), .val (.ref r3), .val (.int (1 : Int32))] [(.int (0 : Int32)), (.ref ex), (.ref r0)])) rfl rfl (Or.inl ⟨rfl, rfl⟩) (hb hby at_183)) ?_
      show Fin1 p e below s (rm0Q Z i0 i1 i2 i3 i4 i5 h0 n0) room_1.cells room_1.slots (T161.setTop (mkF m 184 #[.val (.int i0), .val (.int i1), .val (.int i2), .val (.int i3), .val (.int i4), .val (.int i5), .val (.int (4 : Int32)), .val (.int (3 : Int32)), .val (.ref ex), .val (.ref s1), .val (.int i3), .val (.ref r3), .val (.int (1 : Int32))] [(.int i0), (.ref r0)]))
      obtain ⟨v162, T162, h162, L162, X162, e162, hQ162, st162⟩ := own_static X161 hx hZ hown (hw _ (List.mem_of_getElem? (i := 67) rfl)) (hw _ (List.mem_of_getElem? (i := 68) rfl)) (hw _ (List.mem_of_getElem? (i := 69) rfl)) (hw _ (List.mem_of_getElem? (i := 70) rfl)) (by decide) (rmEq l Z a0 hw r0 i0 h156 n0 Z0 E_r0 V_r0) e161 (g := (mkF m 184 #[.val (.int i0), .val (.int i1), .val (.int i2), .val (.int i3), .val (.int i4), .val (.int i5), .val (.int (4 : Int32)), .val (.int (3 : Int32)), .val (.ref ex), .val (.ref s1), .val (.int i3), .val (.ref r3), .val (.int (1 : Int32))] [(.int i0), (.ref r0)])) rfl (by rw [hml]; rfl) (argsL := [(.ref r0), (.int i0)]) (rest := []) (lenOf pd_16 rfl) rfl (W := 0) (by show 2 * 0 + _ ≤ _; exact Nat.le_of_eq rfl) (hb hby at_184) (by decide) (by decide) (by decide) (by decide)
      obtain ⟨rfl, N162q, hh162⟩ := hQ162
      have N162 := Fr.app N160 N162q
      rw [hh162] at e162
      refine own_st st162 ?_
      show Fin1 p e below s (rm0Q Z i0 i1 i2 i3 i4 i5 h0 n0) room_1.cells room_1.slots (T162.setTop (mkF m 187 #[.val (.int i0), .val (.int i1), .val (.int i2), .val (.int i3), .val (.int i4), .val (.int i5), .val (.int (4 : Int32)), .val (.int (3 : Int32)), .val (.ref ex), .val (.ref s1), .val (.int i3), .val (.ref r3), .val (.int (1 : Int32))] [(.int (1 : Int32))]))
      refine own_st (fun wt wk => XS.ifNo X162.here hx rfl (hb hby at_187) rfl ((if0 _ _).trans (feq (by decide)).1) wk) ?_
      show Fin1 p e below s (rm0Q Z i0 i1 i2 i3 i4 i5 h0 n0) room_1.cells room_1.slots (T162.setTop (mkF m 190 #[.val (.int i0), .val (.int i1), .val (.int i2), .val (.int i3), .val (.int i4), .val (.int i5), .val (.int (4 : Int32)), .val (.int (3 : Int32)), .val (.ref ex), .val (.ref s1), .val (.int i3), .val (.ref r3), .val (.int (1 : Int32))] []))
      refine own_st (fun wt wk => XS.iconst X162.here hx rfl (hb hby at_190) (XS.goto X162.here hx rfl (pc0 := 191) (pc' := 195) rfl (hb hby at_191) (by decide) (by decide) (XS.istore X162.here hx rfl (hb hby at_195) rfl (l' := #[.val (.int i0), .val (.int i1), .val (.int i2), .val (.int i3), .val (.int i4), .val (.int i5), .val (.int (4 : Int32)), .val (.int (3 : Int32)), .val (.ref ex), .val (.ref s1), .val (.int i3), .val (.ref r3), .val (.int (1 : Int32))]) rfl (XS.iload X162.here hx rfl (hb hby at_197) rfl (XS.iconst X162.here hx rfl (hb hby at_199) wk))))) ?_
      show Fin1 p e below s (rm0Q Z i0 i1 i2 i3 i4 i5 h0 n0) room_1.cells room_1.slots (T162.setTop (mkF m 200 #[.val (.int i0), .val (.int i1), .val (.int i2), .val (.int i3), .val (.int i4), .val (.int i5), .val (.int (4 : Int32)), .val (.int (3 : Int32)), .val (.ref ex), .val (.ref s1), .val (.int i3), .val (.ref r3), .val (.int (1 : Int32))] [(.int (1 : Int32)), (.int (4 : Int32))]))
      refine own_st (fun wt wk => XS.icmpNo X162.here hx rfl (hb hby at_200) rfl (tlt (by decide)).2.2.2 wk) ?_
      show Fin1 p e below s (rm0Q Z i0 i1 i2 i3 i4 i5 h0 n0) room_1.cells room_1.slots (T162.setTop (mkF m 203 #[.val (.int i0), .val (.int i1), .val (.int i2), .val (.int i3), .val (.int i4), .val (.int i5), .val (.int (4 : Int32)), .val (.int (3 : Int32)), .val (.ref ex), .val (.ref s1), .val (.int i3), .val (.ref r3), .val (.int (1 : Int32))] []))
      refine own_st (fun wt wk => XS.iload X162.here hx rfl (hb hby at_203) rfl wk) ?_
      show Fin1 p e below s (rm0Q Z i0 i1 i2 i3 i4 i5 h0 n0) room_1.cells room_1.slots (T162.setTop (mkF m 205 #[.val (.int i0), .val (.int i1), .val (.int i2), .val (.int i3), .val (.int i4), .val (.int i5), .val (.int (4 : Int32)), .val (.int (3 : Int32)), .val (.ref ex), .val (.ref s1), .val (.int i3), .val (.ref r3), .val (.int (1 : Int32))] [(.int (1 : Int32))]))
      refine own_st (fun wt wk => XS.ifNo X162.here hx rfl (hb hby at_205) rfl ((if0 _ _).trans (feq (by decide)).1) wk) ?_
      show Fin1 p e below s (rm0Q Z i0 i1 i2 i3 i4 i5 h0 n0) room_1.cells room_1.slots (T162.setTop (mkF m 208 #[.val (.int i0), .val (.int i1), .val (.int i2), .val (.int i3), .val (.int i4), .val (.int i5), .val (.int (4 : Int32)), .val (.int (3 : Int32)), .val (.ref ex), .val (.ref s1), .val (.int i3), .val (.ref r3), .val (.int (1 : Int32))] []))
      refine own_st (fun wt wk => XS.aload X162.here hx rfl (hb hby at_208) rfl rfl (XS.iconst X162.here hx rfl (hb hby at_210) wk)) ?_
      show Fin1 p e below s (rm0Q Z i0 i1 i2 i3 i4 i5 h0 n0) room_1.cells room_1.slots (T162.setTop (mkF m 211 #[.val (.int i0), .val (.int i1), .val (.int i2), .val (.int i3), .val (.int i4), .val (.int i5), .val (.int (4 : Int32)), .val (.int (3 : Int32)), .val (.ref ex), .val (.ref s1), .val (.int i3), .val (.ref r3), .val (.int (1 : Int32))] [(.int (1 : Int32)), (.ref s1)]))
      obtain ⟨v163, T163, h163, L163, X163, e163, hQ163, st163⟩ := own_virtual X162 hx hZ hown (hw _ (List.mem_of_getElem? (i := 83) rfl)) (hw _ (List.mem_of_getElem? (i := 84) rfl)) (hw _ (List.mem_of_getElem? (i := 86) rfl)) (hw _ (List.mem_of_getElem? (i := 85) rfl)) (hw _ (List.mem_of_getElem? (i := 87) rfl)) (hw _ (List.mem_of_getElem? (i := 4) rfl)) (by decide) (a := s1) E_s1 (rmG41 l Z a0 hw s1 q0 q1 r1 h156 n0 Z0 E_s1 Ss1 Hs1 Nq0 Eq1) e162 (g := (mkF m 211 #[.val (.int i0), .val (.int i1), .val (.int i2), .val (.int i3), .val (.int i4), .val (.int i5), .val (.int (4 : Int32)), .val (.int (3 : Int32)), .val (.ref ex), .val (.ref s1), .val (.int i3), .val (.ref r3), .val (.int (1 : Int32))] [(.int (1 : Int32)), (.ref s1)])) rfl (by rw [hml]; rfl) (argsL := [(.int (1 : Int32))]) (rest := []) (lenOf pd_17 rfl) rfl (W := 0) (by show 2 * 0 + _ ≤ _; exact Nat.le_of_eq rfl) (hb hby at_211) (by decide) (by decide) (by decide) (by decide)
      obtain ⟨rfl, N163q, hh163⟩ := hQ163
      have N163 := Fr.app N162 N163q
      rw [hh163] at e163
      refine own_st st163 ?_
      show Fin1 p e below s (rm0Q Z i0 i1 i2 i3 i4 i5 h0 n0) room_1.cells room_1.slots (T163.setTop (mkF m 214 #[.val (.int i0), .val (.int i1), .val (.int i2), .val (.int i3), .val (.int i4), .val (.int i5), .val (.int (4 : Int32)), .val (.int (3 : Int32)), .val (.ref ex), .val (.ref s1), .val (.int i3), .val (.ref r3), .val (.int (1 : Int32))] [(.ref r1)]))
      obtain ⟨T164, X164, e164, st164⟩ := castY X163 hx hZ hown (hw _ (List.mem_of_getElem? (i := 65) rfl)) e163 (Ins.self E_r1) (g := (mkF m 214 #[.val (.int i0), .val (.int i1), .val (.int i2), .val (.int i3), .val (.int i4), .val (.int i5), .val (.int (4 : Int32)), .val (.int (3 : Int32)), .val (.ref ex), .val (.ref s1), .val (.int i3), .val (.ref r3), .val (.int (1 : Int32))] [(.ref r1)])) rfl rfl (hb hby at_214)
      refine own_st st164 ?_
      show Fin1 p e below s (rm0Q Z i0 i1 i2 i3 i4 i5 h0 n0) room_1.cells room_1.slots (T164.setTop (mkF m 217 #[.val (.int i0), .val (.int i1), .val (.int i2), .val (.int i3), .val (.int i4), .val (.int i5), .val (.int (4 : Int32)), .val (.int (3 : Int32)), .val (.ref ex), .val (.ref s1), .val (.int i3), .val (.ref r3), .val (.int (1 : Int32))] [(.ref r1)]))
      refine own_st (fun wt wk => XS.aload X164.here hx rfl (hb hby at_217) rfl rfl (XS.iconst X164.here hx rfl (hb hby at_219) wk)) ?_
      show Fin1 p e below s (rm0Q Z i0 i1 i2 i3 i4 i5 h0 n0) room_1.cells room_1.slots (T164.setTop (mkF m 220 #[.val (.int i0), .val (.int i1), .val (.int i2), .val (.int i3), .val (.int i4), .val (.int i5), .val (.int (4 : Int32)), .val (.int (3 : Int32)), .val (.ref ex), .val (.ref s1), .val (.int i3), .val (.ref r3), .val (.int (1 : Int32))] [(.int (1 : Int32)), (.ref ex), (.ref r1)]))
      refine own_st (own_ld (j := (1 : Int32)) (v := (.int i1)) X164 hx hZ e164 V_ex ⟨by decide, by decide⟩ rfl (g := (mkF m 220 #[.val (.int i0), .val (.int i1), .val (.int i2), .val (.int i3), .val (.int i4), .val (.int i5), .val (.int (4 : Int32)), .val (.int (3 : Int32)), .val (.ref ex), .val (.ref s1), .val (.int i3), .val (.ref r3), .val (.int (1 : Int32))] [(.int (1 : Int32)), (.ref ex), (.ref r1)])) rfl rfl (Or.inl ⟨rfl, rfl⟩) (hb hby at_220)) ?_
      show Fin1 p e below s (rm0Q Z i0 i1 i2 i3 i4 i5 h0 n0) room_1.cells room_1.slots (T164.setTop (mkF m 221 #[.val (.int i0), .val (.int i1), .val (.int i2), .val (.int i3), .val (.int i4), .val (.int i5), .val (.int (4 : Int32)), .val (.int (3 : Int32)), .val (.ref ex), .val (.ref s1), .val (.int i3), .val (.ref r3), .val (.int (1 : Int32))] [(.int i1), (.ref r1)]))
      obtain ⟨v165, T165, h165, L165, X165, e165, hQ165, st165⟩ := own_static X164 hx hZ hown (hw _ (List.mem_of_getElem? (i := 67) rfl)) (hw _ (List.mem_of_getElem? (i := 68) rfl)) (hw _ (List.mem_of_getElem? (i := 69) rfl)) (hw _ (List.mem_of_getElem? (i := 70) rfl)) (by decide) (rmEq l Z a0 hw r1 i1 h156 n0 Z0 E_r1 V_r1) e164 (g := (mkF m 221 #[.val (.int i0), .val (.int i1), .val (.int i2), .val (.int i3), .val (.int i4), .val (.int i5), .val (.int (4 : Int32)), .val (.int (3 : Int32)), .val (.ref ex), .val (.ref s1), .val (.int i3), .val (.ref r3), .val (.int (1 : Int32))] [(.int i1), (.ref r1)])) rfl (by rw [hml]; rfl) (argsL := [(.ref r1), (.int i1)]) (rest := []) (lenOf pd_16 rfl) rfl (W := 0) (by show 2 * 0 + _ ≤ _; exact Nat.le_of_eq rfl) (hb hby at_221) (by decide) (by decide) (by decide) (by decide)
      obtain ⟨rfl, N165q, hh165⟩ := hQ165
      have N165 := Fr.app N163 N165q
      rw [hh165] at e165
      refine own_st st165 ?_
      show Fin1 p e below s (rm0Q Z i0 i1 i2 i3 i4 i5 h0 n0) room_1.cells room_1.slots (T165.setTop (mkF m 224 #[.val (.int i0), .val (.int i1), .val (.int i2), .val (.int i3), .val (.int i4), .val (.int i5), .val (.int (4 : Int32)), .val (.int (3 : Int32)), .val (.ref ex), .val (.ref s1), .val (.int i3), .val (.ref r3), .val (.int (1 : Int32))] [(.int (1 : Int32))]))
      refine own_st (fun wt wk => XS.ifNo X165.here hx rfl (hb hby at_224) rfl ((if0 _ _).trans (feq (by decide)).1) wk) ?_
      show Fin1 p e below s (rm0Q Z i0 i1 i2 i3 i4 i5 h0 n0) room_1.cells room_1.slots (T165.setTop (mkF m 227 #[.val (.int i0), .val (.int i1), .val (.int i2), .val (.int i3), .val (.int i4), .val (.int i5), .val (.int (4 : Int32)), .val (.int (3 : Int32)), .val (.ref ex), .val (.ref s1), .val (.int i3), .val (.ref r3), .val (.int (1 : Int32))] []))
      refine own_st (fun wt wk => XS.iconst X165.here hx rfl (hb hby at_227) (XS.goto X165.here hx rfl (pc0 := 228) (pc' := 232) rfl (hb hby at_228) (by decide) (by decide) (XS.istore X165.here hx rfl (hb hby at_232) rfl (l' := #[.val (.int i0), .val (.int i1), .val (.int i2), .val (.int i3), .val (.int i4), .val (.int i5), .val (.int (4 : Int32)), .val (.int (3 : Int32)), .val (.ref ex), .val (.ref s1), .val (.int i3), .val (.ref r3), .val (.int (1 : Int32))]) rfl (XS.iload X165.here hx rfl (hb hby at_234) rfl (XS.iconst X165.here hx rfl (hb hby at_236) wk))))) ?_
      show Fin1 p e below s (rm0Q Z i0 i1 i2 i3 i4 i5 h0 n0) room_1.cells room_1.slots (T165.setTop (mkF m 237 #[.val (.int i0), .val (.int i1), .val (.int i2), .val (.int i3), .val (.int i4), .val (.int i5), .val (.int (4 : Int32)), .val (.int (3 : Int32)), .val (.ref ex), .val (.ref s1), .val (.int i3), .val (.ref r3), .val (.int (1 : Int32))] [(.int (2 : Int32)), (.int (4 : Int32))]))
      refine own_st (fun wt wk => XS.icmpNo X165.here hx rfl (hb hby at_237) rfl (tlt (by decide)).2.2.2 wk) ?_
      show Fin1 p e below s (rm0Q Z i0 i1 i2 i3 i4 i5 h0 n0) room_1.cells room_1.slots (T165.setTop (mkF m 240 #[.val (.int i0), .val (.int i1), .val (.int i2), .val (.int i3), .val (.int i4), .val (.int i5), .val (.int (4 : Int32)), .val (.int (3 : Int32)), .val (.ref ex), .val (.ref s1), .val (.int i3), .val (.ref r3), .val (.int (1 : Int32))] []))
      refine own_st (fun wt wk => XS.iload X165.here hx rfl (hb hby at_240) rfl wk) ?_
      show Fin1 p e below s (rm0Q Z i0 i1 i2 i3 i4 i5 h0 n0) room_1.cells room_1.slots (T165.setTop (mkF m 242 #[.val (.int i0), .val (.int i1), .val (.int i2), .val (.int i3), .val (.int i4), .val (.int i5), .val (.int (4 : Int32)), .val (.int (3 : Int32)), .val (.ref ex), .val (.ref s1), .val (.int i3), .val (.ref r3), .val (.int (1 : Int32))] [(.int (1 : Int32))]))
      refine own_st (fun wt wk => XS.ifNo X165.here hx rfl (hb hby at_242) rfl ((if0 _ _).trans (feq (by decide)).1) wk) ?_
      show Fin1 p e below s (rm0Q Z i0 i1 i2 i3 i4 i5 h0 n0) room_1.cells room_1.slots (T165.setTop (mkF m 245 #[.val (.int i0), .val (.int i1), .val (.int i2), .val (.int i3), .val (.int i4), .val (.int i5), .val (.int (4 : Int32)), .val (.int (3 : Int32)), .val (.ref ex), .val (.ref s1), .val (.int i3), .val (.ref r3), .val (.int (1 : Int32))] []))
      refine own_st (fun wt wk => XS.aload X165.here hx rfl (hb hby at_245) rfl rfl (XS.iconst X165.here hx rfl (hb hby at_247) wk)) ?_
      show Fin1 p e below s (rm0Q Z i0 i1 i2 i3 i4 i5 h0 n0) room_1.cells room_1.slots (T165.setTop (mkF m 248 #[.val (.int i0), .val (.int i1), .val (.int i2), .val (.int i3), .val (.int i4), .val (.int i5), .val (.int (4 : Int32)), .val (.int (3 : Int32)), .val (.ref ex), .val (.ref s1), .val (.int i3), .val (.ref r3), .val (.int (1 : Int32))] [(.int (2 : Int32)), (.ref s1)]))
      obtain ⟨v166, T166, h166, L166, X166, e166, hQ166, st166⟩ := own_virtual X165 hx hZ hown (hw _ (List.mem_of_getElem? (i := 83) rfl)) (hw _ (List.mem_of_getElem? (i := 84) rfl)) (hw _ (List.mem_of_getElem? (i := 86) rfl)) (hw _ (List.mem_of_getElem? (i := 85) rfl)) (hw _ (List.mem_of_getElem? (i := 87) rfl)) (hw _ (List.mem_of_getElem? (i := 4) rfl)) (by decide) (a := s1) E_s1 (rmG42 l Z a0 hw s1 q2 q3 r2 h156 n0 Z0 E_s1 Ss1 Ts1 Pq3 Eq2) e165 (g := (mkF m 248 #[.val (.int i0), .val (.int i1), .val (.int i2), .val (.int i3), .val (.int i4), .val (.int i5), .val (.int (4 : Int32)), .val (.int (3 : Int32)), .val (.ref ex), .val (.ref s1), .val (.int i3), .val (.ref r3), .val (.int (1 : Int32))] [(.int (2 : Int32)), (.ref s1)])) rfl (by rw [hml]; rfl) (argsL := [(.int (2 : Int32))]) (rest := []) (lenOf pd_17 rfl) rfl (W := 0) (by show 2 * 0 + _ ≤ _; exact Nat.le_of_eq rfl) (hb hby at_248) (by decide) (by decide) (by decide) (by decide)
      obtain ⟨rfl, N166q, hh166⟩ := hQ166
      have N166 := Fr.app N165 N166q
      rw [hh166] at e166
      refine own_st st166 ?_
      show Fin1 p e below s (rm0Q Z i0 i1 i2 i3 i4 i5 h0 n0) room_1.cells room_1.slots (T166.setTop (mkF m 251 #[.val (.int i0), .val (.int i1), .val (.int i2), .val (.int i3), .val (.int i4), .val (.int i5), .val (.int (4 : Int32)), .val (.int (3 : Int32)), .val (.ref ex), .val (.ref s1), .val (.int i3), .val (.ref r3), .val (.int (1 : Int32))] [(.ref r2)]))
      obtain ⟨T167, X167, e167, st167⟩ := castY X166 hx hZ hown (hw _ (List.mem_of_getElem? (i := 65) rfl)) e166 (Ins.self E_r2) (g := (mkF m 251 #[.val (.int i0), .val (.int i1), .val (.int i2), .val (.int i3), .val (.int i4), .val (.int i5), .val (.int (4 : Int32)), .val (.int (3 : Int32)), .val (.ref ex), .val (.ref s1), .val (.int i3), .val (.ref r3), .val (.int (1 : Int32))] [(.ref r2)])) rfl rfl (hb hby at_251)
      refine own_st st167 ?_
      show Fin1 p e below s (rm0Q Z i0 i1 i2 i3 i4 i5 h0 n0) room_1.cells room_1.slots (T167.setTop (mkF m 254 #[.val (.int i0), .val (.int i1), .val (.int i2), .val (.int i3), .val (.int i4), .val (.int i5), .val (.int (4 : Int32)), .val (.int (3 : Int32)), .val (.ref ex), .val (.ref s1), .val (.int i3), .val (.ref r3), .val (.int (1 : Int32))] [(.ref r2)]))
      refine own_st (fun wt wk => XS.aload X167.here hx rfl (hb hby at_254) rfl rfl (XS.iconst X167.here hx rfl (hb hby at_256) wk)) ?_
      show Fin1 p e below s (rm0Q Z i0 i1 i2 i3 i4 i5 h0 n0) room_1.cells room_1.slots (T167.setTop (mkF m 257 #[.val (.int i0), .val (.int i1), .val (.int i2), .val (.int i3), .val (.int i4), .val (.int i5), .val (.int (4 : Int32)), .val (.int (3 : Int32)), .val (.ref ex), .val (.ref s1), .val (.int i3), .val (.ref r3), .val (.int (1 : Int32))] [(.int (2 : Int32)), (.ref ex), (.ref r2)]))
      refine own_st (own_ld (j := (2 : Int32)) (v := (.int i2)) X167 hx hZ e167 V_ex ⟨by decide, by decide⟩ rfl (g := (mkF m 257 #[.val (.int i0), .val (.int i1), .val (.int i2), .val (.int i3), .val (.int i4), .val (.int i5), .val (.int (4 : Int32)), .val (.int (3 : Int32)), .val (.ref ex), .val (.ref s1), .val (.int i3), .val (.ref r3), .val (.int (1 : Int32))] [(.int (2 : Int32)), (.ref ex), (.ref r2)])) rfl rfl (Or.inl ⟨rfl, rfl⟩) (hb hby at_257)) ?_
      show Fin1 p e below s (rm0Q Z i0 i1 i2 i3 i4 i5 h0 n0) room_1.cells room_1.slots (T167.setTop (mkF m 258 #[.val (.int i0), .val (.int i1), .val (.int i2), .val (.int i3), .val (.int i4), .val (.int i5), .val (.int (4 : Int32)), .val (.int (3 : Int32)), .val (.ref ex), .val (.ref s1), .val (.int i3), .val (.ref r3), .val (.int (1 : Int32))] [(.int i2), (.ref r2)]))
      obtain ⟨v168, T168, h168, L168, X168, e168, hQ168, st168⟩ := own_static X167 hx hZ hown (hw _ (List.mem_of_getElem? (i := 67) rfl)) (hw _ (List.mem_of_getElem? (i := 68) rfl)) (hw _ (List.mem_of_getElem? (i := 69) rfl)) (hw _ (List.mem_of_getElem? (i := 70) rfl)) (by decide) (rmEq l Z a0 hw r2 i2 h156 n0 Z0 E_r2 V_r2) e167 (g := (mkF m 258 #[.val (.int i0), .val (.int i1), .val (.int i2), .val (.int i3), .val (.int i4), .val (.int i5), .val (.int (4 : Int32)), .val (.int (3 : Int32)), .val (.ref ex), .val (.ref s1), .val (.int i3), .val (.ref r3), .val (.int (1 : Int32))] [(.int i2), (.ref r2)])) rfl (by rw [hml]; rfl) (argsL := [(.ref r2), (.int i2)]) (rest := []) (lenOf pd_16 rfl) rfl (W := 0) (by show 2 * 0 + _ ≤ _; exact Nat.le_of_eq rfl) (hb hby at_258) (by decide) (by decide) (by decide) (by decide)
      obtain ⟨rfl, N168q, hh168⟩ := hQ168
      have N168 := Fr.app N166 N168q
      rw [hh168] at e168
      refine own_st st168 ?_
      show Fin1 p e below s (rm0Q Z i0 i1 i2 i3 i4 i5 h0 n0) room_1.cells room_1.slots (T168.setTop (mkF m 261 #[.val (.int i0), .val (.int i1), .val (.int i2), .val (.int i3), .val (.int i4), .val (.int i5), .val (.int (4 : Int32)), .val (.int (3 : Int32)), .val (.ref ex), .val (.ref s1), .val (.int i3), .val (.ref r3), .val (.int (1 : Int32))] [(.int (1 : Int32))]))
      refine own_st (fun wt wk => XS.ifNo X168.here hx rfl (hb hby at_261) rfl ((if0 _ _).trans (feq (by decide)).1) wk) ?_
      show Fin1 p e below s (rm0Q Z i0 i1 i2 i3 i4 i5 h0 n0) room_1.cells room_1.slots (T168.setTop (mkF m 264 #[.val (.int i0), .val (.int i1), .val (.int i2), .val (.int i3), .val (.int i4), .val (.int i5), .val (.int (4 : Int32)), .val (.int (3 : Int32)), .val (.ref ex), .val (.ref s1), .val (.int i3), .val (.ref r3), .val (.int (1 : Int32))] []))
      refine own_st (fun wt wk => XS.iconst X168.here hx rfl (hb hby at_264) (XS.goto X168.here hx rfl (pc0 := 265) (pc' := 269) rfl (hb hby at_265) (by decide) (by decide) (XS.istore X168.here hx rfl (hb hby at_269) rfl (l' := #[.val (.int i0), .val (.int i1), .val (.int i2), .val (.int i3), .val (.int i4), .val (.int i5), .val (.int (4 : Int32)), .val (.int (3 : Int32)), .val (.ref ex), .val (.ref s1), .val (.int i3), .val (.ref r3), .val (.int (1 : Int32))]) rfl (XS.iload X168.here hx rfl (hb hby at_271) rfl (XS.iconst X168.here hx rfl (hb hby at_273) wk))))) ?_
      show Fin1 p e below s (rm0Q Z i0 i1 i2 i3 i4 i5 h0 n0) room_1.cells room_1.slots (T168.setTop (mkF m 274 #[.val (.int i0), .val (.int i1), .val (.int i2), .val (.int i3), .val (.int i4), .val (.int i5), .val (.int (4 : Int32)), .val (.int (3 : Int32)), .val (.ref ex), .val (.ref s1), .val (.int i3), .val (.ref r3), .val (.int (1 : Int32))] [(.int (3 : Int32)), (.int (4 : Int32))]))
      refine own_st (fun wt wk => XS.icmpNo X168.here hx rfl (hb hby at_274) rfl (tlt (by decide)).2.2.2 wk) ?_
      show Fin1 p e below s (rm0Q Z i0 i1 i2 i3 i4 i5 h0 n0) room_1.cells room_1.slots (T168.setTop (mkF m 277 #[.val (.int i0), .val (.int i1), .val (.int i2), .val (.int i3), .val (.int i4), .val (.int i5), .val (.int (4 : Int32)), .val (.int (3 : Int32)), .val (.ref ex), .val (.ref s1), .val (.int i3), .val (.ref r3), .val (.int (1 : Int32))] []))
      refine own_st (fun wt wk => XS.iload X168.here hx rfl (hb hby at_277) rfl wk) ?_
      show Fin1 p e below s (rm0Q Z i0 i1 i2 i3 i4 i5 h0 n0) room_1.cells room_1.slots (T168.setTop (mkF m 279 #[.val (.int i0), .val (.int i1), .val (.int i2), .val (.int i3), .val (.int i4), .val (.int i5), .val (.int (4 : Int32)), .val (.int (3 : Int32)), .val (.ref ex), .val (.ref s1), .val (.int i3), .val (.ref r3), .val (.int (1 : Int32))] [(.int (1 : Int32))]))
      refine own_st (fun wt wk => XS.ifNo X168.here hx rfl (hb hby at_279) rfl ((if0 _ _).trans (feq (by decide)).1) wk) ?_
      show Fin1 p e below s (rm0Q Z i0 i1 i2 i3 i4 i5 h0 n0) room_1.cells room_1.slots (T168.setTop (mkF m 282 #[.val (.int i0), .val (.int i1), .val (.int i2), .val (.int i3), .val (.int i4), .val (.int i5), .val (.int (4 : Int32)), .val (.int (3 : Int32)), .val (.ref ex), .val (.ref s1), .val (.int i3), .val (.ref r3), .val (.int (1 : Int32))] []))
      refine own_st (fun wt wk => XS.aload X168.here hx rfl (hb hby at_282) rfl rfl (XS.iconst X168.here hx rfl (hb hby at_284) wk)) ?_
      show Fin1 p e below s (rm0Q Z i0 i1 i2 i3 i4 i5 h0 n0) room_1.cells room_1.slots (T168.setTop (mkF m 285 #[.val (.int i0), .val (.int i1), .val (.int i2), .val (.int i3), .val (.int i4), .val (.int i5), .val (.int (4 : Int32)), .val (.int (3 : Int32)), .val (.ref ex), .val (.ref s1), .val (.int i3), .val (.ref r3), .val (.int (1 : Int32))] [(.int (3 : Int32)), (.ref s1)]))
      obtain ⟨v169, T169, h169, L169, X169, e169, hQ169, st169⟩ := own_virtual X168 hx hZ hown (hw _ (List.mem_of_getElem? (i := 83) rfl)) (hw _ (List.mem_of_getElem? (i := 84) rfl)) (hw _ (List.mem_of_getElem? (i := 86) rfl)) (hw _ (List.mem_of_getElem? (i := 85) rfl)) (hw _ (List.mem_of_getElem? (i := 87) rfl)) (hw _ (List.mem_of_getElem? (i := 4) rfl)) (by decide) (a := s1) E_s1 (rmG43 l Z a0 hw s1 q3 re h156 n0 Z0 E_s1 Ss1 Ts1 Eq3) e168 (g := (mkF m 285 #[.val (.int i0), .val (.int i1), .val (.int i2), .val (.int i3), .val (.int i4), .val (.int i5), .val (.int (4 : Int32)), .val (.int (3 : Int32)), .val (.ref ex), .val (.ref s1), .val (.int i3), .val (.ref r3), .val (.int (1 : Int32))] [(.int (3 : Int32)), (.ref s1)])) rfl (by rw [hml]; rfl) (argsL := [(.int (3 : Int32))]) (rest := []) (lenOf pd_17 rfl) rfl (W := 0) (by show 2 * 0 + _ ≤ _; exact Nat.le_of_eq rfl) (hb hby at_285) (by decide) (by decide) (by decide) (by decide)
      obtain ⟨rfl, N169q, hh169⟩ := hQ169
      have N169 := Fr.app N168 N169q
      rw [hh169] at e169
      refine own_st st169 ?_
      show Fin1 p e below s (rm0Q Z i0 i1 i2 i3 i4 i5 h0 n0) room_1.cells room_1.slots (T169.setTop (mkF m 288 #[.val (.int i0), .val (.int i1), .val (.int i2), .val (.int i3), .val (.int i4), .val (.int i5), .val (.int (4 : Int32)), .val (.int (3 : Int32)), .val (.ref ex), .val (.ref s1), .val (.int i3), .val (.ref r3), .val (.int (1 : Int32))] [(.ref re)]))
      obtain ⟨T170, X170, e170, st170⟩ := castY X169 hx hZ hown (hw _ (List.mem_of_getElem? (i := 65) rfl)) e169 (Ins.self E_re) (g := (mkF m 288 #[.val (.int i0), .val (.int i1), .val (.int i2), .val (.int i3), .val (.int i4), .val (.int i5), .val (.int (4 : Int32)), .val (.int (3 : Int32)), .val (.ref ex), .val (.ref s1), .val (.int i3), .val (.ref r3), .val (.int (1 : Int32))] [(.ref re)])) rfl rfl (hb hby at_288)
      refine own_st st170 ?_
      show Fin1 p e below s (rm0Q Z i0 i1 i2 i3 i4 i5 h0 n0) room_1.cells room_1.slots (T170.setTop (mkF m 291 #[.val (.int i0), .val (.int i1), .val (.int i2), .val (.int i3), .val (.int i4), .val (.int i5), .val (.int (4 : Int32)), .val (.int (3 : Int32)), .val (.ref ex), .val (.ref s1), .val (.int i3), .val (.ref r3), .val (.int (1 : Int32))] [(.ref re)]))
      refine own_st (fun wt wk => XS.aload X170.here hx rfl (hb hby at_291) rfl rfl (XS.iconst X170.here hx rfl (hb hby at_293) wk)) ?_
      show Fin1 p e below s (rm0Q Z i0 i1 i2 i3 i4 i5 h0 n0) room_1.cells room_1.slots (T170.setTop (mkF m 294 #[.val (.int i0), .val (.int i1), .val (.int i2), .val (.int i3), .val (.int i4), .val (.int i5), .val (.int (4 : Int32)), .val (.int (3 : Int32)), .val (.ref ex), .val (.ref s1), .val (.int i3), .val (.ref r3), .val (.int (1 : Int32))] [(.int (3 : Int32)), (.ref ex), (.ref re)]))
      refine own_st (own_ld (j := (3 : Int32)) (v := (.int i4)) X170 hx hZ e170 V_ex ⟨by decide, by decide⟩ rfl (g := (mkF m 294 #[.val (.int i0), .val (.int i1), .val (.int i2), .val (.int i3), .val (.int i4), .val (.int i5), .val (.int (4 : Int32)), .val (.int (3 : Int32)), .val (.ref ex), .val (.ref s1), .val (.int i3), .val (.ref r3), .val (.int (1 : Int32))] [(.int (3 : Int32)), (.ref ex), (.ref re)])) rfl rfl (Or.inl ⟨rfl, rfl⟩) (hb hby at_294)) ?_
      show Fin1 p e below s (rm0Q Z i0 i1 i2 i3 i4 i5 h0 n0) room_1.cells room_1.slots (T170.setTop (mkF m 295 #[.val (.int i0), .val (.int i1), .val (.int i2), .val (.int i3), .val (.int i4), .val (.int i5), .val (.int (4 : Int32)), .val (.int (3 : Int32)), .val (.ref ex), .val (.ref s1), .val (.int i3), .val (.ref r3), .val (.int (1 : Int32))] [(.int i4), (.ref re)]))
      obtain ⟨v171, T171, h171, L171, X171, e171, hQ171, st171⟩ := own_static X170 hx hZ hown (hw _ (List.mem_of_getElem? (i := 67) rfl)) (hw _ (List.mem_of_getElem? (i := 68) rfl)) (hw _ (List.mem_of_getElem? (i := 69) rfl)) (hw _ (List.mem_of_getElem? (i := 70) rfl)) (by decide) (rmEq l Z a0 hw re i4 h156 n0 Z0 E_re V_re) e170 (g := (mkF m 295 #[.val (.int i0), .val (.int i1), .val (.int i2), .val (.int i3), .val (.int i4), .val (.int i5), .val (.int (4 : Int32)), .val (.int (3 : Int32)), .val (.ref ex), .val (.ref s1), .val (.int i3), .val (.ref r3), .val (.int (1 : Int32))] [(.int i4), (.ref re)])) rfl (by rw [hml]; rfl) (argsL := [(.ref re), (.int i4)]) (rest := []) (lenOf pd_16 rfl) rfl (W := 0) (by show 2 * 0 + _ ≤ _; exact Nat.le_of_eq rfl) (hb hby at_295) (by decide) (by decide) (by decide) (by decide)
      obtain ⟨rfl, N171q, hh171⟩ := hQ171
      have N171 := Fr.app N169 N171q
      rw [hh171] at e171
      refine own_st st171 ?_
      show Fin1 p e below s (rm0Q Z i0 i1 i2 i3 i4 i5 h0 n0) room_1.cells room_1.slots (T171.setTop (mkF m 298 #[.val (.int i0), .val (.int i1), .val (.int i2), .val (.int i3), .val (.int i4), .val (.int i5), .val (.int (4 : Int32)), .val (.int (3 : Int32)), .val (.ref ex), .val (.ref s1), .val (.int i3), .val (.ref r3), .val (.int (1 : Int32))] [(.int (1 : Int32))]))
      refine own_st (fun wt wk => XS.ifNo X171.here hx rfl (hb hby at_298) rfl ((if0 _ _).trans (feq (by decide)).1) wk) ?_
      show Fin1 p e below s (rm0Q Z i0 i1 i2 i3 i4 i5 h0 n0) room_1.cells room_1.slots (T171.setTop (mkF m 301 #[.val (.int i0), .val (.int i1), .val (.int i2), .val (.int i3), .val (.int i4), .val (.int i5), .val (.int (4 : Int32)), .val (.int (3 : Int32)), .val (.ref ex), .val (.ref s1), .val (.int i3), .val (.ref r3), .val (.int (1 : Int32))] []))
      refine own_st (fun wt wk => XS.iconst X171.here hx rfl (hb hby at_301) (XS.goto X171.here hx rfl (pc0 := 302) (pc' := 306) rfl (hb hby at_302) (by decide) (by decide) (XS.istore X171.here hx rfl (hb hby at_306) rfl (l' := #[.val (.int i0), .val (.int i1), .val (.int i2), .val (.int i3), .val (.int i4), .val (.int i5), .val (.int (4 : Int32)), .val (.int (3 : Int32)), .val (.ref ex), .val (.ref s1), .val (.int i3), .val (.ref r3), .val (.int (1 : Int32))]) rfl (XS.iload X171.here hx rfl (hb hby at_308) rfl wk)))) ?_
      show Fin1 p e below s (rm0Q Z i0 i1 i2 i3 i4 i5 h0 n0) room_1.cells room_1.slots (T171.setTop (mkF m 310 #[.val (.int i0), .val (.int i1), .val (.int i2), .val (.int i3), .val (.int i4), .val (.int i5), .val (.int (4 : Int32)), .val (.int (3 : Int32)), .val (.ref ex), .val (.ref s1), .val (.int i3), .val (.ref r3), .val (.int (1 : Int32))] [(.int (1 : Int32))]))
      exact own_retZ X171 hx hlk hret (hb hby at_310) (z := (1 : Int32)) (by decide) (by rw [e171]; exact ⟨rfl, N171⟩) (by decide) (by decide)
set_option maxRecDepth 65536 in
set_option maxHeartbeats 40000000 in
theorem comes_1 {Post : Tables → Env → Array Value → State → Outcome → State → Prop} (hpost : ∀ tb e args s v u, (limb_1_1.after args s (.returned v) u = true ∧ limb_1_2.after args s (.returned v) u = true ∧ True) → FrameEnd s (.returned v) u (Jvm.fieldLocs frame_1_writes args s ++ Jvm.arrayLocs frame_1_arrays args s ++ Jvm.staticLocs frame_1_statics s) 32 128 → Post tb e args s (.returned v) u) :
    ArmFor flags0 classFile x code maxLocals ret World_1 tables_1 room_1 Calls_1 rest_1 Pre_1 Post := by
  intro l hfl _ _ p e ha hc hk s m args below hf hA hF happ hP
  obtain ⟨hcalls, hrest, hpre⟩ := hP
  obtain ⟨-, -, -, hnamed, -, -, -, hat⟩ := (Spec.applies_iff hf).mp happ
  obtain ⟨hg, hn⟩ := and_e (Cond.before_iff.mp (show (Jvm.Cond.and given_1 narrow_1).before args s = true from hpre))
  obtain ⟨hcnt, hg1⟩ := and_e hg
  obtain ⟨hv0, hg2⟩ := and_e hg1
  obtain ⟨hv1, hg3⟩ := and_e hg2
  obtain ⟨hv2, hg4⟩ := and_e hg3
  obtain ⟨hv3, hg5⟩ := and_e hg4
  obtain ⟨hv4, hg6⟩ := and_e hg5
  have hv5 := hg6
  obtain ⟨w0, w1, w2, w3, w4, w5, rfl⟩ : ∃ w0 w1 w2 w3 w4 w5 : Value, args = #[w0, w1, w2, w3, w4, w5] := by
    have hs : args.size = 6 := by simpa [Cond.value, given_1] using hcnt
    obtain ⟨L⟩ := args
    match L, hs with
    | [w0, w1, w2, w3, w4, w5], _ => exact ⟨w0, w1, w2, w3, w4, w5, rfl⟩
  have hw := fun d (hd : d ∈ tables_1) => atoms_spec (ws := Jvm.Cond.code x code maxLocals ret :: tables_1) hat d (List.mem_cons_of_mem _ hd)
  have hfit : Fit s := fun {y c} hc i hi => by
    obtain ⟨ha, rfl⟩ := Array.getElem?_eq_some_iff.mp hc
    have q := List.all_eq_true.mp ((Array.all_eq_true_iff_forall_mem.mp hF) _ (Array.getElem_mem ha)) i (List.mem_range.mpr hi)
    simpa [Array.getElem?_eq_getElem hi] using q
  obtain ⟨i0, ei0⟩ := is_v hv0
  obtain rfl : w0 = (.int i0) := Option.some.inj ei0
  obtain ⟨i1, ei1⟩ := is_v hv1
  obtain rfl : w1 = (.int i1) := Option.some.inj ei1
  obtain ⟨i2, ei2⟩ := is_v hv2
  obtain rfl : w2 = (.int i2) := Option.some.inj ei2
  obtain ⟨i3, ei3⟩ := is_v hv3
  obtain rfl : w3 = (.int i3) := Option.some.inj ei3
  obtain ⟨i4, ei4⟩ := is_v hv4
  obtain rfl : w4 = (.int i4) := Option.some.inj ei4
  obtain ⟨i5, ei5⟩ := is_v hv5
  obtain rfl : w5 = (.int i5) := Option.some.inj ei5
  obtain ⟨hsets, hown0⟩ := atoms_of _ (rest_1_c_eq ▸ (show rest_1_c.before _ s = true from hrest))
  obtain ⟨n, o, h1, h2, h3, _, L, rfl, ⟨rfl, N⟩, hq⟩ := rm0 l s _ hw i0 i1 i2 i3 i4 i5 s.heap s.heap.size (Nat.le_refl _) (Old.start s) (own_ic hw hsets) p e ha hc hk s m _ below hf ((Spec.applies_iff_loose hf).mp happ).1 ⟨rfl, State.Warmed39.refl s, rfl⟩ trivial
  refine ⟨n, _, h1, h2, h3, hpost _ _ _ _ _ _ ⟨Cond.after_iff.mpr rfl, Cond.after_iff.mpr (eq_i res_at (Term.int_eval (1)) rfl), trivial⟩ ⟨hq.1, hq.2.1, (hq.2.2.sift fun y hy => Or.inr (N y hy)).mono (by decide) (by decide)⟩⟩
theorem main_1_1 : Claimed_1_1 := comes_1 fun _ _ _ _ _ _ h hF => ⟨h.1, hF⟩
theorem main_1_2 : Claimed_1_2 := comes_1 fun _ _ _ _ _ _ h hF => ⟨h.2.1, hF⟩
end Jvm.Pilot.@@N@@
namespace Jvm.Pilot.@@N@@
open Jvm Jvm.ClassFile Sem Op Lib Jvm.Free Jvm.Stand Jvm.Pilot.@@N@@.Jvm.D
/-! MADE BY PROGRAM (witnessworld.py) out of the Statement's table words and the real class files: 18 classes; the members and pool entries that the words name. The judged class is class 1, her method 2. -/
namespace start1
open Jvm.ClassFile
def u (s : String) : CpInfo := .utf8 (stringToUtf16 s)
/-- a pool by its gaps: so many unusable entries, then the entry; so many at the end -/
def gap : Nat → List CpInfo → List CpInfo
  | 0, r => r
  | n + 1, r => .unusable :: gap n r
def poolList (es : List (Nat × CpInfo)) (last : Nat) : List CpInfo := es.foldr (fun e r => gap e.1 (e.2 :: r)) (gap last [])
def pool (es : List (Nat × CpInfo)) (last : Nat) : Array CpInfo := ⟨poolList es last⟩
def fileOf (pool : Array CpInfo) (this : Nat) (attrs : Array Attribute := #[]) (ms : Array MethodInfo := #[]) (fl : Nat := 33) (sup : Nat := 0) (ifs : Array Nat := #[]) (fds : Array FieldInfo := #[]) : ClassFile where
  minorVersion := 0
  majorVersion := 65
  constantPool := pool
  accessFlags := fl
  thisClass := this
  superClass := sup
  interfaces := ifs
  fields := fds
  methods := ms
  attributes := attrs
def plain (name : String) (sup : Option ClassId) : Class where
  name := name
  kind := .ordinary
  loader := none
  accessFlags := 33
  super := sup
  interfaces := #[]
  cf := none
  fields := #[]
  methods := #[]
  instanceTypes := #[]
  staticTypes := #[]
  resolved := #[]
  callSites := []
  init := .initialized
  statics := none
  mirror := none

def pool0 : Array CpInfo := pool [(5, u "<init>"), (0, u "()V"), (1, .class_ 10), (1, u "java/lang/Object")] 113

def k0c0 : Code := { maxStack := 0, maxLocals := 1, code := object_method_1_code, exceptionTable := #[], attributes := #[] }
def k0m0 : Method := { name := "<init>", desc := "()V", sig := { parameters := [], returnType := none }, accessFlags := 1, code := some k0c0 }
/-- java/lang/Object -/
def k0 : Class := { plain "java/lang/Object" none with
  accessFlags := 33
  interfaces := #[]
  cf := some (fileOf pool0 8 #[] #[{ accessFlags := 1, nameIndex := 5, descriptorIndex := 6, attributes := #[] }] 33 0 #[] #[])
  fields := #[]
  methods := #[k0m0]
  instanceTypes := #[]
  staticTypes := #[]
  resolved := Array.replicate 124 none
  statics := none }

def pool1 : Array CpInfo := pool [(2, .class_ 4), (0, .nameAndType 5 6), (0, u "java/lang/Object"), (0, u "<init>"), (0, u "()V"), (0, .methodref 8 9), (0, .class_ 10), (0, .nameAndType 11 12), (0, u "java/lang/Integer"), (0, u "intValue"), (0, u "()I"), (0, .integer 2147483647), (0, .class_ 15), (0, u "com/example/listwright/listwright/LinkedStorage"), (0, .methodref 14 3), (0, .methodref 8 18), (0, .nameAndType 19 20), (0, u "valueOf"), (0, u "(I)Ljava/lang/Integer;"), (0, .methodref 14 22), (0, .nameAndType 23 24), (0, u "insert"), (0, u "(ILjava/lang/Object;)V"), (0, .methodref 14 26), (0, .nameAndType 27 28), (0, u "set"), (0, u "(ILjava/lang/Object;)Ljava/lang/Object;"), (0, .methodref 30 31), (0, .class_ 32), (0, .nameAndType 33 34), (0, u "com/example/listwright/listwright/LinkedStorageSetPinLaw"), (0, u "eq"), (0, u "(Ljava/lang/Integer;I)Z"), (0, .methodref 14 36), (0, .nameAndType 37 12), (0, u "size"), (0, .methodref 14 39), (0, .nameAndType 40 41), (0, u "get"), (0, u "(I)Ljava/lang/Object;"), (3, u "law"), (0, u "(IIIIII)Z")] 4

def k1m0 : Method := { name := "<init>", desc := "()V", sig := { parameters := [], returnType := none }, accessFlags := 2, code := none }
def k1c1 : Code := { maxStack := 2, maxLocals := 2, code := method_2_code, exceptionTable := #[], attributes := #[] }
def k1m1 : Method := { name := "eq", desc := "(Ljava/lang/Integer;I)Z", sig := { parameters := [(.object "java/lang/Integer"), .int], returnType := some .boolean }, accessFlags := 10, code := some k1c1 }
def k1c2 : Code := { maxStack := 4, maxLocals := 13, code := code, exceptionTable := #[], attributes := #[] }
def k1m2 : Method := { name := "law", desc := "(IIIIII)Z", sig := { parameters := [.int, .int, .int, .int, .int, .int], returnType := some .boolean }, accessFlags := 9, code := some k1c2 }
/-- com/example/listwright/listwright/LinkedStorageSetPinLaw -/
def k1 : Class := { plain "com/example/listwright/listwright/LinkedStorageSetPinLaw" (some 0) with
  accessFlags := 49
  interfaces := #[]
  cf := some (fileOf pool1 30 #[] #[{ accessFlags := 2, nameIndex := 5, descriptorIndex := 6, attributes := #[] }, { accessFlags := 10, nameIndex := 33, descriptorIndex := 34, attributes := #[] }, { accessFlags := 9, nameIndex := 45, descriptorIndex := 46, attributes := #[] }] 49 2 #[] #[])
  fields := #[]
  methods := #[k1m0, k1m1, k1m2]
  instanceTypes := #[]
  staticTypes := #[]
  resolved := Array.replicate 51 none
  statics := none }

def pool2 : Array CpInfo := pool [(1, .class_ 2), (0, u "java/io/Serializable"), (0, .class_ 4), (0, u "java/lang/Object")] 2

/-- java/io/Serializable -/
def k2 : Class := { plain "java/io/Serializable" (some 0) with
  accessFlags := 1537
  interfaces := #[]
  cf := some (fileOf pool2 1 #[] #[] 1537 3 #[] #[])
  fields := #[]
  methods := #[]
  instanceTypes := #[]
  staticTypes := #[]
  resolved := Array.replicate 7 none
  statics := none }

def pool3 : Array CpInfo := pool [(1, .methodref 2 3), (0, .class_ 4), (0, .nameAndType 5 6), (0, u "java/lang/Object"), (0, u "<init>"), (0, u "()V"), (1, .class_ 10), (1, u "com/example/listwright/listwright/Storage"), (23, .class_ 36), (1, u "com/example/listwright/listwright/Storage$Cursor"), (68, .class_ 106), (0, u "java/io/Serializable"), (0, u "serialVersionUID"), (0, u "J")] 67

def k3c0 : Code := { maxStack := 1, maxLocals := 1, code := prog_32_method_1_code, exceptionTable := #[], attributes := #[] }
def k3m0 : Method := { name := "<init>", desc := "()V", sig := { parameters := [], returnType := none }, accessFlags := 0, code := some k3c0 }
/-- com/example/listwright/listwright/Storage -/
def k3 : Class := { plain "com/example/listwright/listwright/Storage" (some 0) with
  accessFlags := 1056
  interfaces := #[2]
  cf := some (fileOf pool3 8 #[.nestMembers #[34]] #[{ accessFlags := 0, nameIndex := 5, descriptorIndex := 6, attributes := #[] }] 1056 2 #[105] #[{ accessFlags := 26, nameIndex := 107, descriptorIndex := 108, attributes := #[] }])
  fields := #[{ name := "serialVersionUID", type := .long, accessFlags := 26, slot := 0, constantValue := 0 }]
  methods := #[k3m0]
  instanceTypes := #[]
  staticTypes := #[.long]
  resolved := Array.replicate 176 none
  statics := none }

def pool4 : Array CpInfo := pool [(1, .methodref 2 3), (0, .class_ 4), (0, .nameAndType 5 6), (0, u "com/example/listwright/listwright/Storage"), (0, u "<init>"), (0, u "()V"), (0, .fieldref 8 9), (0, .class_ 10), (0, .nameAndType 11 12), (0, u "com/example/listwright/listwright/LinkedStorage"), (0, u "size"), (0, u "I"), (0, .methodref 8 14), (0, .nameAndType 15 16), (0, u "nodeAt"), (0, u "(I)Lcom/example/listwright/listwright/LinkedStorage$Node;"), (0, .fieldref 18 19), (0, .class_ 20), (0, .nameAndType 21 22), (0, u "com/example/listwright/listwright/LinkedStorage$Node"), (0, u "element"), (0, u "Ljava/lang/Object;"), (0, .methodref 8 24), (0, .nameAndType 25 26), (0, u "linkAfter"), (0, u "(Lcom/example/listwright/listwright/LinkedStorage$Node;Ljava/lang/Object;)Lcom/example/listwright/listwright/LinkedStorage$Node;"), (0, .fieldref 8 28), (0, .nameAndType 29 30), (0, u "tail"), (0, u "Lcom/example/listwright/listwright/LinkedStorage$Node;"), (6, .fieldref 18 38), (0, .nameAndType 39 30), (0, u "previous"), (8, .fieldref 8 49), (0, .nameAndType 50 30), (0, u "head"), (5, u "()I"), (0, .fieldref 18 58), (0, .nameAndType 59 30), (0, u "next"), (2, u "get"), (7, .class_ 71), (0, u "com/example/listwright/listwright/LinkedStorage$NodeCursor"), (3, .methodref 18 76), (0, .nameAndType 5 77), (0, u "(Ljava/lang/Object;)V"), (0, .methodref 8 79), (0, .nameAndType 80 81), (0, u "join"), (0, u "(Lcom/example/listwright/listwright/LinkedStorage$Node;Lcom/example/listwright/listwright/LinkedStorage$Node;)V"), (8, u "serialVersionUID"), (0, u "J"), (7, u "(I)Ljava/lang/Object;"), (1, u "set"), (0, u "(ILjava/lang/Object;)Ljava/lang/Object;"), (1, u "insert"), (0, u "(ILjava/lang/Object;)V")] 50

def k4c0 : Code := { maxStack := 1, maxLocals := 1, code := prog_19_method_1_code, exceptionTable := #[], attributes := #[] }
def k4m0 : Method := { name := "<init>", desc := "()V", sig := { parameters := [], returnType := none }, accessFlags := 0, code := some k4c0 }
def k4c1 : Code := { maxStack := 1, maxLocals := 1, code := prog_19_method_2_code, exceptionTable := #[], attributes := #[] }
def k4m1 : Method := { name := "size", desc := "()I", sig := { parameters := [], returnType := some .int }, accessFlags := 0, code := some k4c1 }
def k4c2 : Code := { maxStack := 2, maxLocals := 2, code := prog_19_method_3_code, exceptionTable := #[], attributes := #[] }
def k4m2 : Method := { name := "get", desc := "(I)Ljava/lang/Object;", sig := { parameters := [.int], returnType := some (.object "java/lang/Object") }, accessFlags := 0, code := some k4c2 }
def k4c3 : Code := { maxStack := 2, maxLocals := 5, code := prog_19_method_4_code, exceptionTable := #[], attributes := #[] }
def k4m3 : Method := { name := "set", desc := "(ILjava/lang/Object;)Ljava/lang/Object;", sig := { parameters := [.int, (.object "java/lang/Object")], returnType := some (.object "java/lang/Object") }, accessFlags := 0, code := some k4c3 }
def k4c4 : Code := { maxStack := 4, maxLocals := 3, code := prog_19_method_5_code, exceptionTable := #[], attributes := #[] }
def k4m4 : Method := { name := "insert", desc := "(ILjava/lang/Object;)V", sig := { parameters := [.int, (.object "java/lang/Object")], returnType := none }, accessFlags := 0, code := some k4c4 }
def k4c5 : Code := { maxStack := 3, maxLocals := 4, code := prog_19_method_16_code, exceptionTable := #[], attributes := #[] }
def k4m5 : Method := { name := "nodeAt", desc := "(I)Lcom/example/listwright/listwright/LinkedStorage$Node;", sig := { parameters := [.int], returnType := some (.object "com/example/listwright/listwright/LinkedStorage$Node") }, accessFlags := 2, code := some k4c5 }
def k4c6 : Code := { maxStack := 3, maxLocals := 5, code := prog_19_method_18_code, exceptionTable := #[], attributes := #[] }
def k4m6 : Method := { name := "linkAfter", desc := "(Lcom/example/listwright/listwright/LinkedStorage$Node;Ljava/lang/Object;)Lcom/example/listwright/listwright/LinkedStorage$Node;", sig := { parameters := [(.object "com/example/listwright/listwright/LinkedStorage$Node"), (.object "java/lang/Object")], returnType := some (.object "com/example/listwright/listwright/LinkedStorage$Node") }, accessFlags := 2, code := some k4c6 }
def k4c7 : Code := { maxStack := 2, maxLocals := 3, code := prog_19_method_20_code, exceptionTable := #[], attributes := #[] }
def k4m7 : Method := { name := "join", desc := "(Lcom/example/listwright/listwright/LinkedStorage$Node;Lcom/example/listwright/listwright/LinkedStorage$Node;)V", sig := { parameters := [(.object "com/example/listwright/listwright/LinkedStorage$Node"), (.object "com/example/listwright/listwright/LinkedStorage$Node")], returnType := none }, accessFlags := 2, code := some k4c7 }
/-- com/example/listwright/listwright/LinkedStorage -/
def k4 : Class := { plain "com/example/listwright/listwright/LinkedStorage" (some 3) with
  accessFlags := 48
  interfaces := #[]
  cf := some (fileOf pool4 8 #[.nestMembers #[70, 18]] #[{ accessFlags := 0, nameIndex := 5, descriptorIndex := 6, attributes := #[] }, { accessFlags := 0, nameIndex := 11, descriptorIndex := 56, attributes := #[] }, { accessFlags := 0, nameIndex := 62, descriptorIndex := 99, attributes := #[] }, { accessFlags := 0, nameIndex := 101, descriptorIndex := 102, attributes := #[] }, { accessFlags := 0, nameIndex := 104, descriptorIndex := 105, attributes := #[] }, { accessFlags := 2, nameIndex := 15, descriptorIndex := 16, attributes := #[] }, { accessFlags := 2, nameIndex := 25, descriptorIndex := 26, attributes := #[] }, { accessFlags := 2, nameIndex := 80, descriptorIndex := 81, attributes := #[] }] 48 2 #[] #[{ accessFlags := 26, nameIndex := 90, descriptorIndex := 91, attributes := #[] }, { accessFlags := 130, nameIndex := 50, descriptorIndex := 30, attributes := #[] }, { accessFlags := 130, nameIndex := 29, descriptorIndex := 30, attributes := #[] }, { accessFlags := 130, nameIndex := 11, descriptorIndex := 12, attributes := #[] }])
  fields := #[{ name := "serialVersionUID", type := .long, accessFlags := 26, slot := 0, constantValue := 0 }, { name := "head", type := (.object "com/example/listwright/listwright/LinkedStorage$Node"), accessFlags := 130, slot := 0, constantValue := 0 }, { name := "tail", type := (.object "com/example/listwright/listwright/LinkedStorage$Node"), accessFlags := 130, slot := 1, constantValue := 0 }, { name := "size", type := .int, accessFlags := 130, slot := 2, constantValue := 0 }]
  methods := #[k4m0, k4m1, k4m2, k4m3, k4m4, k4m5, k4m6, k4m7]
  instanceTypes := #[(.object "com/example/listwright/listwright/LinkedStorage$Node"), (.object "com/example/listwright/listwright/LinkedStorage$Node"), .int]
  staticTypes := #[.long]
  resolved := (((((Array.replicate 156 none).setIfInBounds 17 (some (.field 11 0))).setIfInBounds 18 (some (.cls 11))).setIfInBounds 37 (some (.field 11 1))).setIfInBounds 57 (some (.field 11 2))).setIfInBounds 75 (some (.method ⟨11, 0⟩))
  statics := none }

def pool5 : Array CpInfo := pool [(1, .methodref 2 3), (0, .class_ 4), (0, .nameAndType 5 6), (0, u "java/lang/Object"), (0, u "<init>"), (0, u "()V"), (1, .class_ 10), (1, u "java/lang/Number"), (2, .class_ 14), (0, u "java/io/Serializable"), (0, u "serialVersionUID"), (0, u "J")] 20

def k5c0 : Code := { maxStack := 1, maxLocals := 1, code := jdk_18_method_1_code, exceptionTable := #[], attributes := #[] }
def k5m0 : Method := { name := "<init>", desc := "()V", sig := { parameters := [], returnType := none }, accessFlags := 1, code := some k5c0 }
/-- java/lang/Number -/
def k5 : Class := { plain "java/lang/Number" (some 0) with
  accessFlags := 1057
  interfaces := #[2]
  cf := some (fileOf pool5 8 #[] #[{ accessFlags := 1, nameIndex := 5, descriptorIndex := 6, attributes := #[] }] 1057 2 #[13] #[{ accessFlags := 26, nameIndex := 15, descriptorIndex := 16, attributes := #[] }])
  fields := #[{ name := "serialVersionUID", type := .long, accessFlags := 26, slot := 0, constantValue := 0 }]
  methods := #[k5m0]
  instanceTypes := #[]
  staticTypes := #[.long]
  resolved := Array.replicate 37 none
  statics := none }

def pool6 : Array CpInfo := pool [(1, .class_ 2), (0, u "java/lang/Comparable"), (0, .class_ 4), (0, u "java/lang/Object")] 7

/-- java/lang/Comparable -/
def k6 : Class := { plain "java/lang/Comparable" (some 0) with
  accessFlags := 1537
  interfaces := #[]
  cf := some (fileOf pool6 1 #[] #[] 1537 3 #[] #[])
  fields := #[]
  methods := #[]
  instanceTypes := #[]
  staticTypes := #[]
  resolved := Array.replicate 12 none
  statics := none }

def pool7 : Array CpInfo := pool [(1, .class_ 2), (0, u "java/lang/constant/Constable"), (0, .class_ 4), (0, u "java/lang/Object")] 6

/-- java/lang/constant/Constable -/
def k7 : Class := { plain "java/lang/constant/Constable" (some 0) with
  accessFlags := 1537
  interfaces := #[]
  cf := some (fileOf pool7 1 #[] #[] 1537 3 #[] #[])
  fields := #[]
  methods := #[]
  instanceTypes := #[]
  staticTypes := #[]
  resolved := Array.replicate 11 none
  statics := none }

def pool8 : Array CpInfo := pool [(1, .class_ 2), (0, u "java/lang/constant/ConstantDesc"), (0, .class_ 4), (0, u "java/lang/Object")] 32

/-- java/lang/constant/ConstantDesc -/
def k8 : Class := { plain "java/lang/constant/ConstantDesc" (some 0) with
  accessFlags := 1537
  interfaces := #[]
  cf := some (fileOf pool8 1 #[] #[] 1537 3 #[] #[])
  fields := #[]
  methods := #[]
  instanceTypes := #[]
  staticTypes := #[]
  resolved := Array.replicate 37 none
  statics := none }

def pool9 : Array CpInfo := pool [(1, .class_ 2), (0, u "java/lang/Integer"), (16, u "digits"), (0, u "[C"), (46, u "<init>"), (17, u "DigitOnes"), (0, u "[B"), (2, u "DigitTens"), (10, .nameAndType 67 101), (0, u "()V"), (19, u "()I"), (65, u "valueOf"), (0, u "(I)Ljava/lang/Integer;"), (0, .class_ 190), (0, u "java/lang/Integer$IntegerCache"), (0, .fieldref 189 192), (0, .nameAndType 193 194), (0, u "high"), (0, u "I"), (0, .fieldref 189 196), (0, .nameAndType 197 198), (0, u "cache"), (0, u "[Ljava/lang/Integer;"), (0, .methodref 1 200), (0, .nameAndType 67 201), (0, u "(I)V"), (0, .methodref 203 100), (0, .class_ 204), (0, u "java/lang/Number"), (0, .fieldref 1 206), (0, .nameAndType 207 194), (0, u "value"), (5, u "intValue"), (88, u "TYPE"), (0, u "Ljava/lang/Class;"), (0, .class_ 305), (0, u "java/lang/Comparable"), (0, .class_ 307), (0, u "java/lang/constant/Constable"), (0, .class_ 309), (0, u "java/lang/constant/ConstantDesc"), (0, u "MIN_VALUE"), (1, u "MAX_VALUE"), (3, u "SIZE"), (1, u "BYTES"), (1, u "serialVersionUID"), (0, u "J")] 131

def k9c0 : Code := { maxStack := 3, maxLocals := 1, code := jdk_33_method_22_code, exceptionTable := #[], attributes := #[] }
def k9m0 : Method := { name := "valueOf", desc := "(I)Ljava/lang/Integer;", sig := { parameters := [.int], returnType := some (.object "java/lang/Integer") }, accessFlags := 9, code := some k9c0 }
def k9c1 : Code := { maxStack := 2, maxLocals := 2, code := jdk_33_method_23_code, exceptionTable := #[], attributes := #[] }
def k9m1 : Method := { name := "<init>", desc := "(I)V", sig := { parameters := [.int], returnType := none }, accessFlags := 1, code := some k9c1 }
def k9c2 : Code := { maxStack := 1, maxLocals := 1, code := jdk_33_method_27_code, exceptionTable := #[], attributes := #[] }
def k9m2 : Method := { name := "intValue", desc := "()I", sig := { parameters := [], returnType := some .int }, accessFlags := 1, code := some k9c2 }
/-- java/lang/Integer -/
def k9 : Class := { plain "java/lang/Integer" (some 5) with
  accessFlags := 49
  interfaces := #[6, 7, 8]
  cf := some (fileOf pool9 1 #[.nestMembers #[189]] #[{ accessFlags := 9, nameIndex := 187, descriptorIndex := 188, attributes := #[] }, { accessFlags := 1, nameIndex := 67, descriptorIndex := 201, attributes := #[] }, { accessFlags := 1, nameIndex := 213, descriptorIndex := 121, attributes := #[] }] 49 203 #[304, 306, 308] #[{ accessFlags := 25, nameIndex := 310, descriptorIndex := 194, attributes := #[] }, { accessFlags := 25, nameIndex := 312, descriptorIndex := 194, attributes := #[] }, { accessFlags := 25, nameIndex := 302, descriptorIndex := 303, attributes := #[] }, { accessFlags := 24, nameIndex := 19, descriptorIndex := 20, attributes := #[] }, { accessFlags := 24, nameIndex := 89, descriptorIndex := 86, attributes := #[] }, { accessFlags := 24, nameIndex := 85, descriptorIndex := 86, attributes := #[] }, { accessFlags := 18, nameIndex := 207, descriptorIndex := 194, attributes := #[] }, { accessFlags := 25, nameIndex := 316, descriptorIndex := 194, attributes := #[] }, { accessFlags := 25, nameIndex := 318, descriptorIndex := 194, attributes := #[] }, { accessFlags := 26, nameIndex := 320, descriptorIndex := 321, attributes := #[] }])
  fields := #[{ name := "MIN_VALUE", type := .int, accessFlags := 25, slot := 0, constantValue := 0 }, { name := "MAX_VALUE", type := .int, accessFlags := 25, slot := 1, constantValue := 0 }, { name := "TYPE", type := (.object "java/lang/Class"), accessFlags := 25, slot := 2, constantValue := 0 }, { name := "digits", type := (.array .char), accessFlags := 24, slot := 3, constantValue := 0 }, { name := "DigitTens", type := (.array .byte), accessFlags := 24, slot := 4, constantValue := 0 }, { name := "DigitOnes", type := (.array .byte), accessFlags := 24, slot := 5, constantValue := 0 }, { name := "value", type := .int, accessFlags := 18, slot := 0, constantValue := 0 }, { name := "SIZE", type := .int, accessFlags := 25, slot := 6, constantValue := 0 }, { name := "BYTES", type := .int, accessFlags := 25, slot := 7, constantValue := 0 }, { name := "serialVersionUID", type := .long, accessFlags := 26, slot := 8, constantValue := 0 }]
  methods := #[k9m0, k9m1, k9m2]
  instanceTypes := #[.int]
  staticTypes := #[.int, .int, (.object "java/lang/Class"), (.array .char), (.array .byte), (.array .byte), .int, .int, .long]
  resolved := Array.replicate 453 none
  statics := none }

def pool10 : Array CpInfo := pool [(2, .class_ 4), (1, u "java/lang/Object"), (0, u "<init>"), (0, u "()V"), (0, .class_ 8), (0, u "java/lang/Integer"), (7, .class_ 18), (1, u "java/lang/Integer$IntegerCache"), (0, u "$assertionsDisabled"), (0, u "Z"), (26, u "high"), (0, u "I"), (8, u "archivedCache"), (0, u "[Ljava/lang/Integer;"), (12, u "cache"), (0, u "low")] 27

def k10m0 : Method := { name := "<init>", desc := "()V", sig := { parameters := [], returnType := none }, accessFlags := 2, code := none }
/-- java/lang/Integer$IntegerCache -/
def k10 : Class := { plain "java/lang/Integer$IntegerCache" (some 0) with
  accessFlags := 48
  interfaces := #[]
  cf := some (fileOf pool10 16 #[.nestHost 7] #[{ accessFlags := 2, nameIndex := 5, descriptorIndex := 6, attributes := #[] }] 48 2 #[] #[{ accessFlags := 24, nameIndex := 72, descriptorIndex := 48, attributes := #[] }, { accessFlags := 24, nameIndex := 47, descriptorIndex := 48, attributes := #[] }, { accessFlags := 24, nameIndex := 71, descriptorIndex := 58, attributes := #[] }, { accessFlags := 8, nameIndex := 57, descriptorIndex := 58, attributes := #[] }, { accessFlags := 4120, nameIndex := 19, descriptorIndex := 20, attributes := #[] }])
  fields := #[{ name := "low", type := .int, accessFlags := 24, slot := 0, constantValue := 0 }, { name := "high", type := .int, accessFlags := 24, slot := 1, constantValue := 0 }, { name := "cache", type := (.array (.object "java/lang/Integer")), accessFlags := 24, slot := 2, constantValue := 0 }, { name := "archivedCache", type := (.array (.object "java/lang/Integer")), accessFlags := 8, slot := 3, constantValue := 0 }, { name := "$assertionsDisabled", type := .boolean, accessFlags := 4120, slot := 4, constantValue := 0 }]
  methods := #[k10m0]
  instanceTypes := #[]
  staticTypes := #[.int, .int, (.array (.object "java/lang/Integer")), (.array (.object "java/lang/Integer")), .boolean]
  resolved := Array.replicate 100 none
  statics := some 0 }

def pool11 : Array CpInfo := pool [(1, .methodref 2 3), (0, .class_ 4), (0, .nameAndType 5 6), (0, u "java/lang/Object"), (0, u "<init>"), (0, u "()V"), (0, .fieldref 8 9), (0, .class_ 10), (0, .nameAndType 11 12), (0, u "com/example/listwright/listwright/LinkedStorage$Node"), (0, u "element"), (0, u "Ljava/lang/Object;"), (2, u "previous"), (0, u "Lcom/example/listwright/listwright/LinkedStorage$Node;"), (1, u "next"), (0, u "(Ljava/lang/Object;)V"), (7, .class_ 28), (0, u "com/example/listwright/listwright/LinkedStorage")] 2

def k11c0 : Code := { maxStack := 2, maxLocals := 2, code := prog_20_method_1_code, exceptionTable := #[], attributes := #[] }
def k11m0 : Method := { name := "<init>", desc := "(Ljava/lang/Object;)V", sig := { parameters := [(.object "java/lang/Object")], returnType := none }, accessFlags := 2, code := some k11c0 }
/-- com/example/listwright/listwright/LinkedStorage$Node -/
def k11 : Class := { plain "com/example/listwright/listwright/LinkedStorage$Node" (some 0) with
  accessFlags := 48
  interfaces := #[]
  cf := some (fileOf pool11 8 #[.nestHost 27] #[{ accessFlags := 2, nameIndex := 5, descriptorIndex := 19, attributes := #[] }] 48 2 #[] #[{ accessFlags := 2, nameIndex := 11, descriptorIndex := 12, attributes := #[] }, { accessFlags := 2, nameIndex := 15, descriptorIndex := 16, attributes := #[] }, { accessFlags := 2, nameIndex := 18, descriptorIndex := 16, attributes := #[] }])
  fields := #[{ name := "element", type := (.object "java/lang/Object"), accessFlags := 2, slot := 0, constantValue := 0 }, { name := "previous", type := (.object "com/example/listwright/listwright/LinkedStorage$Node"), accessFlags := 2, slot := 1, constantValue := 0 }, { name := "next", type := (.object "com/example/listwright/listwright/LinkedStorage$Node"), accessFlags := 2, slot := 2, constantValue := 0 }]
  methods := #[k11m0]
  instanceTypes := #[(.object "java/lang/Object"), (.object "com/example/listwright/listwright/LinkedStorage$Node"), (.object "com/example/listwright/listwright/LinkedStorage$Node")]
  staticTypes := #[]
  resolved := Array.replicate 31 none
  statics := none }

def pool12 : Array CpInfo := pool [(1, u "java/lang/Cloneable"), (0, .class_ 1), (0, u "java/lang/Object"), (0, .class_ 3)] 3

/-- java/lang/Cloneable -/
def k12 : Class := { plain "java/lang/Cloneable" (some 0) with
  accessFlags := 1537
  interfaces := #[]
  cf := some (fileOf pool12 2 #[] #[] 1537 4 #[] #[])
  fields := #[]
  methods := #[]
  instanceTypes := #[]
  staticTypes := #[]
  resolved := Array.replicate 8 none
  statics := none }

/-- the primitive byte -/
def k13 : Class := { plain "byte" none with kind := .primitive 'B', accessFlags := 0x411 }
/-- [B -/
def k14 : Class := { plain "[B" (some 0) with kind := .array 13 .byte, interfaces := #[12, 2], accessFlags := 1041 }

/-- the primitive int -/
def k15 : Class := { plain "int" none with kind := .primitive 'I', accessFlags := 0x411 }
/-- [I -/
def k16 : Class := { plain "[I" (some 0) with kind := .array 15 .int, interfaces := #[12, 2], accessFlags := 1041 }

/-- [Ljava/lang/Integer; -/
def k17 : Class := { plain "[Ljava/lang/Integer;" (some 0) with kind := .array 9 (.object "java/lang/Integer"), interfaces := #[12, 2], accessFlags := 1041 }

def heap : Heap := #[{ cls := 10, slots := #[.int 0, .int 127, .ref 1, .null, .int 0], vm := .statics 10 },
  { cls := 17, slots := #[.ref 2, .ref 3, .ref 4, .ref 5, .ref 6, .ref 7, .ref 8, .ref 9, .ref 10, .ref 11, .ref 12, .ref 13, .ref 14, .ref 15, .ref 16, .ref 17, .ref 18, .ref 19, .ref 20, .ref 21, .ref 22, .ref 23, .ref 24, .ref 25, .ref 26, .ref 27, .ref 28, .ref 29, .ref 30, .ref 31, .ref 32, .ref 33, .ref 34, .ref 35, .ref 36, .ref 37, .ref 38, .ref 39, .ref 40, .ref 41, .ref 42, .ref 43, .ref 44, .ref 45, .ref 46, .ref 47, .ref 48, .ref 49, .ref 50, .ref 51, .ref 52, .ref 53, .ref 54, .ref 55, .ref 56, .ref 57, .ref 58, .ref 59, .ref 60, .ref 61, .ref 62, .ref 63, .ref 64, .ref 65, .ref 66, .ref 67, .ref 68, .ref 69, .ref 70, .ref 71, .ref 72, .ref 73, .ref 74, .ref 75, .ref 76, .ref 77, .ref 78, .ref 79, .ref 80, .ref 81, .ref 82, .ref 83, .ref 84, .ref 85, .ref 86, .ref 87, .ref 88, .ref 89, .ref 90, .ref 91, .ref 92, .ref 93, .ref 94, .ref 95, .ref 96, .ref 97, .ref 98, .ref 99, .ref 100, .ref 101, .ref 102, .ref 103, .ref 104, .ref 105, .ref 106, .ref 107, .ref 108, .ref 109, .ref 110, .ref 111, .ref 112, .ref 113, .ref 114, .ref 115, .ref 116, .ref 117, .ref 118, .ref 119, .ref 120, .ref 121, .ref 122, .ref 123, .ref 124, .ref 125, .ref 126, .ref 127, .ref 128, .ref 129, .ref 130, .ref 131, .ref 132, .ref 133, .ref 134, .ref 135, .ref 136, .ref 137, .ref 138, .ref 139, .ref 140, .ref 141, .ref 142, .ref 143, .ref 144, .ref 145, .ref 146, .ref 147, .ref 148, .ref 149, .ref 150, .ref 151, .ref 152, .ref 153, .ref 154, .ref 155, .ref 156, .ref 157, .ref 158, .ref 159, .ref 160, .ref 161, .ref 162, .ref 163, .ref 164, .ref 165, .ref 166, .ref 167, .ref 168, .ref 169, .ref 170, .ref 171, .ref 172, .ref 173, .ref 174, .ref 175, .ref 176, .ref 177, .ref 178, .ref 179, .ref 180, .ref 181, .ref 182, .ref 183, .ref 184, .ref 185, .ref 186, .ref 187, .ref 188, .ref 189, .ref 190, .ref 191, .ref 192, .ref 193, .ref 194, .ref 195, .ref 196, .ref 197, .ref 198, .ref 199, .ref 200, .ref 201, .ref 202, .ref 203, .ref 204, .ref 205, .ref 206, .ref 207, .ref 208, .ref 209, .ref 210, .ref 211, .ref 212, .ref 213, .ref 214, .ref 215, .ref 216, .ref 217, .ref 218, .ref 219, .ref 220, .ref 221, .ref 222, .ref 223, .ref 224, .ref 225, .ref 226, .ref 227, .ref 228, .ref 229, .ref 230, .ref 231, .ref 232, .ref 233, .ref 234, .ref 235, .ref 236, .ref 237, .ref 238, .ref 239, .ref 240, .ref 241, .ref 242, .ref 243, .ref 244, .ref 245, .ref 246, .ref 247, .ref 248, .ref 249, .ref 250, .ref 251, .ref 252, .ref 253, .ref 254, .ref 255, .ref 256, .ref 257], vm := .none },
  { cls := 9, slots := #[.int (-128)], vm := .none },
  { cls := 9, slots := #[.int (-127)], vm := .none },
  { cls := 9, slots := #[.int (-126)], vm := .none },
  { cls := 9, slots := #[.int (-125)], vm := .none },
  { cls := 9, slots := #[.int (-124)], vm := .none },
  { cls := 9, slots := #[.int (-123)], vm := .none },
  { cls := 9, slots := #[.int (-122)], vm := .none },
  { cls := 9, slots := #[.int (-121)], vm := .none },
  { cls := 9, slots := #[.int (-120)], vm := .none },
  { cls := 9, slots := #[.int (-119)], vm := .none },
  { cls := 9, slots := #[.int (-118)], vm := .none },
  { cls := 9, slots := #[.int (-117)], vm := .none },
  { cls := 9, slots := #[.int (-116)], vm := .none },
  { cls := 9, slots := #[.int (-115)], vm := .none },
  { cls := 9, slots := #[.int (-114)], vm := .none },
  { cls := 9, slots := #[.int (-113)], vm := .none },
  { cls := 9, slots := #[.int (-112)], vm := .none },
  { cls := 9, slots := #[.int (-111)], vm := .none },
  { cls := 9, slots := #[.int (-110)], vm := .none },
  { cls := 9, slots := #[.int (-109)], vm := .none },
  { cls := 9, slots := #[.int (-108)], vm := .none },
  { cls := 9, slots := #[.int (-107)], vm := .none },
  { cls := 9, slots := #[.int (-106)], vm := .none },
  { cls := 9, slots := #[.int (-105)], vm := .none },
  { cls := 9, slots := #[.int (-104)], vm := .none },
  { cls := 9, slots := #[.int (-103)], vm := .none },
  { cls := 9, slots := #[.int (-102)], vm := .none },
  { cls := 9, slots := #[.int (-101)], vm := .none },
  { cls := 9, slots := #[.int (-100)], vm := .none },
  { cls := 9, slots := #[.int (-99)], vm := .none },
  { cls := 9, slots := #[.int (-98)], vm := .none },
  { cls := 9, slots := #[.int (-97)], vm := .none },
  { cls := 9, slots := #[.int (-96)], vm := .none },
  { cls := 9, slots := #[.int (-95)], vm := .none },
  { cls := 9, slots := #[.int (-94)], vm := .none },
  { cls := 9, slots := #[.int (-93)], vm := .none },
  { cls := 9, slots := #[.int (-92)], vm := .none },
  { cls := 9, slots := #[.int (-91)], vm := .none },
  { cls := 9, slots := #[.int (-90)], vm := .none },
  { cls := 9, slots := #[.int (-89)], vm := .none },
  { cls := 9, slots := #[.int (-88)], vm := .none },
  { cls := 9, slots := #[.int (-87)], vm := .none },
  { cls := 9, slots := #[.int (-86)], vm := .none },
  { cls := 9, slots := #[.int (-85)], vm := .none },
  { cls := 9, slots := #[.int (-84)], vm := .none },
  { cls := 9, slots := #[.int (-83)], vm := .none },
  { cls := 9, slots := #[.int (-82)], vm := .none },
  { cls := 9, slots := #[.int (-81)], vm := .none },
  { cls := 9, slots := #[.int (-80)], vm := .none },
  { cls := 9, slots := #[.int (-79)], vm := .none },
  { cls := 9, slots := #[.int (-78)], vm := .none },
  { cls := 9, slots := #[.int (-77)], vm := .none },
  { cls := 9, slots := #[.int (-76)], vm := .none },
  { cls := 9, slots := #[.int (-75)], vm := .none },
  { cls := 9, slots := #[.int (-74)], vm := .none },
  { cls := 9, slots := #[.int (-73)], vm := .none },
  { cls := 9, slots := #[.int (-72)], vm := .none },
  { cls := 9, slots := #[.int (-71)], vm := .none },
  { cls := 9, slots := #[.int (-70)], vm := .none },
  { cls := 9, slots := #[.int (-69)], vm := .none },
  { cls := 9, slots := #[.int (-68)], vm := .none },
  { cls := 9, slots := #[.int (-67)], vm := .none },
  { cls := 9, slots := #[.int (-66)], vm := .none },
  { cls := 9, slots := #[.int (-65)], vm := .none },
  { cls := 9, slots := #[.int (-64)], vm := .none },
  { cls := 9, slots := #[.int (-63)], vm := .none },
  { cls := 9, slots := #[.int (-62)], vm := .none },
  { cls := 9, slots := #[.int (-61)], vm := .none },
  { cls := 9, slots := #[.int (-60)], vm := .none },
  { cls := 9, slots := #[.int (-59)], vm := .none },
  { cls := 9, slots := #[.int (-58)], vm := .none },
  { cls := 9, slots := #[.int (-57)], vm := .none },
  { cls := 9, slots := #[.int (-56)], vm := .none },
  { cls := 9, slots := #[.int (-55)], vm := .none },
  { cls := 9, slots := #[.int (-54)], vm := .none },
  { cls := 9, slots := #[.int (-53)], vm := .none },
  { cls := 9, slots := #[.int (-52)], vm := .none },
  { cls := 9, slots := #[.int (-51)], vm := .none },
  { cls := 9, slots := #[.int (-50)], vm := .none },
  { cls := 9, slots := #[.int (-49)], vm := .none },
  { cls := 9, slots := #[.int (-48)], vm := .none },
  { cls := 9, slots := #[.int (-47)], vm := .none },
  { cls := 9, slots := #[.int (-46)], vm := .none },
  { cls := 9, slots := #[.int (-45)], vm := .none },
  { cls := 9, slots := #[.int (-44)], vm := .none },
  { cls := 9, slots := #[.int (-43)], vm := .none },
  { cls := 9, slots := #[.int (-42)], vm := .none },
  { cls := 9, slots := #[.int (-41)], vm := .none },
  { cls := 9, slots := #[.int (-40)], vm := .none },
  { cls := 9, slots := #[.int (-39)], vm := .none },
  { cls := 9, slots := #[.int (-38)], vm := .none },
  { cls := 9, slots := #[.int (-37)], vm := .none },
  { cls := 9, slots := #[.int (-36)], vm := .none },
  { cls := 9, slots := #[.int (-35)], vm := .none },
  { cls := 9, slots := #[.int (-34)], vm := .none },
  { cls := 9, slots := #[.int (-33)], vm := .none },
  { cls := 9, slots := #[.int (-32)], vm := .none },
  { cls := 9, slots := #[.int (-31)], vm := .none },
  { cls := 9, slots := #[.int (-30)], vm := .none },
  { cls := 9, slots := #[.int (-29)], vm := .none },
  { cls := 9, slots := #[.int (-28)], vm := .none },
  { cls := 9, slots := #[.int (-27)], vm := .none },
  { cls := 9, slots := #[.int (-26)], vm := .none },
  { cls := 9, slots := #[.int (-25)], vm := .none },
  { cls := 9, slots := #[.int (-24)], vm := .none },
  { cls := 9, slots := #[.int (-23)], vm := .none },
  { cls := 9, slots := #[.int (-22)], vm := .none },
  { cls := 9, slots := #[.int (-21)], vm := .none },
  { cls := 9, slots := #[.int (-20)], vm := .none },
  { cls := 9, slots := #[.int (-19)], vm := .none },
  { cls := 9, slots := #[.int (-18)], vm := .none },
  { cls := 9, slots := #[.int (-17)], vm := .none },
  { cls := 9, slots := #[.int (-16)], vm := .none },
  { cls := 9, slots := #[.int (-15)], vm := .none },
  { cls := 9, slots := #[.int (-14)], vm := .none },
  { cls := 9, slots := #[.int (-13)], vm := .none },
  { cls := 9, slots := #[.int (-12)], vm := .none },
  { cls := 9, slots := #[.int (-11)], vm := .none },
  { cls := 9, slots := #[.int (-10)], vm := .none },
  { cls := 9, slots := #[.int (-9)], vm := .none },
  { cls := 9, slots := #[.int (-8)], vm := .none },
  { cls := 9, slots := #[.int (-7)], vm := .none },
  { cls := 9, slots := #[.int (-6)], vm := .none },
  { cls := 9, slots := #[.int (-5)], vm := .none },
  { cls := 9, slots := #[.int (-4)], vm := .none },
  { cls := 9, slots := #[.int (-3)], vm := .none },
  { cls := 9, slots := #[.int (-2)], vm := .none },
  { cls := 9, slots := #[.int (-1)], vm := .none },
  { cls := 9, slots := #[.int (0)], vm := .none },
  { cls := 9, slots := #[.int (1)], vm := .none },
  { cls := 9, slots := #[.int (2)], vm := .none },
  { cls := 9, slots := #[.int (3)], vm := .none },
  { cls := 9, slots := #[.int (4)], vm := .none },
  { cls := 9, slots := #[.int (5)], vm := .none },
  { cls := 9, slots := #[.int (6)], vm := .none },
  { cls := 9, slots := #[.int (7)], vm := .none },
  { cls := 9, slots := #[.int (8)], vm := .none },
  { cls := 9, slots := #[.int (9)], vm := .none },
  { cls := 9, slots := #[.int (10)], vm := .none },
  { cls := 9, slots := #[.int (11)], vm := .none },
  { cls := 9, slots := #[.int (12)], vm := .none },
  { cls := 9, slots := #[.int (13)], vm := .none },
  { cls := 9, slots := #[.int (14)], vm := .none },
  { cls := 9, slots := #[.int (15)], vm := .none },
  { cls := 9, slots := #[.int (16)], vm := .none },
  { cls := 9, slots := #[.int (17)], vm := .none },
  { cls := 9, slots := #[.int (18)], vm := .none },
  { cls := 9, slots := #[.int (19)], vm := .none },
  { cls := 9, slots := #[.int (20)], vm := .none },
  { cls := 9, slots := #[.int (21)], vm := .none },
  { cls := 9, slots := #[.int (22)], vm := .none },
  { cls := 9, slots := #[.int (23)], vm := .none },
  { cls := 9, slots := #[.int (24)], vm := .none },
  { cls := 9, slots := #[.int (25)], vm := .none },
  { cls := 9, slots := #[.int (26)], vm := .none },
  { cls := 9, slots := #[.int (27)], vm := .none },
  { cls := 9, slots := #[.int (28)], vm := .none },
  { cls := 9, slots := #[.int (29)], vm := .none },
  { cls := 9, slots := #[.int (30)], vm := .none },
  { cls := 9, slots := #[.int (31)], vm := .none },
  { cls := 9, slots := #[.int (32)], vm := .none },
  { cls := 9, slots := #[.int (33)], vm := .none },
  { cls := 9, slots := #[.int (34)], vm := .none },
  { cls := 9, slots := #[.int (35)], vm := .none },
  { cls := 9, slots := #[.int (36)], vm := .none },
  { cls := 9, slots := #[.int (37)], vm := .none },
  { cls := 9, slots := #[.int (38)], vm := .none },
  { cls := 9, slots := #[.int (39)], vm := .none },
  { cls := 9, slots := #[.int (40)], vm := .none },
  { cls := 9, slots := #[.int (41)], vm := .none },
  { cls := 9, slots := #[.int (42)], vm := .none },
  { cls := 9, slots := #[.int (43)], vm := .none },
  { cls := 9, slots := #[.int (44)], vm := .none },
  { cls := 9, slots := #[.int (45)], vm := .none },
  { cls := 9, slots := #[.int (46)], vm := .none },
  { cls := 9, slots := #[.int (47)], vm := .none },
  { cls := 9, slots := #[.int (48)], vm := .none },
  { cls := 9, slots := #[.int (49)], vm := .none },
  { cls := 9, slots := #[.int (50)], vm := .none },
  { cls := 9, slots := #[.int (51)], vm := .none },
  { cls := 9, slots := #[.int (52)], vm := .none },
  { cls := 9, slots := #[.int (53)], vm := .none },
  { cls := 9, slots := #[.int (54)], vm := .none },
  { cls := 9, slots := #[.int (55)], vm := .none },
  { cls := 9, slots := #[.int (56)], vm := .none },
  { cls := 9, slots := #[.int (57)], vm := .none },
  { cls := 9, slots := #[.int (58)], vm := .none },
  { cls := 9, slots := #[.int (59)], vm := .none },
  { cls := 9, slots := #[.int (60)], vm := .none },
  { cls := 9, slots := #[.int (61)], vm := .none },
  { cls := 9, slots := #[.int (62)], vm := .none },
  { cls := 9, slots := #[.int (63)], vm := .none },
  { cls := 9, slots := #[.int (64)], vm := .none },
  { cls := 9, slots := #[.int (65)], vm := .none },
  { cls := 9, slots := #[.int (66)], vm := .none },
  { cls := 9, slots := #[.int (67)], vm := .none },
  { cls := 9, slots := #[.int (68)], vm := .none },
  { cls := 9, slots := #[.int (69)], vm := .none },
  { cls := 9, slots := #[.int (70)], vm := .none },
  { cls := 9, slots := #[.int (71)], vm := .none },
  { cls := 9, slots := #[.int (72)], vm := .none },
  { cls := 9, slots := #[.int (73)], vm := .none },
  { cls := 9, slots := #[.int (74)], vm := .none },
  { cls := 9, slots := #[.int (75)], vm := .none },
  { cls := 9, slots := #[.int (76)], vm := .none },
  { cls := 9, slots := #[.int (77)], vm := .none },
  { cls := 9, slots := #[.int (78)], vm := .none },
  { cls := 9, slots := #[.int (79)], vm := .none },
  { cls := 9, slots := #[.int (80)], vm := .none },
  { cls := 9, slots := #[.int (81)], vm := .none },
  { cls := 9, slots := #[.int (82)], vm := .none },
  { cls := 9, slots := #[.int (83)], vm := .none },
  { cls := 9, slots := #[.int (84)], vm := .none },
  { cls := 9, slots := #[.int (85)], vm := .none },
  { cls := 9, slots := #[.int (86)], vm := .none },
  { cls := 9, slots := #[.int (87)], vm := .none },
  { cls := 9, slots := #[.int (88)], vm := .none },
  { cls := 9, slots := #[.int (89)], vm := .none },
  { cls := 9, slots := #[.int (90)], vm := .none },
  { cls := 9, slots := #[.int (91)], vm := .none },
  { cls := 9, slots := #[.int (92)], vm := .none },
  { cls := 9, slots := #[.int (93)], vm := .none },
  { cls := 9, slots := #[.int (94)], vm := .none },
  { cls := 9, slots := #[.int (95)], vm := .none },
  { cls := 9, slots := #[.int (96)], vm := .none },
  { cls := 9, slots := #[.int (97)], vm := .none },
  { cls := 9, slots := #[.int (98)], vm := .none },
  { cls := 9, slots := #[.int (99)], vm := .none },
  { cls := 9, slots := #[.int (100)], vm := .none },
  { cls := 9, slots := #[.int (101)], vm := .none },
  { cls := 9, slots := #[.int (102)], vm := .none },
  { cls := 9, slots := #[.int (103)], vm := .none },
  { cls := 9, slots := #[.int (104)], vm := .none },
  { cls := 9, slots := #[.int (105)], vm := .none },
  { cls := 9, slots := #[.int (106)], vm := .none },
  { cls := 9, slots := #[.int (107)], vm := .none },
  { cls := 9, slots := #[.int (108)], vm := .none },
  { cls := 9, slots := #[.int (109)], vm := .none },
  { cls := 9, slots := #[.int (110)], vm := .none },
  { cls := 9, slots := #[.int (111)], vm := .none },
  { cls := 9, slots := #[.int (112)], vm := .none },
  { cls := 9, slots := #[.int (113)], vm := .none },
  { cls := 9, slots := #[.int (114)], vm := .none },
  { cls := 9, slots := #[.int (115)], vm := .none },
  { cls := 9, slots := #[.int (116)], vm := .none },
  { cls := 9, slots := #[.int (117)], vm := .none },
  { cls := 9, slots := #[.int (118)], vm := .none },
  { cls := 9, slots := #[.int (119)], vm := .none },
  { cls := 9, slots := #[.int (120)], vm := .none },
  { cls := 9, slots := #[.int (121)], vm := .none },
  { cls := 9, slots := #[.int (122)], vm := .none },
  { cls := 9, slots := #[.int (123)], vm := .none },
  { cls := 9, slots := #[.int (124)], vm := .none },
  { cls := 9, slots := #[.int (125)], vm := .none },
  { cls := 9, slots := #[.int (126)], vm := .none },
  { cls := 9, slots := #[.int (127)], vm := .none }]
def classes : Array Class := #[k0, k1, k2, k3, k4, k5, k6, k7, k8, k9, k10, k11, k12, k13, k14, k15, k16, k17]
def interned : List (Array UInt16 × Addr) := []
def slotsUsed : Nat := 517
def theMethod : MethodId := ⟨1, 2⟩
def args0 : Array Value := #[.int 5, .int 7, .int 7, .int 5, .int 7, .int 7]
def aboutOver (below : List Frame) : State where
  vm := { classes := classes, interned := interned.toArray }
  heap := heap
  slotsUsed := slotsUsed
  threads := #[{ frames := .invoking theMethod args0 :: below }]
def below0 : List Frame := [.native { method := ⟨0, 0⟩, args := #[] }]
def about1 : State := aboutOver below0
def p0 : Program := .bare "" "" ""
def e0 : Env := launch0.env 0 0 0
theorem w_frames : about1.frames = Frame.invoking theMethod args0 :: below0 := rfl
set_option maxRecDepth 65536 in
theorem w_args : argsFit about1.vm theMethod args0 = true := by decide +kernel
set_option maxRecDepth 65536 in
theorem w_heap : heapFits about1 = true := by decide +kernel
set_option maxRecDepth 65536 in
theorem w_runnable : about1.curStatus? = some .runnable := by decide +kernel
set_option maxRecDepth 65536 in
theorem w_alone : about1.alone = true := by decide +kernel
set_option maxRecDepth 65536 in
theorem w_named : about1.methodNamed? x = some theMethod := by decide +kernel
set_option maxRecDepth 65536 in
theorem w_hears : about1.hears theMethod below0 = true := by decide +kernel
set_option maxRecDepth 65536 in
theorem w_ripe : about1.ripe theMethod args0 below0 = true := by decide +kernel
theorem w_running : about1.status = .running := rfl
set_option maxRecDepth 65536 in
theorem w_room : about1.hasRoom e0.platform room_1 = true :=
  launch0.hasRoom_least _ room_1 (by decide +kernel) (by decide +kernel) (by decide +kernel) (by decide +kernel) (by decide +kernel) (by decide +kernel)
theorem allAtoms_all (ts : List Jvm.Cond) (a : Array Jvm.Value) (st : Jvm.State) : (allAtoms ts).before a st = ts.all (fun c => c.before a st) := by
  induction ts with
  | nil => rfl
  | cons c t ih =>
    show (Jvm.Cond.and c (allAtoms t)).before a st = _
    rw [Jvm.Cond.before_and, ih, List.all_cons]
def words1 : List Jvm.Cond := Jvm.Cond.code x code maxLocals ret :: tables_1
/-- a 'code' word, met by the world's own term for the bytes: nothing is compared byte by byte -/
theorem code_word {y : MethodName} {bytes : ByteArray} {mx : Nat} {rt : Option FieldType} {a : Array Value} {s : State} {m : MethodId} {meth : Method} {c : Code} (h1 : s.methodNamed? y = some m) (h2 : s.vm.method? m = some meth) (h3 : meth.code = some c) (h4 : c.code = bytes)
    (h5 : (c.maxLocals == mx && c.exceptionTable.isEmpty && decide (c.maxStack ≤ mostOperands) && decide (meth.sig.returnType = rt) && !meth.locks && decide (parseMethodDescriptor y.desc = some meth.sig)) = true) : (Jvm.Cond.code y bytes mx rt).before a s = true := by
  simp only [Bool.and_eq_true, beq_iff_eq, Bool.not_eq_true', decide_eq_true_eq] at h5
  obtain ⟨⟨⟨⟨⟨g1, g2⟩, g3⟩, g4⟩, g5⟩, g6⟩ := h5
  simp [Cond.before, Cond.holds, Cond.value, h1, h2, h3, h4, g1, g2, g3, g4, g5, g6]
def isCode : Jvm.Cond → Bool
  | .code _ _ _ _ => true
  | _ => false
theorem all_split {L : List Jvm.Cond} {P : Jvm.Cond → Bool} (h1 : L.all (fun c => isCode c || P c) = true) (h2 : ∀ c ∈ L.filter isCode, P c = true) : L.all P = true := by
  refine List.all_eq_true.mpr fun c hc => ?_
  have h := List.all_eq_true.mp h1 c hc
  rcases Bool.eq_false_or_eq_true (isCode c) with hi | hi
  · exact h2 c (List.mem_filter.mpr ⟨hc, hi⟩)
  · simpa [hi] using h
set_option maxRecDepth 65536 in
theorem w_c0 : (Jvm.Cond.code x code maxLocals ret).before args0 about1 = true := code_word (m := ⟨1, 2⟩) (meth := k1m2) (c := k1c2) (by decide +kernel) rfl rfl rfl (by decide +kernel)
set_option maxRecDepth 65536 in
theorem w_c1 : (Jvm.Cond.code ({ cls := "com/example/listwright/listwright/LinkedStorage", name := "<init>", desc := "()V" } : Jvm.MethodName) prog_19_method_1_code (1 : Nat) (Option.none : Option Jvm.ClassFile.FieldType)).before args0 about1 = true := code_word (m := ⟨4, 0⟩) (meth := k4m0) (c := k4c0) (by decide +kernel) rfl rfl rfl (by decide +kernel)
set_option maxRecDepth 65536 in
theorem w_c2 : (Jvm.Cond.code ({ cls := "com/example/listwright/listwright/Storage", name := "<init>", desc := "()V" } : Jvm.MethodName) prog_32_method_1_code (1 : Nat) (Option.none : Option Jvm.ClassFile.FieldType)).before args0 about1 = true := code_word (m := ⟨3, 0⟩) (meth := k3m0) (c := k3c0) (by decide +kernel) rfl rfl rfl (by decide +kernel)
set_option maxRecDepth 65536 in
theorem w_c3 : (Jvm.Cond.code ({ cls := "java/lang/Object", name := "<init>", desc := "()V" } : Jvm.MethodName) object_method_1_code (1 : Nat) (Option.none : Option Jvm.ClassFile.FieldType)).before args0 about1 = true := code_word (m := ⟨0, 0⟩) (meth := k0m0) (c := k0c0) (by decide +kernel) rfl rfl rfl (by decide +kernel)
set_option maxRecDepth 65536 in
theorem w_c4 : (Jvm.Cond.code ({ cls := "java/lang/Integer", name := "valueOf", desc := "(I)Ljava/lang/Integer;" } : Jvm.MethodName) jdk_33_method_22_code (1 : Nat) (Option.some (Jvm.ClassFile.FieldType.object "java/lang/Integer"))).before args0 about1 = true := code_word (m := ⟨9, 0⟩) (meth := k9m0) (c := k9c0) (by decide +kernel) rfl rfl rfl (by decide +kernel)
set_option maxRecDepth 65536 in
theorem w_c5 : (Jvm.Cond.code ({ cls := "com/example/listwright/listwright/LinkedStorage", name := "insert", desc := "(ILjava/lang/Object;)V" } : Jvm.MethodName) prog_19_method_5_code (3 : Nat) (Option.none : Option Jvm.ClassFile.FieldType)).before args0 about1 = true := code_word (m := ⟨4, 4⟩) (meth := k4m4) (c := k4c4) (by decide +kernel) rfl rfl rfl (by decide +kernel)
set_option maxRecDepth 65536 in
theorem w_c6 : (Jvm.Cond.code ({ cls := "com/example/listwright/listwright/LinkedStorage", name := "linkAfter", desc := "(Lcom/example/listwright/listwright/LinkedStorage$Node;Ljava/lang/Object;)Lcom/example/listwright/listwright/LinkedStorage$Node;" } : Jvm.MethodName) prog_19_method_18_code (5 : Nat) (Option.some (Jvm.ClassFile.FieldType.object "com/example/listwright/listwright/LinkedStorage$Node"))).before args0 about1 = true := code_word (m := ⟨4, 6⟩) (meth := k4m6) (c := k4c6) (by decide +kernel) rfl rfl rfl (by decide +kernel)
set_option maxRecDepth 65536 in
theorem w_c7 : (Jvm.Cond.code ({ cls := "com/example/listwright/listwright/LinkedStorage$Node", name := "<init>", desc := "(Ljava/lang/Object;)V" } : Jvm.MethodName) prog_20_method_1_code (2 : Nat) (Option.none : Option Jvm.ClassFile.FieldType)).before args0 about1 = true := code_word (m := ⟨11, 0⟩) (meth := k11m0) (c := k11c0) (by decide +kernel) rfl rfl rfl (by decide +kernel)
set_option maxRecDepth 65536 in
theorem w_c8 : (Jvm.Cond.code ({ cls := "com/example/listwright/listwright/LinkedStorage", name := "join", desc := "(Lcom/example/listwright/listwright/LinkedStorage$Node;Lcom/example/listwright/listwright/LinkedStorage$Node;)V" } : Jvm.MethodName) prog_19_method_20_code (3 : Nat) (Option.none : Option Jvm.ClassFile.FieldType)).before args0 about1 = true := code_word (m := ⟨4, 7⟩) (meth := k4m7) (c := k4c7) (by decide +kernel) rfl rfl rfl (by decide +kernel)
set_option maxRecDepth 65536 in
theorem w_c9 : (Jvm.Cond.code ({ cls := "com/example/listwright/listwright/LinkedStorage", name := "nodeAt", desc := "(I)Lcom/example/listwright/listwright/LinkedStorage$Node;" } : Jvm.MethodName) prog_19_method_16_code (4 : Nat) (Option.some (Jvm.ClassFile.FieldType.object "com/example/listwright/listwright/LinkedStorage$Node"))).before args0 about1 = true := code_word (m := ⟨4, 5⟩) (meth := k4m5) (c := k4c5) (by decide +kernel) rfl rfl rfl (by decide +kernel)
set_option maxRecDepth 65536 in
theorem w_c10 : (Jvm.Cond.code ({ cls := "com/example/listwright/listwright/LinkedStorage", name := "set", desc := "(ILjava/lang/Object;)Ljava/lang/Object;" } : Jvm.MethodName) prog_19_method_4_code (5 : Nat) (Option.some (Jvm.ClassFile.FieldType.object "java/lang/Object"))).before args0 about1 = true := code_word (m := ⟨4, 3⟩) (meth := k4m3) (c := k4c3) (by decide +kernel) rfl rfl rfl (by decide +kernel)
set_option maxRecDepth 65536 in
theorem w_c11 : (Jvm.Cond.code ({ cls := "com/example/listwright/listwright/LinkedStorageSetPinLaw", name := "eq", desc := "(Ljava/lang/Integer;I)Z" } : Jvm.MethodName) method_2_code (2 : Nat) (Option.some Jvm.ClassFile.FieldType.boolean)).before args0 about1 = true := code_word (m := ⟨1, 1⟩) (meth := k1m1) (c := k1c1) (by decide +kernel) rfl rfl rfl (by decide +kernel)
set_option maxRecDepth 65536 in
theorem w_c12 : (Jvm.Cond.code ({ cls := "java/lang/Integer", name := "intValue", desc := "()I" } : Jvm.MethodName) jdk_33_method_27_code (1 : Nat) (Option.some Jvm.ClassFile.FieldType.int)).before args0 about1 = true := code_word (m := ⟨9, 2⟩) (meth := k9m2) (c := k9c2) (by decide +kernel) rfl rfl rfl (by decide +kernel)
set_option maxRecDepth 65536 in
theorem w_c13 : (Jvm.Cond.code ({ cls := "com/example/listwright/listwright/LinkedStorage", name := "size", desc := "()I" } : Jvm.MethodName) prog_19_method_2_code (1 : Nat) (Option.some Jvm.ClassFile.FieldType.int)).before args0 about1 = true := code_word (m := ⟨4, 1⟩) (meth := k4m1) (c := k4c1) (by decide +kernel) rfl rfl rfl (by decide +kernel)
set_option maxRecDepth 65536 in
theorem w_c14 : (Jvm.Cond.code ({ cls := "com/example/listwright/listwright/LinkedStorage", name := "get", desc := "(I)Ljava/lang/Object;" } : Jvm.MethodName) prog_19_method_3_code (2 : Nat) (Option.some (Jvm.ClassFile.FieldType.object "java/lang/Object"))).before args0 about1 = true := code_word (m := ⟨4, 2⟩) (meth := k4m2) (c := k4c2) (by decide +kernel) rfl rfl rfl (by decide +kernel)
set_option maxRecDepth 65536 in
theorem w_c15 : (Jvm.Cond.code ({ cls := "java/lang/Integer", name := "<init>", desc := "(I)V" } : Jvm.MethodName) jdk_33_method_23_code (2 : Nat) (Option.none : Option Jvm.ClassFile.FieldType)).before args0 about1 = true := code_word (m := ⟨9, 1⟩) (meth := k9m1) (c := k9c1) (by decide +kernel) rfl rfl rfl (by decide +kernel)
set_option maxRecDepth 65536 in
theorem w_c16 : (Jvm.Cond.code ({ cls := "java/lang/Number", name := "<init>", desc := "()V" } : Jvm.MethodName) jdk_18_method_1_code (1 : Nat) (Option.none : Option Jvm.ClassFile.FieldType)).before args0 about1 = true := code_word (m := ⟨5, 0⟩) (meth := k5m0) (c := k5c0) (by decide +kernel) rfl rfl rfl (by decide +kernel)
def codes1 : List Jvm.Cond := [Jvm.Cond.code x code maxLocals ret, Jvm.Cond.code ({ cls := "com/example/listwright/listwright/LinkedStorage", name := "<init>", desc := "()V" } : Jvm.MethodName) prog_19_method_1_code (1 : Nat) (Option.none : Option Jvm.ClassFile.FieldType), Jvm.Cond.code ({ cls := "com/example/listwright/listwright/Storage", name := "<init>", desc := "()V" } : Jvm.MethodName) prog_32_method_1_code (1 : Nat) (Option.none : Option Jvm.ClassFile.FieldType), Jvm.Cond.code ({ cls := "java/lang/Object", name := "<init>", desc := "()V" } : Jvm.MethodName) object_method_1_code (1 : Nat) (Option.none : Option Jvm.ClassFile.FieldType), Jvm.Cond.code ({ cls := "java/lang/Integer", name := "valueOf", desc := "(I)Ljava/lang/Integer;" } : Jvm.MethodName) jdk_33_method_22_code (1 : Nat) (Option.some (Jvm.ClassFile.FieldType.object "java/lang/Integer")), Jvm.Cond.code ({ cls := "com/example/listwright/listwright/LinkedStorage", name := "insert", desc := "(ILjava/lang/Object;)V" } : Jvm.MethodName) prog_19_method_5_code (3 : Nat) (Option.none : Option Jvm.ClassFile.FieldType), Jvm.Cond.code ({ cls := "com/example/listwright/listwright/LinkedStorage", name := "linkAfter", desc := "(Lcom/example/listwright/listwright/LinkedStorage$Node;Ljava/lang/Object;)Lcom/example/listwright/listwright/LinkedStorage$Node;" } : Jvm.MethodName) prog_19_method_18_code (5 : Nat) (Option.some (Jvm.ClassFile.FieldType.object "com/example/listwright/listwright/LinkedStorage$Node")), Jvm.Cond.code ({ cls := "com/example/listwright/listwright/LinkedStorage$Node", name := "<init>", desc := "(Ljava/lang/Object;)V" } : Jvm.MethodName) prog_20_method_1_code (2 : Nat) (Option.none : Option Jvm.ClassFile.FieldType), Jvm.Cond.code ({ cls := "com/example/listwright/listwright/LinkedStorage", name := "join", desc := "(Lcom/example/listwright/listwright/LinkedStorage$Node;Lcom/example/listwright/listwright/LinkedStorage$Node;)V" } : Jvm.MethodName) prog_19_method_20_code (3 : Nat) (Option.none : Option Jvm.ClassFile.FieldType), Jvm.Cond.code ({ cls := "com/example/listwright/listwright/LinkedStorage", name := "nodeAt", desc := "(I)Lcom/example/listwright/listwright/LinkedStorage$Node;" } : Jvm.MethodName) prog_19_method_16_code (4 : Nat) (Option.some (Jvm.ClassFile.FieldType.object "com/example/listwright/listwright/LinkedStorage$Node")), Jvm.Cond.code ({ cls := "com/example/listwright/listwright/LinkedStorage", name := "set", desc := "(ILjava/lang/Object;)Ljava/lang/Object;" } : Jvm.MethodName) prog_19_method_4_code (5 : Nat) (Option.some (Jvm.ClassFile.FieldType.object "java/lang/Object")), Jvm.Cond.code ({ cls := "com/example/listwright/listwright/LinkedStorageSetPinLaw", name := "eq", desc := "(Ljava/lang/Integer;I)Z" } : Jvm.MethodName) method_2_code (2 : Nat) (Option.some Jvm.ClassFile.FieldType.boolean), Jvm.Cond.code ({ cls := "java/lang/Integer", name := "intValue", desc := "()I" } : Jvm.MethodName) jdk_33_method_27_code (1 : Nat) (Option.some Jvm.ClassFile.FieldType.int), Jvm.Cond.code ({ cls := "com/example/listwright/listwright/LinkedStorage", name := "size", desc := "()I" } : Jvm.MethodName) prog_19_method_2_code (1 : Nat) (Option.some Jvm.ClassFile.FieldType.int), Jvm.Cond.code ({ cls := "com/example/listwright/listwright/LinkedStorage", name := "get", desc := "(I)Ljava/lang/Object;" } : Jvm.MethodName) prog_19_method_3_code (2 : Nat) (Option.some (Jvm.ClassFile.FieldType.object "java/lang/Object")), Jvm.Cond.code ({ cls := "java/lang/Integer", name := "<init>", desc := "(I)V" } : Jvm.MethodName) jdk_33_method_23_code (2 : Nat) (Option.none : Option Jvm.ClassFile.FieldType), Jvm.Cond.code ({ cls := "java/lang/Number", name := "<init>", desc := "()V" } : Jvm.MethodName) jdk_18_method_1_code (1 : Nat) (Option.none : Option Jvm.ClassFile.FieldType)]
set_option maxRecDepth 65536 in
theorem codes_eq : words1.filter isCode = codes1 := rfl
theorem w_codes : ∀ c ∈ words1.filter isCode, c.before args0 about1 = true := by
  rw [codes_eq]
  intro c hc
  simp only [codes1, List.mem_cons, List.not_mem_nil, or_false] at hc
  rcases hc with rfl | rfl | rfl | rfl | rfl | rfl | rfl | rfl | rfl | rfl | rfl | rfl | rfl | rfl | rfl | rfl | rfl
  · exact w_c0
  · exact w_c1
  · exact w_c2
  · exact w_c3
  · exact w_c4
  · exact w_c5
  · exact w_c6
  · exact w_c7
  · exact w_c8
  · exact w_c9
  · exact w_c10
  · exact w_c11
  · exact w_c12
  · exact w_c13
  · exact w_c14
  · exact w_c15
  · exact w_c16
set_option maxRecDepth 65536 in
theorem w_t1 : (words1.take 24).all (fun c => isCode c || c.before args0 about1) = true := by decide +kernel
set_option maxRecDepth 65536 in
theorem w_t2 : ((words1.drop 24).take 24).all (fun c => isCode c || c.before args0 about1) = true := by decide +kernel
set_option maxRecDepth 65536 in
theorem w_t3 : (((words1.drop 24).drop 24).take 24).all (fun c => isCode c || c.before args0 about1) = true := by decide +kernel
set_option maxRecDepth 65536 in
theorem w_t4 : ((((words1.drop 24).drop 24).drop 24).take 24).all (fun c => isCode c || c.before args0 about1) = true := by decide +kernel
set_option maxRecDepth 65536 in
theorem w_t5 : ((((words1.drop 24).drop 24).drop 24).drop 24).all (fun c => isCode c || c.before args0 about1) = true := by decide +kernel
theorem w_tables : (allAtoms (Jvm.Cond.code x code maxLocals ret :: tables_1)).before args0 about1 = true := by
  rw [allAtoms_all]
  show words1.all (fun c => c.before args0 about1) = true
  refine all_split ?_ w_codes
  rw [← List.take_append_drop 24 words1, List.all_append, w_t1, ← List.take_append_drop 24 (words1.drop 24), List.all_append, w_t2, ← List.take_append_drop 24 ((words1.drop 24).drop 24), List.all_append, w_t3, ← List.take_append_drop 24 (((words1.drop 24).drop 24).drop 24), List.all_append, w_t4, w_t5]
  rfl
set_option maxRecDepth 65536 in
theorem w_rest : rest_1_c.before args0 about1 = true := by decide +kernel
set_option maxRecDepth 65536 in
theorem w_case : (Jvm.Cond.and given_1 narrow_1).before args0 about1 = true := by decide +kernel
theorem w_applies : (headSpec (Jvm.Cond.code x code maxLocals ret :: tables_1) room_1).applies x e0.platform about1 = true :=
  (Spec.applies_iff w_frames).mpr ⟨w_running, w_runnable, w_alone, w_named, w_hears, w_ripe, w_room, w_tables⟩
theorem atStart : AtStart classFile x code maxLocals ret World_1 tables_1 room_1 Calls_1 rest_1 Pre_1 launch0 p0 e0 about1 theMethod args0 below0 :=
  ⟨lists_1, trivial, launch0.admits_env _ _ _, launch0.least_env, fairChoices_fair.cas, fairChoices_fair.clock, w_frames, w_args, w_heap, w_applies, trivial, w_rest, w_case⟩
end start1
theorem witness_1 : WitnessClaimed_1 := ⟨start1.p0, start1.e0, start1.about1, start1.theMethod, start1.args0, start1.below0, start1.atStart⟩
end Jvm.Pilot.@@N@@
