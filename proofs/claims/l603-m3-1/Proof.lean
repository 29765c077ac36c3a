import JvmDerived
import JvmDerived.Pilot.@@N@@Statement
import JvmDerived.Pilot.@@N@@Code
set_option linter.unusedVariables false
set_option linter.unusedSimpArgs false
namespace Jvm.Pilot.@@N@@
open Jvm Jvm.ClassFile Sem Op Lib Jvm.Free Jvm.Stand Jvm.LawKit Jvm.RoadKit Bundle Jvm.Pilot.@@N@@.Jvm.D
section OwnKit
variable {p : Program} {l : Launch} {e : Env} {R : Room} {s : State} {m : MethodId} {args : Array Value} {below : List Frame} {meth : Method} {c : Code} {T : State} {locs : List Loc} {cells slots : Nat} {Z : State} {a0 : Array Value} {h : Heap} {Q : Option Value → Heap → List Loc → Prop} {cl sl : Nat}
/-- from the state U the run comes back, and what it leaves is as Q says -/
def Fin1 (p : Program) (e : Env) (below : List Frame) (s : State) (Q : Option Value → Heap → List Loc → Prop) (cl sl : Nat) (U : State) : Prop :=
  ∃ s₂ o, Steps p.tables e below U s₂ ∧ s₂.status = .running ∧ Ended s₂ below o ∧ ∃ v L, o = .returned v ∧ Q v s₂.heap L ∧ FrameEnd s o s₂ L cl sl
theorem own_st {U V : State} (h : ∀ t, Steps p.tables e below V t → Steps p.tables e below U t) (k : Fin1 p e below s Q cl sl V) : Fin1 p e below s Q cl sl U := by
  obtain ⟨s₂, o, h1, r⟩ := k
  exact ⟨s₂, o, h _ h1, r⟩
/-- a contract -/
def Ct (l : Launch) (Z : State) (ws : List Jvm.Cond) (y : MethodName) (bytes : ByteArray) (maxL : Nat) (ret : Option FieldType) (rm : Room) (as' : Array Value) (h : Heap) (Q : Option Value → Heap → List Loc → Prop) : Prop :=
  MetFree l y (head1 (Jvm.Cond.code y bytes maxL ret :: ws) rm) (fun a U => a = as' ∧ Z.Warmed39 U.vm ∧ U.heap = h) (fun _ _ _ _ _ => True) (fun _ U o U' => ∃ v L, o = .returned v ∧ Q v U'.heap L ∧ FrameEnd U o U' L rm.cells rm.slots)
theorem own_enter {ws : List Jvm.Cond} {y : MethodName} {bytes : ByteArray} {maxL : Nat} {ret : Option FieldType} {rm : Room} {as' : Array Value} (hp : plainFor y = true)
    (body : ∀ (p : Program) (e : Env) (s : State) (m : MethodId) (below : List Frame) (meth : Method) (c : Code) (T : State), Stand p l e rm s m as' below meth c T [] 0 0 → p.tables.exec = Jvm.exec → c.code = bytes → c.maxLocals = maxL → Z.Warmed39 s.vm → s.vm.findClass y.cls = some m.cls → meth.name = y.name →
      meth.sig.returnType = ret → meth.locks = false → T.heap = h → Fin1 p e below s Q rm.cells rm.slots (T.setTop (entryFrame m as' maxL))) : Ct l Z ws y bytes maxL ret rm as' h Q := by
  refine MetFree.of_bodySF hp hisR ?_
  intro p e s m args below meth c s₁ Bd hml hP _
  obtain ⟨rfl, hZ, hh⟩ := hP
  exact body p e s m below meth c s₁ (Stand.of_body Bd) Bd.exec Bd.bytes hml hZ (findClass_of_methodNamed Bd.named) (name_of_methodNamed Bd.named Bd.method).1 Bd.returns (BodyLoose.notSynchronized Bd) (by rw [← hh, Bd.state]; rfl)
/-- a stronger promise pays a weaker one -/
theorem Ct.mono {ws : List Jvm.Cond} {y : MethodName} {bytes : ByteArray} {maxL : Nat} {ret : Option FieldType} {rm : Room} {as' : Array Value} {Q' : Option Value → Heap → List Loc → Prop} (hC : Ct l Z ws y bytes maxL ret rm as' h Q) (hQ : ∀ v h' L, Q v h' L → Q' v h' L) : Ct l Z ws y bytes maxL ret rm as' h Q' := by
  intro p e ha hc hk s m args below hf happ hP hK
  obtain ⟨n, o, h1, h2, h3, v, L, h4, h5, h6⟩ := hC p e ha hc hk s m args below hf happ hP hK
  exact ⟨n, o, h1, h2, h3, v, L, h4, hQ _ _ _ h5, h6⟩
theorem own_leave (X : Stand p l e R s m args below meth c T locs cells slots) (hlk : meth.locks = false) {v : Option Value} (hv : meth.sig.returnType = none → v = none) {U : State}
    (hst : ∀ fs, (∀ (f : JFrame) (acts : List Action), f.method = m → f.locked = none → f.entered = [] → (doReturn e (T.setTop f) acts v).1 = T.setFrames fs) → Steps p.tables e below U (T.setFrames fs))
    (hQ : Q v T.heap locs) (hc : cells ≤ cl) (hs : slots ≤ sl) : Fin1 p e below s Q cl sl U := by
  obtain ⟨fs, hr, hrun, hended, hW, hsame⟩ := X.leave (v := v) hv hlk
  exact ⟨_, _, hst fs hr, hrun, hended, v, locs, rfl, hQ, ⟨_, rfl⟩, hW, hsame.mono hc hs⟩
theorem own_retV (X : Stand p l e R s m args below meth c T locs cells slots) (hx : p.tables.exec = Jvm.exec) (hlk : meth.locks = false) {pc : Nat} {Ls : Array Slot} (hret : meth.sig.returnType = none) (hd : decode c.code pc = .ok (.return_, 1))
    (hQ : Q none T.heap locs) (hc : cells ≤ cl) (hs : slots ≤ sl) : Fin1 p e below s Q cl sl (T.setTop (mkF m pc Ls [])) :=
  own_leave X hlk (fun _ => rfl) (fun fs hr => X.returnOut hx hret hd hr) hQ hc hs
theorem own_retI (X : Stand p l e R s m args below meth c T locs cells slots) (hx : p.tables.exec = Jvm.exec) (hlk : meth.locks = false) {pc : Nat} {Ls : Array Slot} {z : Int32} {rest : List Value} (hret : meth.sig.returnType = some .int) (hd : decode c.code pc = .ok (.ireturn, 1))
    (hQ : Q (some (.int z)) T.heap locs) (hc : cells ≤ cl) (hs : slots ≤ sl) : Fin1 p e below s Q cl sl (T.setTop (mkF m pc Ls (.int z :: rest))) :=
  own_leave X hlk (fun h => by rw [hret] at h; cases h) (fun fs hr => retOut X hx hret rfl (Or.inl ⟨rfl, Or.inl rfl, _, rfl⟩) hd hr) hQ hc hs
theorem own_retZ (X : Stand p l e R s m args below meth c T locs cells slots) (hx : p.tables.exec = Jvm.exec) (hlk : meth.locks = false) {pc : Nat} {Ls : Array Slot} {rest : List Value} (hret : meth.sig.returnType = some .boolean) (hd : decode c.code pc = .ok (.ireturn, 1)) {z : Int32} (hz : z = 0 ∨ z = 1)
    (hQ : Q (some (.int z)) T.heap locs) (hc : cells ≤ cl) (hs : slots ≤ sl) : Fin1 p e below s Q cl sl (T.setTop (mkF m pc Ls (.int z :: rest))) :=
  own_leave X hlk (fun h => by rw [hret] at h; cases h) (fun fs hr => retOut X hx hret (by rcases hz with rfl | rfl <;> rfl) (Or.inl ⟨rfl, Or.inr (Or.inl rfl), _, rfl⟩) hd hr) hQ hc hs
theorem own_retJ (X : Stand p l e R s m args below meth c T locs cells slots) (hx : p.tables.exec = Jvm.exec) (hlk : meth.locks = false) {pc : Nat} {Ls : Array Slot} {z : Int64} {rest : List Value} (hret : meth.sig.returnType = some .long) (hd : decode c.code pc = .ok (.lreturn, 1))
    (hQ : Q (some (.long z)) T.heap locs) (hc : cells ≤ cl) (hs : slots ≤ sl) : Fin1 p e below s Q cl sl (T.setTop (mkF m pc Ls (.long z :: rest))) :=
  own_leave X hlk (fun h => by rw [hret] at h; cases h) (fun fs hr => retOut X hx hret rfl (Or.inr (Or.inl ⟨rfl, rfl, _, rfl⟩)) hd hr) hQ hc hs
theorem own_retA (X : Stand p l e R s m args below meth c T locs cells slots) (hx : p.tables.exec = Jvm.exec) (hlk : meth.locks = false) {pc : Nat} {Ls : Array Slot} {z : Value} {rest : List Value} {t : FieldType} (hret : meth.sig.returnType = some t) (ht : t.isReference = true) (hz : z.isRef = true) (hd : decode c.code pc = .ok (.areturn, 1))
    (hQ : Q (some z) T.heap locs) (hc : cells ≤ cl) (hs : slots ≤ sl) : Fin1 p e below s Q cl sl (T.setTop (mkF m pc Ls (z :: rest))) :=
  own_leave X hlk (fun h => by rw [hret] at h; cases h) (fun fs hr => retOut X hx hret (by cases t <;> first | (cases ht; done) | (cases z <;> first | (cases hz; done) | rfl)) (Or.inr (Or.inr (Or.inr (Or.inr ⟨rfl, ht, hz⟩)))) hd hr) hQ hc hs
variable {own : String} {index : Nat} {y z : MethodName} {bytes : ByteArray} {maxL : Nat} {ret : Option FieldType} {rm : Room} {argsL rest : List Value} {a : Addr}
theorem own_static (X : Stand p l e R s m args below meth c T locs cells slots) (hx : p.tables.exec = Jvm.exec) (hZ : Z.Warmed39 s.vm) (hown : s.vm.findClass own = some m.cls) (w1 : (Jvm.Cond.methodLink own index y).before a0 Z = true) (w2 : (Jvm.Cond.static y).before a0 Z = true) (w3 : (Jvm.Cond.initialized y.cls).before a0 Z = true)
    (w4 : (Jvm.Cond.code y bytes maxL ret).before a0 Z = true) (hy : y.cls ≠ "java/lang/invoke/MethodHandle" ∧ y.cls ≠ "java/lang/invoke/VarHandle") (hC : Ct l Z [] y bytes maxL ret rm argsL.toArray h Q) (eT : T.heap = h) {g : JFrame} (hg : g.method = m) (hsize : g.locals.size = c.maxLocals)
    (hlen : ∀ sig, parseMethodDescriptor y.desc = some sig → argsL.length = sig.parameters.length) (hs : g.stack = argsL.reverse ++ rest) {W : Nat} (hW : 2 * g.monitorRoom + (rest.map fun v => v.category).sum ≤ W) (hd : decode c.code g.pc = .ok (.invokestatic index, 3))
    (hf : rm.frames + 1 ≤ R.frames) (hl : W + (maxL + 11) + rm.locals ≤ R.locals) (hc : cells + rm.cells ≤ R.cells) (hsl : slots + rm.slots ≤ R.slots) :
    ∃ v T' h' L, Stand p l e R s m args below meth c T' (locs ++ L) (cells + rm.cells) (slots + rm.slots) ∧ T'.heap = h' ∧ Q v h' L ∧ ∀ t, Steps p.tables e below (T'.setTop { g with pc := g.pc + 3, stack := v.toList ++ rest }) t → Steps p.tables e below (T.setTop g) t := by
  obtain ⟨v, _, ⟨T', L', k', n'⟩, -, X', ⟨Lc, hQ, l1, y1, z1⟩, st⟩ := Jvm.LawKit.callS X hx (y := y) hown (mvT hZ w1) (mvT hZ w2) (mvT hZ w3) (mvT hZ w4) hy (backOf (W := W) hC hZ w4 w3 hf hl) hg hsize hlen hs hW hd (fun _ _ => ⟨rfl, eT, hc, hsl⟩)
  dsimp only [Pt.U, Pt.locs, Pt.cells, Pt.slots] at X' l1 y1 z1 st hQ
  subst l1 y1 z1
  exact ⟨v, T', _, Lc, X', rfl, hQ, st⟩
theorem own_special (X : Stand p l e R s m args below meth c T locs cells slots) (hx : p.tables.exec = Jvm.exec) (hZ : Z.Warmed39 s.vm) (hown : s.vm.findClass own = some m.cls) (hy1 : y.name = "<init>") (w1 : (Jvm.Cond.methodLink own index y).before a0 Z = true) (w2 : (Jvm.Cond.instanceMethod y).before a0 Z = true)
    (w4 : (Jvm.Cond.code y bytes maxL none).before a0 Z = true) (w3 : (Jvm.Cond.initialized y.cls).before a0 Z = true) (hy : y.cls ≠ "java/lang/invoke/MethodHandle" ∧ y.cls ≠ "java/lang/invoke/VarHandle") (hC : Ct l Z [] y bytes maxL none rm (.ref a :: argsL).toArray h Q) (eT : T.heap = h) {g : JFrame} (hg : g.method = m) (hsize : g.locals.size = c.maxLocals)
    (hlen : ∀ sig, parseMethodDescriptor y.desc = some sig → argsL.length = sig.parameters.length) (hs : g.stack = argsL.reverse ++ .ref a :: rest) {W : Nat} (hW : 2 * g.monitorRoom + (rest.map fun v => v.category).sum ≤ W) (hd : decode c.code g.pc = .ok (.invokespecial index, 3))
    (hf : rm.frames + 1 ≤ R.frames) (hl : W + (maxL + 11) + rm.locals ≤ R.locals) (hc : cells + rm.cells ≤ R.cells) (hsl : slots + rm.slots ≤ R.slots) :
    ∃ v T' h' L, Stand p l e R s m args below meth c T' (locs ++ L) (cells + rm.cells) (slots + rm.slots) ∧ T'.heap = h' ∧ Q v h' L ∧ ∀ t, Steps p.tables e below (T'.setTop { g with pc := g.pc + 3, stack := v.toList ++ rest }) t → Steps p.tables e below (T.setTop g) t := by
  obtain ⟨v, _, ⟨T', L', k', n'⟩, -, X', ⟨Lc, hQ, l1, y1, z1⟩, st⟩ := X.specialBack hx (y := y) hy1 hown (mvT hZ w1) (mvT hZ w2) (mvT hZ w4) hy (backOf (W := W) hC hZ w4 w3 hf hl) hg hsize (Steps.refl _) (a := a) hlen hs hW hd (fun _ _ => ⟨rfl, eT, hc, hsl⟩)
  dsimp only [Pt.U, Pt.locs, Pt.cells, Pt.slots] at X' l1 y1 z1 st hQ
  subst l1 y1 z1
  exact ⟨v, T', _, Lc, X', rfl, hQ, fun t k => st.trans k⟩
theorem own_virtual {C : String} (X : Stand p l e R s m args below meth c T locs cells slots) (hx : p.tables.exec = Jvm.exec) (hZ : Z.Warmed39 s.vm) (hown : s.vm.findClass own = some m.cls) (w1 : (Jvm.Cond.methodLink own index y).before a0 Z = true) (w2 : (Jvm.Cond.declares y).before a0 Z = true) (w5 : (Jvm.Cond.selects C y y).before a0 Z = true)
    (w6 : (Jvm.Cond.instanceMethod y).before a0 Z = true) (w4 : (Jvm.Cond.code y bytes maxL ret).before a0 Z = true) (w3 : (Jvm.Cond.initialized y.cls).before a0 Z = true) (hy : y.cls ≠ "java/lang/invoke/MethodHandle" ∧ y.cls ≠ "java/lang/invoke/VarHandle") (E : Exa Z h a C) (hC : Ct l Z [] y bytes maxL ret rm (.ref a :: argsL).toArray h Q) (eT : T.heap = h) {g : JFrame} (hg : g.method = m) (hsize : g.locals.size = c.maxLocals)
    (hlen : ∀ sig, parseMethodDescriptor y.desc = some sig → argsL.length = sig.parameters.length) (hs : g.stack = argsL.reverse ++ .ref a :: rest) {W : Nat} (hW : 2 * g.monitorRoom + (rest.map fun v => v.category).sum ≤ W) (hd : decode c.code g.pc = .ok (.invokevirtual index, 3))
    (hf : rm.frames + 1 ≤ R.frames) (hl : W + (maxL + 11) + rm.locals ≤ R.locals) (hc : cells + rm.cells ≤ R.cells) (hsl : slots + rm.slots ≤ R.slots) :
    ∃ v T' h' L, Stand p l e R s m args below meth c T' (locs ++ L) (cells + rm.cells) (slots + rm.slots) ∧ T'.heap = h' ∧ Q v h' L ∧ ∀ t, Steps p.tables e below (T'.setTop { g with pc := g.pc + 3, stack := v.toList ++ rest }) t → Steps p.tables e below (T.setTop g) t := by
  obtain ⟨cq, kq, qa, qb, qc⟩ := isOf hZ eT E
  obtain ⟨v, _, ⟨T', L', k', n'⟩, -, X', ⟨Lc, hQ, l1, y1, z1⟩, st⟩ := X.virtualBack hx (y := y) (z := y) hown (mvT hZ w1) (mvT hZ w2) (notFace_of_selects (args := #[]) (mvT hZ w5)) (mvT hZ w5) (mvT hZ w6) hy (backOf (W := W) hC hZ w4 w3 hf hl) qa qc hg hsize (Steps.refl _) hlen hs hW hd (fun _ _ => ⟨rfl, eT, hc, hsl⟩)
  dsimp only [Pt.U, Pt.locs, Pt.cells, Pt.slots] at X' l1 y1 z1 st hQ
  subst l1 y1 z1
  exact ⟨v, T', _, Lc, X', rfl, hQ, fun t k => st.trans k⟩
theorem own_private {nn : Nat} (X : Stand p l e R s m args below meth c T locs cells slots) (hx : p.tables.exec = Jvm.exec) (hZ : Z.Warmed39 s.vm) (hown : s.vm.findClass own = some m.cls) (w1 : (Jvm.Cond.methodLink own index y).before a0 Z = true) (w2 : (Jvm.Cond.instanceMethod y).before a0 Z = true) (wi : (Jvm.Cond.instantiable y.cls nn).before a0 Z = true)
    (wp : (Jvm.Cond.privateMethod y).before a0 Z = true) (w4 : (Jvm.Cond.code y bytes maxL ret).before a0 Z = true) (w3 : (Jvm.Cond.initialized y.cls).before a0 Z = true) (hy : y.cls ≠ "java/lang/invoke/MethodHandle" ∧ y.cls ≠ "java/lang/invoke/VarHandle") (E : Exa Z h a y.cls) (hC : Ct l Z [] y bytes maxL ret rm (.ref a :: argsL).toArray h Q) (eT : T.heap = h) {g : JFrame} (hg : g.method = m) (hsize : g.locals.size = c.maxLocals)
    (hlen : ∀ sig, parseMethodDescriptor y.desc = some sig → argsL.length = sig.parameters.length) (hs : g.stack = argsL.reverse ++ .ref a :: rest) {W : Nat} (hW : 2 * g.monitorRoom + (rest.map fun v => v.category).sum ≤ W) (hd : decode c.code g.pc = .ok (.invokevirtual index, 3))
    (hf : rm.frames + 1 ≤ R.frames) (hl : W + (maxL + 11) + rm.locals ≤ R.locals) (hc : cells + rm.cells ≤ R.cells) (hsl : slots + rm.slots ≤ R.slots) :
    ∃ v T' h' L, Stand p l e R s m args below meth c T' (locs ++ L) (cells + rm.cells) (slots + rm.slots) ∧ T'.heap = h' ∧ Q v h' L ∧ ∀ t, Steps p.tables e below (T'.setTop { g with pc := g.pc + 3, stack := v.toList ++ rest }) t → Steps p.tables e below (T.setTop g) t := by
  obtain ⟨cell, hcell, hobj⟩ := E.cell
  have hsel : (Jvm.Cond.selects y.cls y y).before args s = true := by
    obtain ⟨c', k', i1, i2, -, i4, -⟩ := Cond.instantiable_spec (mvT hZ wi : (Jvm.Cond.instantiable y.cls nn).before args s = true)
    exact selects_self_of_private i1 i2 (Bool.or_eq_false_iff.mp i4).1 (Cond.privateMethod_at (mvP hZ wp (args := args))) (mvT hZ w2) hy
  obtain ⟨v, _, ⟨T', L', k', n'⟩, -, X', ⟨Lc, hQ, l1, y1, z1⟩, st⟩ := X.privateBack hx (y := y) hown (mvT hZ w1) (mvT hZ w2) hsel (Cond.privateMethod_at (mvP hZ wp (args := #[]))) (mvT hZ w4) hy (backOf (W := W) hC hZ w4 w3 hf hl) hg hsize (Steps.refl _) (a := a) (by rw [eT]; exact hcell) hobj hlen hs hW hd (fun _ _ => ⟨rfl, eT, hc, hsl⟩)
  dsimp only [Pt.U, Pt.locs, Pt.cells, Pt.slots] at X' l1 y1 z1 st hQ
  subst l1 y1 z1
  exact ⟨v, T', _, Lc, X', rfl, hQ, fun t k => st.trans k⟩
theorem own_virtualUp {C owner : String} (X : Stand p l e R s m args below meth c T locs cells slots) (hx : p.tables.exec = Jvm.exec) (hZ : Z.Warmed39 s.vm) (hown : s.vm.findClass own = some m.cls) (w1 : (Jvm.Cond.methodLink own index y).before a0 Z = true) (ws : (Jvm.Cond.sameMethod y.cls owner y.name y.desc).before a0 Z = true) (w2 : (Jvm.Cond.declares ⟨owner, y.name, y.desc⟩).before a0 Z = true) (w5 : (Jvm.Cond.selects C y z).before a0 Z = true)
    (w6 : (Jvm.Cond.instanceMethod z).before a0 Z = true) (w4 : (Jvm.Cond.code z bytes maxL ret).before a0 Z = true) (w3 : (Jvm.Cond.initialized z.cls).before a0 Z = true) (ho : owner ≠ "java/lang/invoke/MethodHandle" ∧ owner ≠ "java/lang/invoke/VarHandle") (E : Exa Z h a C) (hC : Ct l Z [] z bytes maxL ret rm (.ref a :: argsL).toArray h Q) (eT : T.heap = h) {g : JFrame} (hg : g.method = m) (hsize : g.locals.size = c.maxLocals)
    (hlen : ∀ sig, parseMethodDescriptor y.desc = some sig → argsL.length = sig.parameters.length) (hs : g.stack = argsL.reverse ++ .ref a :: rest) {W : Nat} (hW : 2 * g.monitorRoom + (rest.map fun v => v.category).sum ≤ W) (hd : decode c.code g.pc = .ok (.invokevirtual index, 3))
    (hf : rm.frames + 1 ≤ R.frames) (hl : W + (maxL + 11) + rm.locals ≤ R.locals) (hc : cells + rm.cells ≤ R.cells) (hsl : slots + rm.slots ≤ R.slots) :
    ∃ v T' h' L, Stand p l e R s m args below meth c T' (locs ++ L) (cells + rm.cells) (slots + rm.slots) ∧ T'.heap = h' ∧ Q v h' L ∧ ∀ t, Steps p.tables e below (T'.setTop { g with pc := g.pc + 3, stack := v.toList ++ rest }) t → Steps p.tables e below (T.setTop g) t := by
  obtain ⟨cq, kq, qa, qb, qc⟩ := isOf hZ eT E
  obtain ⟨v, _, ⟨T', L', k', n'⟩, -, X', ⟨Lc, hQ, l1, y1, z1⟩, st⟩ := X.virtualBackUp hx (x := y) (y := z) (owner := owner) hown (mvT hZ w1) (mvT hZ ws) (mvT hZ w2) ho (mvT hZ w5) (mvT hZ w6) (backOf (W := W) hC hZ w4 w3 hf hl) qa qc hg hsize (Steps.refl _) hlen hs hW hd (fun _ _ => ⟨rfl, eT, hc, hsl⟩)
  dsimp only [Pt.U, Pt.locs, Pt.cells, Pt.slots] at X' l1 y1 z1 st hQ
  subst l1 y1 z1
  exact ⟨v, T', _, Lc, X', rfl, hQ, fun t k => st.trans k⟩
theorem own_ref {x : Value} (hq : x = .null ∨ ∃ b, x = .ref b) : x.isRef = true := by rcases hq with rfl | ⟨_, rfl⟩ <;> rfl
theorem own_cat {x : Value} (hq : x = .null ∨ ∃ b, x = .ref b) : x.category = 1 := by rcases hq with rfl | ⟨_, rfl⟩ <;> rfl
theorem own_nar {x : Value} {t : FieldType} (hq : x = .null ∨ ∃ b, x = .ref b) (ht : t.isReference = true) : narrow t x = x := by rcases hq with rfl | ⟨_, rfl⟩ <;> cases t <;> first | rfl | (cases ht; done)
theorem own_fit {x : Value} {t : FieldType} (hq : x = .null ∨ ∃ b, x = .ref b) (ht : t.isReference = true) : fits t x = true := by rcases hq with rfl | ⟨_, rfl⟩ <;> cases t <;> first | rfl | (cases ht; done)
variable {k : ClassId} {ty : FieldType} {n j : Int32} {vs : List Value} {dv v : Value}
theorem own_ld (X : Stand p l e R s m args below meth c T locs cells slots) (hx : p.tables.exec = Jvm.exec) (hZ : Z.Warmed39 s.vm) (eT : T.heap = h) (F : Arv Z h a k ty n vs dv) (hj : ¬ j < 0 ∧ j < n) (hv : vs.getD j.toNatClampNeg dv = v) {g : JFrame} (hg : g.method = m) (hs : g.stack = .int j :: .ref a :: rest) {i : Instr}
    (hi : (i = .iaload ∧ ty = .int) ∨ (i = .laload ∧ ty = .long) ∨ (i = .aaload ∧ ty.isReference = true)) (hd : decode c.code g.pc = .ok (i, 1)) : ∀ t, Steps p.tables e below (T.setTop { g with pc := g.pc + 1, stack := v :: rest }) t → Steps p.tables e below (T.setTop g) t := by
  obtain ⟨cl, A, -, S, -, H, -⟩ := F
  have hin := inb_of S hj
  have hat := H.at hin hv
  rcases hi with ⟨rfl, rfl⟩ | ⟨rfl, rfl⟩ | ⟨rfl, ht⟩
  · exact X.iaload hx (j := j) (v := v) (by rw [eT]; exact A.1) (State.isArrayOf_alike hZ.alike A.2.1) A.2.2 hin hat hg hs hd
  · exact X.laload hx (j := j) (v := v) (by rw [eT]; exact A.1) (State.isArrayOf_alike hZ.alike A.2.1) A.2.2 hin hat hg hs hd
  · exact X.aaload hx (j := j) (v := v) (by rw [eT]; exact A.1) (State.isArrayOf_alike hZ.alike A.2.1) ht A.2.2 hin hat hg hs hd
theorem own_len (X : Stand p l e R s m args below meth c T locs cells slots) (hx : p.tables.exec = Jvm.exec) (hZ : Z.Warmed39 s.vm) (eT : T.heap = h) (F : Arv Z h a k ty n vs dv) {g : JFrame} (hg : g.method = m) (hs : g.stack = .ref a :: rest) (hd : decode c.code g.pc = .ok (.arraylength, 1)) :
    ∀ t, Steps p.tables e below (T.setTop { g with pc := g.pc + 1, stack := .int n :: rest }) t → Steps p.tables e below (T.setTop g) t := by
  obtain ⟨cl, A, -, S, q, -, -⟩ := F
  intro t kt
  refine X.arraylength hx (by rw [eT]; exact A.1) (State.isArrayOf_alike hZ.alike A.2.1) hg hs hd t ?_
  rw [len_of S q]
  exact kt
theorem own_lenA {cc : Cell} (X : Stand p l e R s m args below meth c T locs cells slots) (hx : p.tables.exec = Jvm.exec) (hZ : Z.Warmed39 s.vm) (eT : T.heap = h) (A : Arr Z h a cc ty) (hn : cc.slots.size.toInt32 = n) {g : JFrame} (hg : g.method = m) (hs : g.stack = .ref a :: rest) (hd : decode c.code g.pc = .ok (.arraylength, 1)) :
    ∀ t, Steps p.tables e below (T.setTop { g with pc := g.pc + 1, stack := .int n :: rest }) t → Steps p.tables e below (T.setTop g) t := by
  intro t kt
  refine X.arraylength hx (by rw [eT]; exact A.1) (State.isArrayOf_alike hZ.alike A.2.1) hg hs hd t ?_
  rw [hn]
  exact kt
theorem own_stI (X : Stand p l e R s m args below meth c T locs cells slots) (hx : p.tables.exec = Jvm.exec) (hZ : Z.Warmed39 s.vm) (eT : T.heap = h) (F : Arv Z h a k .int n vs dv) (hj : ¬ j < 0 ∧ j < n) (i : Nat) (hi : j.toNatClampNeg = i) (hl : i < vs.length) {x : Int32} {g : JFrame} (hg : g.method = m) (hs : g.stack = .int x :: .int j :: .ref a :: rest) (hd : decode c.code g.pc = .ok (.iastore, 1)) :
    ∃ T' h', Stand p l e R s m args below meth c T' (locs ++ [⟨a, j.toNatClampNeg⟩]) cells slots ∧ T'.heap = h' ∧ Wr h h' a j.toNatClampNeg (.int x) ∧ Arv Z h' a k .int n (vs.set i (.int x)) dv ∧ ∀ t, Steps p.tables e below (T'.setTop { g with pc := g.pc + 1, stack := rest }) t → Steps p.tables e below (T.setTop g) t := by
  obtain ⟨cl, A, q1, S, q3, H, G⟩ := F
  obtain ⟨T', h', X', e', W, st⟩ := stI X hx hZ eT A (inb_of S hj) hg hs hd
  exact ⟨T', h', X', e', W, Arv.set A q1 S q3 H G rfl W i hi hl, st⟩
theorem own_stJ (X : Stand p l e R s m args below meth c T locs cells slots) (hx : p.tables.exec = Jvm.exec) (hZ : Z.Warmed39 s.vm) (eT : T.heap = h) (F : Arv Z h a k .long n vs dv) (hj : ¬ j < 0 ∧ j < n) (i : Nat) (hi : j.toNatClampNeg = i) (hl : i < vs.length) {x : Int64} {g : JFrame} (hg : g.method = m) (hs : g.stack = .long x :: .int j :: .ref a :: rest) (hd : decode c.code g.pc = .ok (.lastore, 1)) :
    ∃ T' h', Stand p l e R s m args below meth c T' (locs ++ [⟨a, j.toNatClampNeg⟩]) cells slots ∧ T'.heap = h' ∧ Wr h h' a j.toNatClampNeg (.long x) ∧ Arv Z h' a k .long n (vs.set i (.long x)) dv ∧ ∀ t, Steps p.tables e below (T'.setTop { g with pc := g.pc + 1, stack := rest }) t → Steps p.tables e below (T.setTop g) t := by
  obtain ⟨cl, A, q1, S, q3, H, G⟩ := F
  obtain ⟨T', h', X', e', W, st⟩ := stJ X hx hZ eT A (inb_of S hj) hg hs hd
  exact ⟨T', h', X', e', W, Arv.set A q1 S q3 H G rfl W i hi hl, st⟩
theorem own_stR {C : String} {y : Value} (X : Stand p l e R s m args below meth c T locs cells slots) (hx : p.tables.exec = Jvm.exec) (hZ : Z.Warmed39 s.vm) (eT : T.heap = h) (F : Arv Z h a k ty n vs dv) (ht : ty.isReference = true) (hf : fits ty y = true) (O : y = .null ∨ ∃ b, y = .ref b ∧ Ovr Z k C ∧ Ins Z h b C true) (hj : ¬ j < 0 ∧ j < n) (i : Nat) (hi : j.toNatClampNeg = i) (hl : i < vs.length) {g : JFrame} (hg : g.method = m) (hs : g.stack = y :: .int j :: .ref a :: rest) (hd : decode c.code g.pc = .ok (.aastore, 1)) :
    ∃ T' h', Stand p l e R s m args below meth c T' (locs ++ [⟨a, j.toNatClampNeg⟩]) cells slots ∧ T'.heap = h' ∧ Wr h h' a j.toNatClampNeg y ∧ Arv Z h' a k ty n (vs.set i y) dv ∧ ∀ t, Steps p.tables e below (T'.setTop { g with pc := g.pc + 1, stack := rest }) t → Steps p.tables e below (T.setTop g) t := by
  obtain ⟨cl, A, q1, S, q3, H, G⟩ := F
  obtain ⟨T', h', X', e', W, st⟩ := stR X hx hZ eT A (inb_of S hj) ht (by rcases O with rfl | ⟨b, rfl, O, I⟩; exact Or.inl rfl; exact Sto.ofV A q1 O I) hg hs hd
  exact ⟨T', h', X', e', W, Arv.set A q1 S q3 H G hf W i hi hl, st⟩
end OwnKit
theorem own_lens {Z : State} {a0 : Array Value} {t : Term} {a : Addr} {cc : Cell} {x : Value} (ec : t.eval a0 Z none [] Z = some (.ref a)) (ha : Z.arrayAt? a = some cc) (el : (Term.length t).eval a0 Z none [] Z = some x) : cc.slots.size < 2 ^ 31 := by
  by_cases q : cc.slots.size < 2 ^ 31
  · exact q
  · simp [Term.eval, ec, ha] at el; omega
def own_IC (Z : State) : Prop := Sta Z Z.heap "java/lang/Integer$IntegerCache" "high" "I" (.int (127 : Int32)) ∧ ∃ (ca : Addr) (cc : Cell), Sta Z Z.heap "java/lang/Integer$IntegerCache" "cache" "[Ljava/lang/Integer;" (.ref ca) ∧ Bxs Z ca cc "java/lang/Integer" "I" (256 : Int32) (fun j => .int (j - (128 : Int32)))
set_option maxRecDepth 65536 in
theorem own_ic {Z : State} {a0 : Array Value} (hw : ∀ d ∈ tables_1, d.before a0 Z = true) (hsets : ∀ d ∈ jdkStatics_1, d.before a0 Z = true) : own_IC Z := by
  have w1 := hsets _ (List.mem_of_getElem? (i := 1) rfl)
  have w2 := hsets _ (List.mem_of_getElem? (i := 2) rfl)
  have w3 := Cond.before_iff.mp (hsets _ (List.mem_of_getElem? (i := 3) rfl))
  have w4 := Cond.before_iff.mp (hsets _ (List.mem_of_getElem? (i := 4) rfl))
  have w6 := Cond.before_iff.mp (hsets _ (List.mem_of_getElem? (i := 6) rfl))
  have w7 := Cond.before_iff.mp (hsets _ (List.mem_of_getElem? (i := 7) rfl))
  have eh := eqv_i (Term.int_eval 127) w3
  obtain ⟨ca, ec⟩ := arr_v w4
  obtain ⟨cc, A⟩ := Arr.start ec w4
  have el := eqv_i (Term.int_eval 256) w6
  have ha := A.fin (Vm.Alike.refl _)
  have hl : cc.slots.size < 2 ^ 31 := own_lens ec ha el
  have el2 := len_f ec ha hl
  have es : cc.slots.size.toInt32 = (256 : Int32) := by
    have := el2.symm.trans el
    simpa using this
  refine ⟨Sta.start eh (Or.inl w1), ca, cc, Sta.start ec (Or.inr ⟨(hw _ (List.mem_of_getElem? (i := 6) rfl)), w2⟩), Bxs.start (fun _ => ec) A hl es (by decide) w7 (fun X j nn hX => ?_)⟩
  refine eqv_i ?_ hX
  have ei := idx_at (args := a0) (s := Z) (first := Z) (o := none) nn
  simp [Term.eval] at ei
  simp [Term.eval, ei]
theorem own_idx (i : Int32) (h1 : ¬ i < (-128 : Int32)) (h2 : ¬ (127 : Int32) < i) : ¬ (i + (128 : Int32)) < 0 ∧ (i + (128 : Int32)) < (256 : Int32) ∧ (i + (128 : Int32)) - (128 : Int32) = i := by
  rw [Int32.lt_iff_toInt_lt] at h1 h2
  have e1 : (-128 : Int32).toInt = -128 := rfl
  have e2 : (127 : Int32).toInt = 127 := rfl
  have e3 : (0 : Int32).toInt = 0 := rfl
  have e4 : (256 : Int32).toInt = 256 := rfl
  have e5 : (128 : Int32).toInt = 128 := rfl
  have q := c_iadd i (128 : Int32)
  have r := rng32 (i + (128 : Int32))
  have r' := rng32 i
  refine ⟨?_, ?_, Int32.add_sub_cancel _ _⟩
  · rw [Int32.lt_iff_toInt_lt]; omega
  · rw [Int32.lt_iff_toInt_lt]; omega
theorem d12_0 : decode jdk_18_method_1_code 0 = .ok (.aload_n 0, 1) := by decide +kernel
theorem d12_1 : decode jdk_18_method_1_code 1 = .ok (.invokespecial 1, 3) := by decide +kernel
theorem d12_4 : decode jdk_18_method_1_code 4 = .ok (.return_, 1) := by decide +kernel
theorem pn_0 : plainName "java/lang/Number" = true := by first | (simp [plainName, overriddenIn]; done) | decide +kernel
def rmNumQ (Z : State) (a1 : Addr) (h0 : Heap) (n0 : Nat) (v : Option Value) (h : Heap) (L : List Loc) : Prop := v = none ∧ Fr n0 L ∧ h = h0
set_option maxRecDepth 65536 in
set_option maxHeartbeats 40000000 in
theorem rmNum (l : Launch) (Z : State) (a0 : Array Value) (hw : ∀ d ∈ tables_1, d.before a0 Z = true) (a1 : Addr) (h0 : Heap) (n0 : Nat) (Z0 : n0 ≤ h0.size) :
    Ct l Z [] (⟨"java/lang/Number", "<init>", "()V"⟩ : MethodName) jdk_18_method_1_code 1 none ({ frames := 1, cells := 0, slots := 0, locals := 12 } : Room) #[(.ref a1)] h0 (rmNumQ Z a1 h0 n0) := by
  refine own_enter (plainFor_of_name pn_0) ?_
  intro p e s m below meth c T0 X0 hx hby hml hZ hown hnm hret hlk e0
  have hown : s.vm.findClass "java/lang/Number" = some m.cls := hown
  have N0 := Fr.nil n0
  have K0 := Keep.refl h0 []
  refine own_st (fun wt wk => castTop (g' := mkF m 0 #[.val (.ref a1)] []) (by first | (simp [entryFrame, mkF, argsToLocals, Value.category]; done) | rfl) wk) ?_
  show Fin1 p e below s (rmNumQ Z a1 h0 n0) ({ frames := 1, cells := 0, slots := 0, locals := 12 } : Room).cells ({ frames := 1, cells := 0, slots := 0, locals := 12 } : Room).slots (T0.setTop (mkF m 0 #[.val (.ref a1)] []))
  refine own_st (fun wt wk => XS.aloadN X0.here hx rfl (hb hby d12_0) rfl rfl wk) ?_
  show Fin1 p e below s (rmNumQ Z a1 h0 n0) ({ frames := 1, cells := 0, slots := 0, locals := 12 } : Room).cells ({ frames := 1, cells := 0, slots := 0, locals := 12 } : Room).slots (T0.setTop (mkF m 1 #[.val (.ref a1)] [(.ref a1)]))
  obtain ⟨T1, X1, e1, st1⟩ := initO X0 hx hZ hown (hw _ (List.mem_of_getElem? (i := 75) rfl)) (hw _ (List.mem_of_getElem? (i := 20) rfl)) (hw _ (List.mem_of_getElem? (i := 21) rfl)) e0 (g := (mkF m 1 #[.val (.ref a1)] [(.ref a1)])) rfl (by rw [hml]; rfl) rfl (hb hby d12_1) (by decide) (W := 0) (by show 2 * 0 + _ ≤ _; exact Nat.le_of_eq rfl) (by decide)
  refine own_st st1 ?_
  show Fin1 p e below s (rmNumQ Z a1 h0 n0) ({ frames := 1, cells := 0, slots := 0, locals := 12 } : Room).cells ({ frames := 1, cells := 0, slots := 0, locals := 12 } : Room).slots (T1.setTop (mkF m 4 #[.val (.ref a1)] []))
  exact own_retV X1 hx hlk hret (hb hby d12_4) (by rw [e1]; exact ⟨rfl, N0, rfl⟩) (by decide) (by decide)
theorem d11_0 : decode jdk_33_method_23_code 0 = .ok (.aload_n 0, 1) := by decide +kernel
theorem d11_1 : decode jdk_33_method_23_code 1 = .ok (.invokespecial 202, 3) := by decide +kernel
theorem d11_4 : decode jdk_33_method_23_code 4 = .ok (.aload_n 0, 1) := by decide +kernel
theorem d11_5 : decode jdk_33_method_23_code 5 = .ok (.iload_n 1, 1) := by decide +kernel
theorem d11_6 : decode jdk_33_method_23_code 6 = .ok (.putfield 205, 3) := by decide +kernel
theorem d11_9 : decode jdk_33_method_23_code 9 = .ok (.return_, 1) := by decide +kernel
theorem pn_1 : plainName "java/lang/Integer" = true := by first | (simp [plainName, overriddenIn]; done) | decide +kernel
theorem pd_2 : parseMethodDescriptor "()V" = some ⟨[], none⟩ := by decide +kernel
def rmIniQ (Z : State) (a1 : Addr) (i : Int32) (h0 : Heap) (n0 : Nat) (v : Option Value) (h : Heap) (L : List Loc) : Prop := v = none ∧ Fr n0 L ∧ Keep h0 h [a1] ∧ Fld Z h a1 "java/lang/Integer" "value" "I" (.int i)
set_option maxRecDepth 65536 in
set_option maxHeartbeats 40000000 in
theorem rmIni (l : Launch) (Z : State) (a0 : Array Value) (hw : ∀ d ∈ tables_1, d.before a0 Z = true) (a1 : Addr) (i : Int32) (h0 : Heap) (n0 : Nat) (Z0 : n0 ≤ h0.size) (g_a1 : n0 ≤ a1) (E_a1 : Exa Z h0 a1 "java/lang/Integer") (F0 : Fld Z h0 a1 "java/lang/Integer" "value" "I" (.int (0 : Int32))) :
    Ct l Z [] (⟨"java/lang/Integer", "<init>", "(I)V"⟩ : MethodName) jdk_33_method_23_code 2 none ({ frames := 2, cells := 0, slots := 0, locals := 24 } : Room) #[(.ref a1), (.int i)] h0 (rmIniQ Z a1 i h0 n0) := by
  refine own_enter (plainFor_of_name pn_1) ?_
  intro p e s m below meth c T0 X0 hx hby hml hZ hown hnm hret hlk e0
  have hown : s.vm.findClass "java/lang/Integer" = some m.cls := hown
  have N0 := Fr.nil n0
  have K0 := Keep.refl h0 [a1]
  refine own_st (fun wt wk => castTop (g' := mkF m 0 #[.val (.ref a1), .val (.int i)] []) (by first | (simp [entryFrame, mkF, argsToLocals, Value.category]; done) | rfl) wk) ?_
  show Fin1 p e below s (rmIniQ Z a1 i h0 n0) ({ frames := 2, cells := 0, slots := 0, locals := 24 } : Room).cells ({ frames := 2, cells := 0, slots := 0, locals := 24 } : Room).slots (T0.setTop (mkF m 0 #[.val (.ref a1), .val (.int i)] []))
  refine own_st (fun wt wk => XS.aloadN X0.here hx rfl (hb hby d11_0) rfl rfl wk) ?_
  show Fin1 p e below s (rmIniQ Z a1 i h0 n0) ({ frames := 2, cells := 0, slots := 0, locals := 24 } : Room).cells ({ frames := 2, cells := 0, slots := 0, locals := 24 } : Room).slots (T0.setTop (mkF m 1 #[.val (.ref a1), .val (.int i)] [(.ref a1)]))
  obtain ⟨v1, T1, h1, L1, X1, e1, hQ1, st1⟩ := own_special X0 hx hZ hown rfl (hw _ (List.mem_of_getElem? (i := 69) rfl)) (hw _ (List.mem_of_getElem? (i := 70) rfl)) (hw _ (List.mem_of_getElem? (i := 74) rfl)) (hw _ (List.mem_of_getElem? (i := 73) rfl)) (by decide) (a := a1) (rmNum l Z a0 hw a1 h0 n0 Z0) e0 (g := (mkF m 1 #[.val (.ref a1), .val (.int i)] [(.ref a1)])) rfl (by rw [hml]; rfl) (argsL := []) (rest := []) (lenOf pd_2 rfl) rfl (W := 0) (by show 2 * 0 + _ ≤ _; exact Nat.le_of_eq rfl) (hb hby d11_1) (by decide) (by decide) (by decide) (by decide)
  obtain ⟨rfl, N1q, hh1⟩ := hQ1
  have N1 := Fr.app N0 N1q
  rw [hh1] at e1
  refine own_st st1 ?_
  show Fin1 p e below s (rmIniQ Z a1 i h0 n0) ({ frames := 2, cells := 0, slots := 0, locals := 24 } : Room).cells ({ frames := 2, cells := 0, slots := 0, locals := 24 } : Room).slots (T1.setTop (mkF m 4 #[.val (.ref a1), .val (.int i)] []))
  refine own_st (fun wt wk => XS.aloadN X1.here hx rfl (hb hby d11_4) rfl rfl wk) ?_
  show Fin1 p e below s (rmIniQ Z a1 i h0 n0) ({ frames := 2, cells := 0, slots := 0, locals := 24 } : Room).cells ({ frames := 2, cells := 0, slots := 0, locals := 24 } : Room).slots (T1.setTop (mkF m 5 #[.val (.ref a1), .val (.int i)] [(.ref a1)]))
  refine own_st (fun wt wk => XS.iloadN X1.here hx rfl (hb hby d11_5) rfl wk) ?_
  show Fin1 p e below s (rmIniQ Z a1 i h0 n0) ({ frames := 2, cells := 0, slots := 0, locals := 24 } : Room).cells ({ frames := 2, cells := 0, slots := 0, locals := 24 } : Room).slots (T1.setTop (mkF m 6 #[.val (.ref a1), .val (.int i)] [(.int i), (.ref a1)]))
  obtain ⟨T2, h2, X2, e2, W2, st2⟩ := putF X1 hx hZ hown (host := "") (Or.inl (hw _ (List.mem_of_getElem? (i := 76) rfl))) Via.refl e1 F0 E_a1 (Or.inr ⟨(hw _ (List.mem_of_getElem? (i := 77) rfl)), rfl, hnm⟩) (hw _ (List.mem_of_getElem? (i := 65) rfl)) (ty := .int) (by decide) rfl rfl (g := (mkF m 6 #[.val (.ref a1), .val (.int i)] [(.int i), (.ref a1)])) rfl rfl (hb hby d11_6)
  refine own_st st2 ?_
  have N2 := Fr.snoc X2 N1 g_a1
  have Z0 := Nat.le_trans Z0 (Nat.le_of_eq W2.size.symm)
  have K0 := K0.wr W2 (Or.inl (List.mem_of_getElem? (i := 0) rfl))
  have E_a1 := E_a1.wr W2
  have F0 := F0.same W2
  show Fin1 p e below s (rmIniQ Z a1 i h0 n0) ({ frames := 2, cells := 0, slots := 0, locals := 24 } : Room).cells ({ frames := 2, cells := 0, slots := 0, locals := 24 } : Room).slots (T2.setTop (mkF m 9 #[.val (.ref a1), .val (.int i)] []))
  exact own_retV X2 hx hlk hret (hb hby d11_9) (by rw [e2]; exact ⟨rfl, N2, K0, F0⟩) (by decide) (by decide)
theorem d1_0 : decode jdk_33_method_22_code 0 = .ok (.iload_n 0, 1) := by decide +kernel
theorem d1_1 : decode jdk_33_method_22_code 1 = .ok (.bipush (-128), 2) := by decide +kernel
theorem d1_3 : decode jdk_33_method_22_code 3 = .ok (.if_icmp .lt 20, 3) := by decide +kernel
theorem d1_6 : decode jdk_33_method_22_code 6 = .ok (.iload_n 0, 1) := by decide +kernel
theorem d1_7 : decode jdk_33_method_22_code 7 = .ok (.getstatic 191, 3) := by decide +kernel
theorem d1_10 : decode jdk_33_method_22_code 10 = .ok (.if_icmp .gt 13, 3) := by decide +kernel
theorem d1_13 : decode jdk_33_method_22_code 13 = .ok (.getstatic 195, 3) := by decide +kernel
theorem d1_16 : decode jdk_33_method_22_code 16 = .ok (.iload_n 0, 1) := by decide +kernel
theorem d1_17 : decode jdk_33_method_22_code 17 = .ok (.sipush 128, 3) := by decide +kernel
theorem d1_20 : decode jdk_33_method_22_code 20 = .ok (.iadd, 1) := by decide +kernel
theorem d1_21 : decode jdk_33_method_22_code 21 = .ok (.aaload, 1) := by decide +kernel
theorem d1_22 : decode jdk_33_method_22_code 22 = .ok (.areturn, 1) := by decide +kernel
theorem d1_23 : decode jdk_33_method_22_code 23 = .ok (.new 1, 3) := by decide +kernel
theorem d1_26 : decode jdk_33_method_22_code 26 = .ok (.dup, 1) := by decide +kernel
theorem d1_27 : decode jdk_33_method_22_code 27 = .ok (.iload_n 0, 1) := by decide +kernel
theorem d1_28 : decode jdk_33_method_22_code 28 = .ok (.invokespecial 199, 3) := by decide +kernel
theorem d1_31 : decode jdk_33_method_22_code 31 = .ok (.areturn, 1) := by decide +kernel
theorem pd_3 : parseMethodDescriptor "(I)V" = some ⟨[.int], none⟩ := by decide +kernel
def rmVQ (Z : State) (i : Int32) (h0 : Heap) (n0 : Nat) (v : Option Value) (h : Heap) (L : List Loc) : Prop := ∃ r : Addr, v = some (.ref r) ∧ Fr n0 L ∧ Keep h0 h [] ∧ Exa Z h r "java/lang/Integer" ∧ Fld Z h r "java/lang/Integer" "value" "I" (.int i)
set_option maxRecDepth 65536 in
set_option maxHeartbeats 40000000 in
theorem rmV (l : Launch) (Z : State) (a0 : Array Value) (hw : ∀ d ∈ tables_1, d.before a0 Z = true) (i : Int32) (h0 : Heap) (n0 : Nat) (Z0 : n0 ≤ h0.size) (O : Old Z n0 h0) (hic : own_IC Z) :
    Ct l Z [] (⟨"java/lang/Integer", "valueOf", "(I)Ljava/lang/Integer;"⟩ : MethodName) jdk_33_method_22_code 1 (some (.object "java/lang/Integer")) ({ frames := 3, cells := 1, slots := 1, locals := 38 } : Room) #[(.int i)] h0 (rmVQ Z i h0 n0) := by
  refine own_enter (plainFor_of_name pn_1) ?_
  intro p e s m below meth c T0 X0 hx hby hml hZ hown hnm hret hlk e0
  have hown : s.vm.findClass "java/lang/Integer" = some m.cls := hown
  have N0 := Fr.nil n0
  have K0 := Keep.refl h0 []
  refine own_st (fun wt wk => castTop (g' := mkF m 0 #[.val (.int i)] []) (by first | (simp [entryFrame, mkF, argsToLocals, Value.category]; done) | rfl) wk) ?_
  show Fin1 p e below s (rmVQ Z i h0 n0) ({ frames := 3, cells := 1, slots := 1, locals := 38 } : Room).cells ({ frames := 3, cells := 1, slots := 1, locals := 38 } : Room).slots (T0.setTop (mkF m 0 #[.val (.int i)] []))
  obtain ⟨S1, ca, cc, S2, B⟩ := hic
  refine own_st (fun wt wk => XS.iloadN X0.here hx rfl (hb hby d1_0) rfl wk) ?_
  show Fin1 p e below s (rmVQ Z i h0 n0) ({ frames := 3, cells := 1, slots := 1, locals := 38 } : Room).cells ({ frames := 3, cells := 1, slots := 1, locals := 38 } : Room).slots (T0.setTop (mkF m 1 #[.val (.int i)] [(.int i)]))
  refine own_st (fun wt wk => XS.bipush X0.here hx rfl (hb hby d1_1) wk) ?_
  show Fin1 p e below s (rmVQ Z i h0 n0) ({ frames := 3, cells := 1, slots := 1, locals := 38 } : Room).cells ({ frames := 3, cells := 1, slots := 1, locals := 38 } : Room).slots (T0.setTop (mkF m 3 #[.val (.int i)] [(.int (-128 : Int32)), (.int i)]))
  by_cases c3 : i < (-128 : Int32)
  · refine own_st (fun wt wk => XS.icmpYes X0.here hx rfl (pc0 := 3) (pc' := 23) rfl (hb hby d1_3) rfl (tlt c3).1 (by decide) (by decide) wk) ?_
    show Fin1 p e below s (rmVQ Z i h0 n0) ({ frames := 3, cells := 1, slots := 1, locals := 38 } : Room).cells ({ frames := 3, cells := 1, slots := 1, locals := 38 } : Room).slots (T0.setTop (mkF m 23 #[.val (.int i)] []))
    obtain ⟨T1, h1, X1, e1, E1, A1, D1, -, st1⟩ := newO X0 hx hZ hown (hw _ (List.mem_of_getElem? (i := 64) rfl)) (hw _ (List.mem_of_getElem? (i := 65) rfl)) (hw _ (List.mem_of_getElem? (i := 3) rfl)) e0 (g := (mkF m 23 #[.val (.int i)] [])) rfl (hb hby d1_23) (by decide) (by decide)
    obtain ⟨b1, gz_b1⟩ : ∃ z, z = h0.size := ⟨_, rfl⟩
    rw [← gz_b1] at A1 D1 st1
    have sz_b1 : h0.size ≤ b1 := Nat.le_trans K0.1 (Nat.le_of_eq gz_b1.symm)
    have g_b1 : n0 ≤ b1 := Nat.le_trans Z0 (Nat.le_of_eq gz_b1.symm)
    have Z0 := Nat.le_trans Z0 E1.1
    have K0 := K0.ext E1
    have O := O.ext E1
    refine own_st st1 ?_
    have E_b1 := A1
    have F_value_b1 : Fld Z h1 b1 "java/lang/Integer" "value" "I" (.int (0 : Int32)) := D1 (Or.inr (hw _ (List.mem_of_getElem? (i := 77) rfl))) (ty := .int) (by decide)
    show Fin1 p e below s (rmVQ Z i h0 n0) ({ frames := 3, cells := 1, slots := 1, locals := 38 } : Room).cells ({ frames := 3, cells := 1, slots := 1, locals := 38 } : Room).slots (T1.setTop (mkF m 26 #[.val (.int i)] [(.ref b1)]))
    refine own_st (fun wt wk => XS.dup X1.here hx rfl (hb hby d1_26) rfl rfl wk) ?_
    show Fin1 p e below s (rmVQ Z i h0 n0) ({ frames := 3, cells := 1, slots := 1, locals := 38 } : Room).cells ({ frames := 3, cells := 1, slots := 1, locals := 38 } : Room).slots (T1.setTop (mkF m 27 #[.val (.int i)] [(.ref b1), (.ref b1)]))
    refine own_st (fun wt wk => XS.iloadN X1.here hx rfl (hb hby d1_27) rfl wk) ?_
    show Fin1 p e below s (rmVQ Z i h0 n0) ({ frames := 3, cells := 1, slots := 1, locals := 38 } : Room).cells ({ frames := 3, cells := 1, slots := 1, locals := 38 } : Room).slots (T1.setTop (mkF m 28 #[.val (.int i)] [(.int i), (.ref b1), (.ref b1)]))
    obtain ⟨v2, T2, h2, L2, X2, e2, hQ2, st2⟩ := own_special X1 hx hZ hown rfl (hw _ (List.mem_of_getElem? (i := 66) rfl)) (hw _ (List.mem_of_getElem? (i := 67) rfl)) (hw _ (List.mem_of_getElem? (i := 68) rfl)) (hw _ (List.mem_of_getElem? (i := 3) rfl)) (by decide) (a := b1) (rmIni l Z a0 hw b1 i h1 n0 Z0 g_b1 E_b1 F_value_b1) e1 (g := (mkF m 28 #[.val (.int i)] [(.int i), (.ref b1), (.ref b1)])) rfl (by rw [hml]; rfl) (argsL := [(.int i)]) (rest := [(.ref b1)]) (lenOf pd_3 rfl) rfl (W := 1) (by show 2 * 0 + _ ≤ _; exact Nat.le_of_eq rfl) (hb hby d1_28) (by decide) (by decide) (by decide) (by decide)
    obtain ⟨rfl, N2q, K2, G2⟩ := hQ2
    have N2 := Fr.app N0 N2q
    have Z0 := Nat.le_trans Z0 K2.1
    have K0 := K0.trans K2 (allS (P := fun x => x ∈ ([] : List Addr) ∨ h0.size ≤ x) (Or.inr sz_b1) all0)
    have O := O.keep K2 (allS (P := fun x => n0 ≤ x) g_b1 all0)
    have E_b1 := E_b1.keep K2
    refine own_st st2 ?_
    show Fin1 p e below s (rmVQ Z i h0 n0) ({ frames := 3, cells := 1, slots := 1, locals := 38 } : Room).cells ({ frames := 3, cells := 1, slots := 1, locals := 38 } : Room).slots (T2.setTop (mkF m 31 #[.val (.int i)] [(.ref b1)]))
    exact own_retA X2 hx hlk hret rfl rfl (hb hby d1_31) (by rw [e2]; exact ⟨b1, rfl, N2, K0, E_b1, G2⟩) (by decide) (by decide)
  · refine own_st (fun wt wk => XS.icmpNo X0.here hx rfl (hb hby d1_3) rfl (flt c3).1 wk) ?_
    show Fin1 p e below s (rmVQ Z i h0 n0) ({ frames := 3, cells := 1, slots := 1, locals := 38 } : Room).cells ({ frames := 3, cells := 1, slots := 1, locals := 38 } : Room).slots (T0.setTop (mkF m 6 #[.val (.int i)] []))
    refine own_st (fun wt wk => XS.iloadN X0.here hx rfl (hb hby d1_6) rfl wk) ?_
    show Fin1 p e below s (rmVQ Z i h0 n0) ({ frames := 3, cells := 1, slots := 1, locals := 38 } : Room).cells ({ frames := 3, cells := 1, slots := 1, locals := 38 } : Room).slots (T0.setTop (mkF m 7 #[.val (.int i)] [(.int i)]))
    obtain ⟨T3, X3, e3, st3⟩ := getS2 X0 hx hZ hown (host := "") (Or.inl (hw _ (List.mem_of_getElem? (i := 5) rfl))) Via.refl e0 (S1.ext O.2) (g := (mkF m 7 #[.val (.int i)] [(.int i)])) rfl (hb hby d1_7)
    refine own_st st3 ?_
    show Fin1 p e below s (rmVQ Z i h0 n0) ({ frames := 3, cells := 1, slots := 1, locals := 38 } : Room).cells ({ frames := 3, cells := 1, slots := 1, locals := 38 } : Room).slots (T3.setTop (mkF m 10 #[.val (.int i)] [(.int (127 : Int32)), (.int i)]))
    by_cases c10 : (127 : Int32) < i
    · refine own_st (fun wt wk => XS.icmpYes X3.here hx rfl (pc0 := 10) (pc' := 23) rfl (hb hby d1_10) rfl (tlt c10).2.2.1 (by decide) (by decide) wk) ?_
      show Fin1 p e below s (rmVQ Z i h0 n0) ({ frames := 3, cells := 1, slots := 1, locals := 38 } : Room).cells ({ frames := 3, cells := 1, slots := 1, locals := 38 } : Room).slots (T3.setTop (mkF m 23 #[.val (.int i)] []))
      obtain ⟨T4, h4, X4, e4, E4, A4, D4, -, st4⟩ := newO X3 hx hZ hown (hw _ (List.mem_of_getElem? (i := 64) rfl)) (hw _ (List.mem_of_getElem? (i := 65) rfl)) (hw _ (List.mem_of_getElem? (i := 3) rfl)) e3 (g := (mkF m 23 #[.val (.int i)] [])) rfl (hb hby d1_23) (by decide) (by decide)
      obtain ⟨b4, gz_b4⟩ : ∃ z, z = h0.size := ⟨_, rfl⟩
      rw [← gz_b4] at A4 D4 st4
      have sz_b4 : h0.size ≤ b4 := Nat.le_trans K0.1 (Nat.le_of_eq gz_b4.symm)
      have g_b4 : n0 ≤ b4 := Nat.le_trans Z0 (Nat.le_of_eq gz_b4.symm)
      have Z0 := Nat.le_trans Z0 E4.1
      have K0 := K0.ext E4
      have O := O.ext E4
      refine own_st st4 ?_
      have E_b4 := A4
      have F_value_b4 : Fld Z h4 b4 "java/lang/Integer" "value" "I" (.int (0 : Int32)) := D4 (Or.inr (hw _ (List.mem_of_getElem? (i := 77) rfl))) (ty := .int) (by decide)
      show Fin1 p e below s (rmVQ Z i h0 n0) ({ frames := 3, cells := 1, slots := 1, locals := 38 } : Room).cells ({ frames := 3, cells := 1, slots := 1, locals := 38 } : Room).slots (T4.setTop (mkF m 26 #[.val (.int i)] [(.ref b4)]))
      refine own_st (fun wt wk => XS.dup X4.here hx rfl (hb hby d1_26) rfl rfl wk) ?_
      show Fin1 p e below s (rmVQ Z i h0 n0) ({ frames := 3, cells := 1, slots := 1, locals := 38 } : Room).cells ({ frames := 3, cells := 1, slots := 1, locals := 38 } : Room).slots (T4.setTop (mkF m 27 #[.val (.int i)] [(.ref b4), (.ref b4)]))
      refine own_st (fun wt wk => XS.iloadN X4.here hx rfl (hb hby d1_27) rfl wk) ?_
      show Fin1 p e below s (rmVQ Z i h0 n0) ({ frames := 3, cells := 1, slots := 1, locals := 38 } : Room).cells ({ frames := 3, cells := 1, slots := 1, locals := 38 } : Room).slots (T4.setTop (mkF m 28 #[.val (.int i)] [(.int i), (.ref b4), (.ref b4)]))
      obtain ⟨v5, T5, h5, L5, X5, e5, hQ5, st5⟩ := own_special X4 hx hZ hown rfl (hw _ (List.mem_of_getElem? (i := 66) rfl)) (hw _ (List.mem_of_getElem? (i := 67) rfl)) (hw _ (List.mem_of_getElem? (i := 68) rfl)) (hw _ (List.mem_of_getElem? (i := 3) rfl)) (by decide) (a := b4) (rmIni l Z a0 hw b4 i h4 n0 Z0 g_b4 E_b4 F_value_b4) e4 (g := (mkF m 28 #[.val (.int i)] [(.int i), (.ref b4), (.ref b4)])) rfl (by rw [hml]; rfl) (argsL := [(.int i)]) (rest := [(.ref b4)]) (lenOf pd_3 rfl) rfl (W := 1) (by show 2 * 0 + _ ≤ _; exact Nat.le_of_eq rfl) (hb hby d1_28) (by decide) (by decide) (by decide) (by decide)
      obtain ⟨rfl, N5q, K5, G5⟩ := hQ5
      have N5 := Fr.app N0 N5q
      have Z0 := Nat.le_trans Z0 K5.1
      have K0 := K0.trans K5 (allS (P := fun x => x ∈ ([] : List Addr) ∨ h0.size ≤ x) (Or.inr sz_b4) all0)
      have O := O.keep K5 (allS (P := fun x => n0 ≤ x) g_b4 all0)
      have E_b4 := E_b4.keep K5
      refine own_st st5 ?_
      show Fin1 p e below s (rmVQ Z i h0 n0) ({ frames := 3, cells := 1, slots := 1, locals := 38 } : Room).cells ({ frames := 3, cells := 1, slots := 1, locals := 38 } : Room).slots (T5.setTop (mkF m 31 #[.val (.int i)] [(.ref b4)]))
      exact own_retA X5 hx hlk hret rfl rfl (hb hby d1_31) (by rw [e5]; exact ⟨b4, rfl, N5, K0, E_b4, G5⟩) (by decide) (by decide)
    · refine own_st (fun wt wk => XS.icmpNo X3.here hx rfl (hb hby d1_10) rfl (flt c10).2.2.1 wk) ?_
      show Fin1 p e below s (rmVQ Z i h0 n0) ({ frames := 3, cells := 1, slots := 1, locals := 38 } : Room).cells ({ frames := 3, cells := 1, slots := 1, locals := 38 } : Room).slots (T3.setTop (mkF m 13 #[.val (.int i)] []))
      obtain ⟨T6, X6, e6, st6⟩ := getS2 X3 hx hZ hown (host := "") (Or.inl (hw _ (List.mem_of_getElem? (i := 7) rfl))) Via.refl e3 (S2.ext O.2) (g := (mkF m 13 #[.val (.int i)] [])) rfl (hb hby d1_13)
      refine own_st st6 ?_
      show Fin1 p e below s (rmVQ Z i h0 n0) ({ frames := 3, cells := 1, slots := 1, locals := 38 } : Room).cells ({ frames := 3, cells := 1, slots := 1, locals := 38 } : Room).slots (T6.setTop (mkF m 16 #[.val (.int i)] [(.ref ca)]))
      refine own_st (fun wt wk => XS.iloadN X6.here hx rfl (hb hby d1_16) rfl wk) ?_
      show Fin1 p e below s (rmVQ Z i h0 n0) ({ frames := 3, cells := 1, slots := 1, locals := 38 } : Room).cells ({ frames := 3, cells := 1, slots := 1, locals := 38 } : Room).slots (T6.setTop (mkF m 17 #[.val (.int i)] [(.int i), (.ref ca)]))
      refine own_st (fun wt wk => XS.sipush X6.here hx rfl (hb hby d1_17) wk) ?_
      show Fin1 p e below s (rmVQ Z i h0 n0) ({ frames := 3, cells := 1, slots := 1, locals := 38 } : Room).cells ({ frames := 3, cells := 1, slots := 1, locals := 38 } : Room).slots (T6.setTop (mkF m 20 #[.val (.int i)] [(.int (128 : Int32)), (.int i), (.ref ca)]))
      refine own_st (fun wt wk => XS.iadd X6.here hx rfl (hb hby d1_20) rfl wk) ?_
      show Fin1 p e below s (rmVQ Z i h0 n0) ({ frames := 3, cells := 1, slots := 1, locals := 38 } : Room).cells ({ frames := 3, cells := 1, slots := 1, locals := 38 } : Room).slots (T6.setTop (mkF m 21 #[.val (.int i)] [(.int (i + (128 : Int32))), (.ref ca)]))
      obtain ⟨x1, x2, x3⟩ := own_idx i c3 c10
      obtain ⟨A, S, -⟩ := B.ext O.2
      have hin := inb_of S ⟨x1, x2⟩
      obtain ⟨r, hat, Er, Fr0⟩ := B.2.2.2 (i + (128 : Int32)) hin
      simp only [x3] at Fr0
      refine own_st (X6.aaload hx (j := (i + (128 : Int32))) (v := .ref r) (by rw [e6]; exact A.1) (State.isArrayOf_alike hZ.alike A.2.1) rfl A.2.2 hin hat (g := (mkF m 21 #[.val (.int i)] [(.int (i + (128 : Int32))), (.ref ca)])) rfl rfl (hb hby d1_21)) ?_
      show Fin1 p e below s (rmVQ Z i h0 n0) ({ frames := 3, cells := 1, slots := 1, locals := 38 } : Room).cells ({ frames := 3, cells := 1, slots := 1, locals := 38 } : Room).slots (T6.setTop (mkF m 22 #[.val (.int i)] [(.ref r)]))
      exact own_retA X6 hx hlk hret rfl rfl (hb hby d1_22) (by rw [e6]; exact ⟨r, rfl, N0, K0, Er.ext O.2, Fr0.ext O.2⟩) (by decide) (by decide)
def own_exp (p q : Int32) (ev ea eb ec : Addr) : Addr := if p = q then ev else if p = (0 : Int32) then ea else if p = (1 : Int32) then eb else ec
theorem own_six (x y : Int32) : ¬ ((1 : Int32) + ((x &&& (2147483647 : Int32)) % (3 : Int32))) = (0 : Int32) ∧ ∀ k, k = (y &&& (2147483647 : Int32)) % ((1 : Int32) + ((x &&& (2147483647 : Int32)) % (3 : Int32))) → (((1 : Int32) + ((x &&& (2147483647 : Int32)) % (3 : Int32))) = 1 ∧ k = 0) ∨ (((1 : Int32) + ((x &&& (2147483647 : Int32)) % (3 : Int32))) = 2 ∧ k = 0) ∨ (((1 : Int32) + ((x &&& (2147483647 : Int32)) % (3 : Int32))) = 2 ∧ k = 1) ∨ (((1 : Int32) + ((x &&& (2147483647 : Int32)) % (3 : Int32))) = 3 ∧ k = 0) ∨ (((1 : Int32) + ((x &&& (2147483647 : Int32)) % (3 : Int32))) = 3 ∧ k = 1) ∨ (((1 : Int32) + ((x &&& (2147483647 : Int32)) % (3 : Int32))) = 3 ∧ k = 2) := by
  have q := (c_and x (2147483647 : Int32) (by decide)).1
  have r := (c_irem (x &&& (2147483647 : Int32)) (3 : Int32) 3 rfl).1 q
  have q2 := (c_and y (2147483647 : Int32) (by decide)).1
  have hm : (x &&& (2147483647 : Int32)) % (3 : Int32) = 0 ∨ (x &&& (2147483647 : Int32)) % (3 : Int32) = 1 ∨ (x &&& (2147483647 : Int32)) % (3 : Int32) = 2 := by
    generalize (x &&& (2147483647 : Int32)) % (3 : Int32) = z at r ⊢
    have qz : z.toInt = 0 ∨ z.toInt = 1 ∨ z.toInt = 2 := by omega
    rcases qz with q | q | q
    · exact Or.inl (Int32.toInt_inj.mp q)
    · exact Or.inr (Or.inl (Int32.toInt_inj.mp q))
    · exact Or.inr (Or.inr (Int32.toInt_inj.mp q))
  generalize (y &&& (2147483647 : Int32)) = w at q2 ⊢
  rcases hm with e | e | e <;> rw [e] <;> refine ⟨by decide, fun k hk => ?_⟩ <;> subst hk
  · have t := (c_irem w ((1 : Int32) + 0) 1 rfl).1 q2
    exact Or.inl ⟨by decide, Int32.toInt_inj.mp (t.trans (by show w.toInt % 1 = 0; omega))⟩
  · have t := (c_irem w ((1 : Int32) + 1) 2 rfl).1 q2
    have u : w.toInt % 2 = 0 ∨ w.toInt % 2 = 1 := by omega
    rcases u with u | u
    · exact Or.inr (Or.inl ⟨by decide, Int32.toInt_inj.mp (t.trans u)⟩)
    · exact Or.inr (Or.inr (Or.inl ⟨by decide, Int32.toInt_inj.mp (t.trans u)⟩))
  · have t := (c_irem w ((1 : Int32) + 2) 3 rfl).1 q2
    have u : w.toInt % 3 = 0 ∨ w.toInt % 3 = 1 ∨ w.toInt % 3 = 2 := by omega
    rcases u with u | u | u
    · exact Or.inr (Or.inr (Or.inr (Or.inl ⟨by decide, Int32.toInt_inj.mp (t.trans u)⟩)))
    · exact Or.inr (Or.inr (Or.inr (Or.inr (Or.inl ⟨by decide, Int32.toInt_inj.mp (t.trans u)⟩))))
    · exact Or.inr (Or.inr (Or.inr (Or.inr (Or.inr ⟨by decide, Int32.toInt_inj.mp (t.trans u)⟩))))
theorem d3_0 : decode prog_32_method_1_code 0 = .ok (.aload_n 0, 1) := by decide +kernel
theorem d3_1 : decode prog_32_method_1_code 1 = .ok (.invokespecial 1, 3) := by decide +kernel
theorem d3_4 : decode prog_32_method_1_code 4 = .ok (.return_, 1) := by decide +kernel
theorem pn_4 : plainName "com/example/listwright/listwright/Storage" = true := by first | (simp [plainName, overriddenIn]; done) | decide +kernel
def rmSQ (Z : State) (a1 : Addr) (h0 : Heap) (n0 : Nat) (v : Option Value) (h : Heap) (L : List Loc) : Prop := v = none ∧ Fr n0 L ∧ h = h0
set_option maxRecDepth 65536 in
set_option maxHeartbeats 40000000 in
theorem rmS (l : Launch) (Z : State) (a0 : Array Value) (hw : ∀ d ∈ tables_1, d.before a0 Z = true) (a1 : Addr) (h0 : Heap) (n0 : Nat) (Z0 : n0 ≤ h0.size) :
    Ct l Z [] (⟨"com/example/listwright/listwright/Storage", "<init>", "()V"⟩ : MethodName) prog_32_method_1_code 1 none ({ frames := 1, cells := 0, slots := 0, locals := 12 } : Room) #[(.ref a1)] h0 (rmSQ Z a1 h0 n0) := by
  refine own_enter (plainFor_of_name pn_4) ?_
  intro p e s m below meth c T0 X0 hx hby hml hZ hown hnm hret hlk e0
  have hown : s.vm.findClass "com/example/listwright/listwright/Storage" = some m.cls := hown
  have N0 := Fr.nil n0
  have K0 := Keep.refl h0 []
  refine own_st (fun wt wk => castTop (g' := mkF m 0 #[.val (.ref a1)] []) (by first | (simp [entryFrame, mkF, argsToLocals, Value.category]; done) | rfl) wk) ?_
  show Fin1 p e below s (rmSQ Z a1 h0 n0) ({ frames := 1, cells := 0, slots := 0, locals := 12 } : Room).cells ({ frames := 1, cells := 0, slots := 0, locals := 12 } : Room).slots (T0.setTop (mkF m 0 #[.val (.ref a1)] []))
  refine own_st (fun wt wk => XS.aloadN X0.here hx rfl (hb hby d3_0) rfl rfl wk) ?_
  show Fin1 p e below s (rmSQ Z a1 h0 n0) ({ frames := 1, cells := 0, slots := 0, locals := 12 } : Room).cells ({ frames := 1, cells := 0, slots := 0, locals := 12 } : Room).slots (T0.setTop (mkF m 1 #[.val (.ref a1)] [(.ref a1)]))
  obtain ⟨T1, X1, e1, st1⟩ := initO X0 hx hZ hown (hw _ (List.mem_of_getElem? (i := 19) rfl)) (hw _ (List.mem_of_getElem? (i := 20) rfl)) (hw _ (List.mem_of_getElem? (i := 21) rfl)) e0 (g := (mkF m 1 #[.val (.ref a1)] [(.ref a1)])) rfl (by rw [hml]; rfl) rfl (hb hby d3_1) (by decide) (W := 0) (by show 2 * 0 + _ ≤ _; exact Nat.le_of_eq rfl) (by decide)
  refine own_st st1 ?_
  show Fin1 p e below s (rmSQ Z a1 h0 n0) ({ frames := 1, cells := 0, slots := 0, locals := 12 } : Room).cells ({ frames := 1, cells := 0, slots := 0, locals := 12 } : Room).slots (T1.setTop (mkF m 4 #[.val (.ref a1)] []))
  exact own_retV X1 hx hlk hret (hb hby d3_4) (by rw [e1]; exact ⟨rfl, N0, rfl⟩) (by decide) (by decide)
theorem d2_0 : decode prog_12_method_1_code 0 = .ok (.aload_n 0, 1) := by decide +kernel
theorem d2_1 : decode prog_12_method_1_code 1 = .ok (.invokespecial 1, 3) := by decide +kernel
theorem d2_4 : decode prog_12_method_1_code 4 = .ok (.aload_n 0, 1) := by decide +kernel
theorem d2_5 : decode prog_12_method_1_code 5 = .ok (.bipush 10, 2) := by decide +kernel
theorem d2_7 : decode prog_12_method_1_code 7 = .ok (.anewarray 9, 3) := by decide +kernel
theorem d2_10 : decode prog_12_method_1_code 10 = .ok (.putfield 11, 3) := by decide +kernel
theorem d2_13 : decode prog_12_method_1_code 13 = .ok (.return_, 1) := by decide +kernel
theorem pn_5 : plainName "com/example/listwright/listwright/ArrayStorage" = true := by first | (simp [plainName, overriddenIn]; done) | decide +kernel
def rmCQ (Z : State) (a1 : Addr) (h0 : Heap) (n0 : Nat) (v : Option Value) (h : Heap) (L : List Loc) : Prop := v = none ∧ Fr n0 L ∧ ∃ (t : Addr) (kt : ClassId), h0.size ≤ t ∧ Keep h0 h [a1] ∧ Fld Z h a1 "com/example/listwright/listwright/ArrayStorage" "elements" "[Ljava/lang/Object;" (.ref t) ∧ Fld Z h a1 "com/example/listwright/listwright/ArrayStorage" "size" "I" (.int (0 : Int32)) ∧ Arv Z h t kt (.object "java/lang/Object") (10 : Int32) [.null, .null, .null, .null, .null, .null, .null, .null, .null, .null] .null ∧ Ovr Z kt "java/lang/Object"
set_option maxRecDepth 65536 in
set_option maxHeartbeats 40000000 in
theorem rmC (l : Launch) (Z : State) (a0 : Array Value) (hw : ∀ d ∈ tables_1, d.before a0 Z = true) (a1 : Addr) (h0 : Heap) (n0 : Nat) (Z0 : n0 ≤ h0.size) (g_a1 : n0 ≤ a1) (E_a1 : Exa Z h0 a1 "com/example/listwright/listwright/ArrayStorage") (Fe : Fld Z h0 a1 "com/example/listwright/listwright/ArrayStorage" "elements" "[Ljava/lang/Object;" .null) (Fs : Fld Z h0 a1 "com/example/listwright/listwright/ArrayStorage" "size" "I" (.int (0 : Int32))) :
    Ct l Z [] (⟨"com/example/listwright/listwright/ArrayStorage", "<init>", "()V"⟩ : MethodName) prog_12_method_1_code 1 none ({ frames := 2, cells := 1, slots := 10, locals := 24 } : Room) #[(.ref a1)] h0 (rmCQ Z a1 h0 n0) := by
  refine own_enter (plainFor_of_name pn_5) ?_
  intro p e s m below meth c T0 X0 hx hby hml hZ hown hnm hret hlk e0
  have hown : s.vm.findClass "com/example/listwright/listwright/ArrayStorage" = some m.cls := hown
  have N0 := Fr.nil n0
  have K0 := Keep.refl h0 [a1]
  refine own_st (fun wt wk => castTop (g' := mkF m 0 #[.val (.ref a1)] []) (by first | (simp [entryFrame, mkF, argsToLocals, Value.category]; done) | rfl) wk) ?_
  show Fin1 p e below s (rmCQ Z a1 h0 n0) ({ frames := 2, cells := 1, slots := 10, locals := 24 } : Room).cells ({ frames := 2, cells := 1, slots := 10, locals := 24 } : Room).slots (T0.setTop (mkF m 0 #[.val (.ref a1)] []))
  refine own_st (fun wt wk => XS.aloadN X0.here hx rfl (hb hby d2_0) rfl rfl wk) ?_
  show Fin1 p e below s (rmCQ Z a1 h0 n0) ({ frames := 2, cells := 1, slots := 10, locals := 24 } : Room).cells ({ frames := 2, cells := 1, slots := 10, locals := 24 } : Room).slots (T0.setTop (mkF m 1 #[.val (.ref a1)] [(.ref a1)]))
  obtain ⟨v1, T1, h1, L1, X1, e1, hQ1, st1⟩ := own_special X0 hx hZ hown rfl (hw _ (List.mem_of_getElem? (i := 14) rfl)) (hw _ (List.mem_of_getElem? (i := 15) rfl)) (hw _ (List.mem_of_getElem? (i := 18) rfl)) (hw _ (List.mem_of_getElem? (i := 17) rfl)) (by decide) (a := a1) (rmS l Z a0 hw a1 h0 n0 Z0) e0 (g := (mkF m 1 #[.val (.ref a1)] [(.ref a1)])) rfl (by rw [hml]; rfl) (argsL := []) (rest := []) (lenOf pd_2 rfl) rfl (W := 0) (by show 2 * 0 + _ ≤ _; exact Nat.le_of_eq rfl) (hb hby d2_1) (by decide) (by decide) (by decide) (by decide)
  obtain ⟨rfl, N1q, hh1⟩ := hQ1
  have N1 := Fr.app N0 N1q
  rw [hh1] at e1
  refine own_st st1 ?_
  show Fin1 p e below s (rmCQ Z a1 h0 n0) ({ frames := 2, cells := 1, slots := 10, locals := 24 } : Room).cells ({ frames := 2, cells := 1, slots := 10, locals := 24 } : Room).slots (T1.setTop (mkF m 4 #[.val (.ref a1)] []))
  refine own_st (fun wt wk => XS.aloadN X1.here hx rfl (hb hby d2_4) rfl rfl wk) ?_
  show Fin1 p e below s (rmCQ Z a1 h0 n0) ({ frames := 2, cells := 1, slots := 10, locals := 24 } : Room).cells ({ frames := 2, cells := 1, slots := 10, locals := 24 } : Room).slots (T1.setTop (mkF m 5 #[.val (.ref a1)] [(.ref a1)]))
  refine own_st (fun wt wk => XS.bipush X1.here hx rfl (hb hby d2_5) wk) ?_
  show Fin1 p e below s (rmCQ Z a1 h0 n0) ({ frames := 2, cells := 1, slots := 10, locals := 24 } : Room).cells ({ frames := 2, cells := 1, slots := 10, locals := 24 } : Room).slots (T1.setTop (mkF m 7 #[.val (.ref a1)] [(.int (10 : Int32)), (.ref a1)]))
  obtain ⟨T2, h2, kc2, X2, e2, E2, A2, Ov2, st2⟩ := newR X1 hx hZ hown (hw _ (List.mem_of_getElem? (i := 22) rfl)) (hw _ (List.mem_of_getElem? (i := 23) rfl)) e1 (g := (mkF m 7 #[.val (.ref a1)] [(.int (10 : Int32)), (.ref a1)])) rfl (hb hby d2_7) rfl (by decide) (cap := 10) (by decide) (by decide) (by decide) (by decide)
  obtain ⟨b2, gz_b2⟩ : ∃ z, z = h0.size := ⟨_, rfl⟩
  rw [← gz_b2] at A2 st2
  have ne_a1_b2 : a1 ≠ b2 := Nat.ne_of_lt (Nat.lt_of_lt_of_le E_a1.lt (Nat.le_of_eq gz_b2.symm))
  have sz_b2 : h0.size ≤ b2 := Nat.le_trans K0.1 (Nat.le_of_eq gz_b2.symm)
  have g_b2 : n0 ≤ b2 := Nat.le_trans Z0 (Nat.le_of_eq gz_b2.symm)
  have Z0 := Nat.le_trans Z0 E2.1
  have K0 := K0.ext E2
  have E_a1 := E_a1.ext E2
  have Fe := Fe.ext E2
  have Fs := Fs.ext E2
  refine own_st st2 ?_
  have V_b2 : Arv Z h2 b2 kc2 (.object "java/lang/Object") (10 : Int32) [.null, .null, .null, .null, .null, .null, .null, .null, .null, .null] .null := (Arv.new A2 (by decide)).pad (pad_rep [] .null 10)
  show Fin1 p e below s (rmCQ Z a1 h0 n0) ({ frames := 2, cells := 1, slots := 10, locals := 24 } : Room).cells ({ frames := 2, cells := 1, slots := 10, locals := 24 } : Room).slots (T2.setTop (mkF m 10 #[.val (.ref a1)] [(.ref b2), (.ref a1)]))
  obtain ⟨T3, h3, X3, e3, W3, st3⟩ := putF X2 hx hZ hown (host := "") (Or.inl (hw _ (List.mem_of_getElem? (i := 24) rfl))) Via.refl e2 Fe E_a1 (Or.inl (hw _ (List.mem_of_getElem? (i := 25) rfl))) (hw _ (List.mem_of_getElem? (i := 9) rfl)) (ty := (.array (.object "java/lang/Object"))) (by decide) rfl rfl (g := (mkF m 10 #[.val (.ref a1)] [(.ref b2), (.ref a1)])) rfl rfl (hb hby d2_10)
  refine own_st st3 ?_
  have N3 := Fr.snoc X3 N1 g_a1
  have Z0 := Nat.le_trans Z0 (Nat.le_of_eq W3.size.symm)
  have K0 := K0.wr W3 (Or.inl (List.mem_of_getElem? (i := 0) rfl))
  have E_a1 := E_a1.wr W3
  have Fe := Fe.same W3
  have Fs := Fs.other W3 (Or.inr (slot_ne (Or.inl (hw _ (List.mem_of_getElem? (i := 36) rfl))) (Or.inl (hw _ (List.mem_of_getElem? (i := 25) rfl))) (by decide) (t := .int) (t' := (.array (.object "java/lang/Object"))) (by decide) (by decide)))
  have V_b2 := V_b2.other W3 (Ne.symm ne_a1_b2)
  show Fin1 p e below s (rmCQ Z a1 h0 n0) ({ frames := 2, cells := 1, slots := 10, locals := 24 } : Room).cells ({ frames := 2, cells := 1, slots := 10, locals := 24 } : Room).slots (T3.setTop (mkF m 13 #[.val (.ref a1)] []))
  exact own_retV X3 hx hlk hret (hb hby d2_13) (by rw [e3]; exact ⟨rfl, N3, b2, kc2, sz_b2, K0, Fe, Fs, V_b2, Ov2⟩) (by decide) (by decide)
theorem d6_0 : decode prog_12_method_14_code 0 = .ok (.aload_n 0, 1) := by decide +kernel
theorem d6_1 : decode prog_12_method_14_code 1 = .ok (.getfield 15, 3) := by decide +kernel
theorem d6_4 : decode prog_12_method_14_code 4 = .ok (.iload_n 1, 1) := by decide +kernel
theorem d6_5 : decode prog_12_method_14_code 5 = .ok (.iadd, 1) := by decide +kernel
theorem d6_6 : decode prog_12_method_14_code 6 = .ok (.istore_n 2, 1) := by decide +kernel
theorem d6_7 : decode prog_12_method_14_code 7 = .ok (.iload_n 2, 1) := by decide +kernel
theorem d6_8 : decode prog_12_method_14_code 8 = .ok (.aload_n 0, 1) := by decide +kernel
theorem d6_9 : decode prog_12_method_14_code 9 = .ok (.getfield 11, 3) := by decide +kernel
theorem d6_12 : decode prog_12_method_14_code 12 = .ok (.arraylength, 1) := by decide +kernel
theorem d6_13 : decode prog_12_method_14_code 13 = .ok (.if_icmp .gt 4, 3) := by decide +kernel
theorem d6_16 : decode prog_12_method_14_code 16 = .ok (.return_, 1) := by decide +kernel
theorem d6_17 : decode prog_12_method_14_code 17 = .ok (.aload_n 0, 1) := by decide +kernel
theorem d6_18 : decode prog_12_method_14_code 18 = .ok (.getfield 11, 3) := by decide +kernel
theorem d6_21 : decode prog_12_method_14_code 21 = .ok (.arraylength, 1) := by decide +kernel
theorem d6_22 : decode prog_12_method_14_code 22 = .ok (.i2l, 1) := by decide +kernel
theorem d6_23 : decode prog_12_method_14_code 23 = .ok (.ldc2_w 65, 3) := by decide +kernel
theorem d6_26 : decode prog_12_method_14_code 26 = .ok (.lmul, 1) := by decide +kernel
theorem d6_27 : decode prog_12_method_14_code 27 = .ok (.ldc2_w 67, 3) := by decide +kernel
theorem d6_30 : decode prog_12_method_14_code 30 = .ok (.ldiv, 1) := by decide +kernel
theorem d6_31 : decode prog_12_method_14_code 31 = .ok (.iload_n 2, 1) := by decide +kernel
theorem d6_32 : decode prog_12_method_14_code 32 = .ok (.i2l, 1) := by decide +kernel
theorem d6_33 : decode prog_12_method_14_code 33 = .ok (.invokestatic 69, 3) := by decide +kernel
theorem d6_36 : decode prog_12_method_14_code 36 = .ok (.lstore_n 3, 1) := by decide +kernel
theorem d6_37 : decode prog_12_method_14_code 37 = .ok (.aload_n 0, 1) := by decide +kernel
theorem d6_38 : decode prog_12_method_14_code 38 = .ok (.aload_n 0, 1) := by decide +kernel
theorem d6_39 : decode prog_12_method_14_code 39 = .ok (.getfield 11, 3) := by decide +kernel
theorem d6_42 : decode prog_12_method_14_code 42 = .ok (.lload_n 3, 1) := by decide +kernel
theorem d6_43 : decode prog_12_method_14_code 43 = .ok (.ldc2_w 77, 3) := by decide +kernel
theorem d6_46 : decode prog_12_method_14_code 46 = .ok (.invokestatic 79, 3) := by decide +kernel
theorem d6_49 : decode prog_12_method_14_code 49 = .ok (.l2i, 1) := by decide +kernel
theorem d6_50 : decode prog_12_method_14_code 50 = .ok (.invokestatic 82, 3) := by decide +kernel
theorem d6_53 : decode prog_12_method_14_code 53 = .ok (.putfield 11, 3) := by decide +kernel
theorem d6_56 : decode prog_12_method_14_code 56 = .ok (.return_, 1) := by decide +kernel
def rmMQ (Z : State) (a1 : Addr) (t : Addr) (kt : ClassId) (z : Int32) (vs : List Value) (h0 : Heap) (n0 : Nat) (v : Option Value) (h : Heap) (L : List Loc) : Prop := v = none ∧ Fr n0 L ∧ h = h0
set_option maxRecDepth 65536 in
set_option maxHeartbeats 40000000 in
theorem rmM (l : Launch) (Z : State) (a0 : Array Value) (hw : ∀ d ∈ tables_1, d.before a0 Z = true) (a1 : Addr) (t : Addr) (kt : ClassId) (z : Int32) (vs : List Value) (h0 : Heap) (n0 : Nat) (Z0 : n0 ≤ h0.size) (Fe : Fld Z h0 a1 "com/example/listwright/listwright/ArrayStorage" "elements" "[Ljava/lang/Object;" (.ref t)) (Fs : Fld Z h0 a1 "com/example/listwright/listwright/ArrayStorage" "size" "I" (.int z)) (V_t : Arv Z h0 t kt (.object "java/lang/Object") (10 : Int32) vs .null) (hz : ¬ (10 : Int32) < z + (1 : Int32)) :
    Ct l Z [] (⟨"com/example/listwright/listwright/ArrayStorage", "makeRoomFor", "(I)V"⟩ : MethodName) prog_12_method_14_code 5 none ({ frames := 0, cells := 0, slots := 0, locals := 0 } : Room) #[(.ref a1), (.int (1 : Int32))] h0 (rmMQ Z a1 t kt z vs h0 n0) := by
  refine own_enter (plainFor_of_name pn_5) ?_
  intro p e s m below meth c T0 X0 hx hby hml hZ hown hnm hret hlk e0
  have hown : s.vm.findClass "com/example/listwright/listwright/ArrayStorage" = some m.cls := hown
  have N0 := Fr.nil n0
  have K0 := Keep.refl h0 []
  refine own_st (fun wt wk => castTop (g' := mkF m 0 #[.val (.ref a1), .val (.int (1 : Int32)), .unset, .unset, .unset] []) (by first | (simp [entryFrame, mkF, argsToLocals, Value.category]; done) | rfl) wk) ?_
  show Fin1 p e below s (rmMQ Z a1 t kt z vs h0 n0) ({ frames := 0, cells := 0, slots := 0, locals := 0 } : Room).cells ({ frames := 0, cells := 0, slots := 0, locals := 0 } : Room).slots (T0.setTop (mkF m 0 #[.val (.ref a1), .val (.int (1 : Int32)), .unset, .unset, .unset] []))
  refine own_st (fun wt wk => XS.aloadN X0.here hx rfl (hb hby d6_0) rfl rfl wk) ?_
  show Fin1 p e below s (rmMQ Z a1 t kt z vs h0 n0) ({ frames := 0, cells := 0, slots := 0, locals := 0 } : Room).cells ({ frames := 0, cells := 0, slots := 0, locals := 0 } : Room).slots (T0.setTop (mkF m 1 #[.val (.ref a1), .val (.int (1 : Int32)), .unset, .unset, .unset] [(.ref a1)]))
  obtain ⟨T1, X1, e1, st1⟩ := getF X0 hx hZ hown (host := "") (Or.inl (hw _ (List.mem_of_getElem? (i := 35) rfl))) Via.refl e0 Fs (g := (mkF m 1 #[.val (.ref a1), .val (.int (1 : Int32)), .unset, .unset, .unset] [(.ref a1)])) rfl rfl (hb hby d6_1)
  refine own_st st1 ?_
  show Fin1 p e below s (rmMQ Z a1 t kt z vs h0 n0) ({ frames := 0, cells := 0, slots := 0, locals := 0 } : Room).cells ({ frames := 0, cells := 0, slots := 0, locals := 0 } : Room).slots (T1.setTop (mkF m 4 #[.val (.ref a1), .val (.int (1 : Int32)), .unset, .unset, .unset] [(.int z)]))
  refine own_st (fun wt wk => XS.iloadN X1.here hx rfl (hb hby d6_4) rfl wk) ?_
  show Fin1 p e below s (rmMQ Z a1 t kt z vs h0 n0) ({ frames := 0, cells := 0, slots := 0, locals := 0 } : Room).cells ({ frames := 0, cells := 0, slots := 0, locals := 0 } : Room).slots (T1.setTop (mkF m 5 #[.val (.ref a1), .val (.int (1 : Int32)), .unset, .unset, .unset] [(.int (1 : Int32)), (.int z)]))
  refine own_st (fun wt wk => XS.iadd X1.here hx rfl (hb hby d6_5) rfl wk) ?_
  show Fin1 p e below s (rmMQ Z a1 t kt z vs h0 n0) ({ frames := 0, cells := 0, slots := 0, locals := 0 } : Room).cells ({ frames := 0, cells := 0, slots := 0, locals := 0 } : Room).slots (T1.setTop (mkF m 6 #[.val (.ref a1), .val (.int (1 : Int32)), .unset, .unset, .unset] [(.int (z + (1 : Int32)))]))
  refine own_st (fun wt wk => XS.istoreN X1.here hx rfl (hb hby d6_6) rfl (l' := #[.val (.ref a1), .val (.int (1 : Int32)), .val (.int (z + (1 : Int32))), .unset, .unset]) rfl wk) ?_
  show Fin1 p e below s (rmMQ Z a1 t kt z vs h0 n0) ({ frames := 0, cells := 0, slots := 0, locals := 0 } : Room).cells ({ frames := 0, cells := 0, slots := 0, locals := 0 } : Room).slots (T1.setTop (mkF m 7 #[.val (.ref a1), .val (.int (1 : Int32)), .val (.int (z + (1 : Int32))), .unset, .unset] []))
  refine own_st (fun wt wk => XS.iloadN X1.here hx rfl (hb hby d6_7) rfl wk) ?_
  show Fin1 p e below s (rmMQ Z a1 t kt z vs h0 n0) ({ frames := 0, cells := 0, slots := 0, locals := 0 } : Room).cells ({ frames := 0, cells := 0, slots := 0, locals := 0 } : Room).slots (T1.setTop (mkF m 8 #[.val (.ref a1), .val (.int (1 : Int32)), .val (.int (z + (1 : Int32))), .unset, .unset] [(.int (z + (1 : Int32)))]))
  refine own_st (fun wt wk => XS.aloadN X1.here hx rfl (hb hby d6_8) rfl rfl wk) ?_
  show Fin1 p e below s (rmMQ Z a1 t kt z vs h0 n0) ({ frames := 0, cells := 0, slots := 0, locals := 0 } : Room).cells ({ frames := 0, cells := 0, slots := 0, locals := 0 } : Room).slots (T1.setTop (mkF m 9 #[.val (.ref a1), .val (.int (1 : Int32)), .val (.int (z + (1 : Int32))), .unset, .unset] [(.ref a1), (.int (z + (1 : Int32)))]))
  obtain ⟨T2, X2, e2, st2⟩ := getF X1 hx hZ hown (host := "") (Or.inl (hw _ (List.mem_of_getElem? (i := 24) rfl))) Via.refl e1 Fe (g := (mkF m 9 #[.val (.ref a1), .val (.int (1 : Int32)), .val (.int (z + (1 : Int32))), .unset, .unset] [(.ref a1), (.int (z + (1 : Int32)))])) rfl rfl (hb hby d6_9)
  refine own_st st2 ?_
  show Fin1 p e below s (rmMQ Z a1 t kt z vs h0 n0) ({ frames := 0, cells := 0, slots := 0, locals := 0 } : Room).cells ({ frames := 0, cells := 0, slots := 0, locals := 0 } : Room).slots (T2.setTop (mkF m 12 #[.val (.ref a1), .val (.int (1 : Int32)), .val (.int (z + (1 : Int32))), .unset, .unset] [(.ref t), (.int (z + (1 : Int32)))]))
  refine own_st (own_len X2 hx hZ e2 V_t (g := (mkF m 12 #[.val (.ref a1), .val (.int (1 : Int32)), .val (.int (z + (1 : Int32))), .unset, .unset] [(.ref t), (.int (z + (1 : Int32)))])) rfl rfl (hb hby d6_12)) ?_
  show Fin1 p e below s (rmMQ Z a1 t kt z vs h0 n0) ({ frames := 0, cells := 0, slots := 0, locals := 0 } : Room).cells ({ frames := 0, cells := 0, slots := 0, locals := 0 } : Room).slots (T2.setTop (mkF m 13 #[.val (.ref a1), .val (.int (1 : Int32)), .val (.int (z + (1 : Int32))), .unset, .unset] [(.int (10 : Int32)), (.int (z + (1 : Int32)))]))
  refine own_st (fun wt wk => XS.icmpNo X2.here hx rfl (hb hby d6_13) rfl (flt hz).2.2.1 wk) ?_
  show Fin1 p e below s (rmMQ Z a1 t kt z vs h0 n0) ({ frames := 0, cells := 0, slots := 0, locals := 0 } : Room).cells ({ frames := 0, cells := 0, slots := 0, locals := 0 } : Room).slots (T2.setTop (mkF m 16 #[.val (.ref a1), .val (.int (1 : Int32)), .val (.int (z + (1 : Int32))), .unset, .unset] []))
  exact own_retV X2 hx hlk hret (hb hby d6_16) (by rw [e2]; exact ⟨rfl, N0, rfl⟩) (by decide) (by decide)
theorem d5_0 : decode prog_12_method_6_code 0 = .ok (.aload_n 0, 1) := by decide +kernel
theorem d5_1 : decode prog_12_method_6_code 1 = .ok (.iconst 1, 1) := by decide +kernel
theorem d5_2 : decode prog_12_method_6_code 2 = .ok (.invokevirtual 31, 3) := by decide +kernel
theorem d5_5 : decode prog_12_method_6_code 5 = .ok (.aload_n 0, 1) := by decide +kernel
theorem d5_6 : decode prog_12_method_6_code 6 = .ok (.getfield 11, 3) := by decide +kernel
theorem d5_9 : decode prog_12_method_6_code 9 = .ok (.iload_n 1, 1) := by decide +kernel
theorem d5_10 : decode prog_12_method_6_code 10 = .ok (.aload_n 0, 1) := by decide +kernel
theorem d5_11 : decode prog_12_method_6_code 11 = .ok (.getfield 11, 3) := by decide +kernel
theorem d5_14 : decode prog_12_method_6_code 14 = .ok (.iload_n 1, 1) := by decide +kernel
theorem d5_15 : decode prog_12_method_6_code 15 = .ok (.iconst 1, 1) := by decide +kernel
theorem d5_16 : decode prog_12_method_6_code 16 = .ok (.iadd, 1) := by decide +kernel
theorem d5_17 : decode prog_12_method_6_code 17 = .ok (.aload_n 0, 1) := by decide +kernel
theorem d5_18 : decode prog_12_method_6_code 18 = .ok (.getfield 15, 3) := by decide +kernel
theorem d5_21 : decode prog_12_method_6_code 21 = .ok (.iload_n 1, 1) := by decide +kernel
theorem d5_22 : decode prog_12_method_6_code 22 = .ok (.isub, 1) := by decide +kernel
theorem d5_23 : decode prog_12_method_6_code 23 = .ok (.invokestatic 35, 3) := by decide +kernel
theorem d5_26 : decode prog_12_method_6_code 26 = .ok (.aload_n 0, 1) := by decide +kernel
theorem d5_27 : decode prog_12_method_6_code 27 = .ok (.getfield 11, 3) := by decide +kernel
theorem d5_30 : decode prog_12_method_6_code 30 = .ok (.iload_n 1, 1) := by decide +kernel
theorem d5_31 : decode prog_12_method_6_code 31 = .ok (.aload_n 2, 1) := by decide +kernel
theorem d5_32 : decode prog_12_method_6_code 32 = .ok (.aastore, 1) := by decide +kernel
theorem d5_33 : decode prog_12_method_6_code 33 = .ok (.aload_n 0, 1) := by decide +kernel
theorem d5_34 : decode prog_12_method_6_code 34 = .ok (.dup, 1) := by decide +kernel
theorem d5_35 : decode prog_12_method_6_code 35 = .ok (.getfield 15, 3) := by decide +kernel
theorem d5_38 : decode prog_12_method_6_code 38 = .ok (.iconst 1, 1) := by decide +kernel
theorem d5_39 : decode prog_12_method_6_code 39 = .ok (.iadd, 1) := by decide +kernel
theorem d5_40 : decode prog_12_method_6_code 40 = .ok (.putfield 15, 3) := by decide +kernel
theorem d5_43 : decode prog_12_method_6_code 43 = .ok (.return_, 1) := by decide +kernel
def rmI0Q (Z : State) (a1 : Addr) (x : Addr) (t : Addr) (kt : ClassId) (h0 : Heap) (n0 : Nat) (v : Option Value) (h : Heap) (L : List Loc) : Prop := v = none ∧ Fr n0 L ∧ Keep h0 h [a1, t] ∧ Fld Z h a1 "com/example/listwright/listwright/ArrayStorage" "elements" "[Ljava/lang/Object;" (.ref t) ∧ Fld Z h a1 "com/example/listwright/listwright/ArrayStorage" "size" "I" (.int (1 : Int32)) ∧ Arv Z h t kt (.object "java/lang/Object") (10 : Int32) [(.ref x), .null, .null, .null, .null, .null, .null, .null, .null, .null] .null
set_option maxRecDepth 65536 in
set_option maxHeartbeats 40000000 in
theorem rmI0 (l : Launch) (Z : State) (a0 : Array Value) (hw : ∀ d ∈ tables_1, d.before a0 Z = true) (a1 : Addr) (x : Addr) (t : Addr) (kt : ClassId) (h0 : Heap) (n0 : Nat) (Z0 : n0 ≤ h0.size) (g_a1 : n0 ≤ a1) (g_t : n0 ≤ t) (E_a1 : Exa Z h0 a1 "com/example/listwright/listwright/ArrayStorage") (E_x : Exa Z h0 x "java/lang/Integer") (Fe : Fld Z h0 a1 "com/example/listwright/listwright/ArrayStorage" "elements" "[Ljava/lang/Object;" (.ref t)) (Fs : Fld Z h0 a1 "com/example/listwright/listwright/ArrayStorage" "size" "I" (.int (0 : Int32))) (V_t : Arv Z h0 t kt (.object "java/lang/Object") (10 : Int32) [.null, .null, .null, .null, .null, .null, .null, .null, .null, .null] .null) (hov : Ovr Z kt "java/lang/Object") (ne_a1_t : a1 ≠ t) :
    Ct l Z [] (⟨"com/example/listwright/listwright/ArrayStorage", "insert", "(ILjava/lang/Object;)V"⟩ : MethodName) prog_12_method_6_code 3 none ({ frames := 1, cells := 0, slots := 0, locals := 18 } : Room) #[(.ref a1), (.int (0 : Int32)), (.ref x)] h0 (rmI0Q Z a1 x t kt h0 n0) := by
  refine own_enter (plainFor_of_name pn_5) ?_
  intro p e s m below meth c T0 X0 hx hby hml hZ hown hnm hret hlk e0
  have hown : s.vm.findClass "com/example/listwright/listwright/ArrayStorage" = some m.cls := hown
  have N0 := Fr.nil n0
  have K0 := Keep.refl h0 [a1, t]
  refine own_st (fun wt wk => castTop (g' := mkF m 0 #[.val (.ref a1), .val (.int (0 : Int32)), .val (.ref x)] []) (by first | (simp [entryFrame, mkF, argsToLocals, Value.category]; done) | rfl) wk) ?_
  show Fin1 p e below s (rmI0Q Z a1 x t kt h0 n0) ({ frames := 1, cells := 0, slots := 0, locals := 18 } : Room).cells ({ frames := 1, cells := 0, slots := 0, locals := 18 } : Room).slots (T0.setTop (mkF m 0 #[.val (.ref a1), .val (.int (0 : Int32)), .val (.ref x)] []))
  refine own_st (fun wt wk => XS.aloadN X0.here hx rfl (hb hby d5_0) rfl rfl wk) ?_
  show Fin1 p e below s (rmI0Q Z a1 x t kt h0 n0) ({ frames := 1, cells := 0, slots := 0, locals := 18 } : Room).cells ({ frames := 1, cells := 0, slots := 0, locals := 18 } : Room).slots (T0.setTop (mkF m 1 #[.val (.ref a1), .val (.int (0 : Int32)), .val (.ref x)] [(.ref a1)]))
  refine own_st (fun wt wk => XS.iconst X0.here hx rfl (hb hby d5_1) wk) ?_
  show Fin1 p e below s (rmI0Q Z a1 x t kt h0 n0) ({ frames := 1, cells := 0, slots := 0, locals := 18 } : Room).cells ({ frames := 1, cells := 0, slots := 0, locals := 18 } : Room).slots (T0.setTop (mkF m 2 #[.val (.ref a1), .val (.int (0 : Int32)), .val (.ref x)] [(.int (1 : Int32)), (.ref a1)]))
  obtain ⟨v1, T1, h1, L1, X1, e1, hQ1, st1⟩ := own_private X0 hx hZ hown (hw _ (List.mem_of_getElem? (i := 31) rfl)) (hw _ (List.mem_of_getElem? (i := 32) rfl)) (hw _ (List.mem_of_getElem? (i := 9) rfl)) (hw _ (List.mem_of_getElem? (i := 33) rfl)) (hw _ (List.mem_of_getElem? (i := 34) rfl)) (hw _ (List.mem_of_getElem? (i := 10) rfl)) (by decide) (a := a1) E_a1 (rmM l Z a0 hw a1 t kt (0 : Int32) [.null, .null, .null, .null, .null, .null, .null, .null, .null, .null] h0 n0 Z0 Fe Fs V_t (by decide)) e0 (g := (mkF m 2 #[.val (.ref a1), .val (.int (0 : Int32)), .val (.ref x)] [(.int (1 : Int32)), (.ref a1)])) rfl (by rw [hml]; rfl) (argsL := [(.int (1 : Int32))]) (rest := []) (lenOf pd_3 rfl) rfl (W := 0) (by show 2 * 0 + _ ≤ _; exact Nat.le_of_eq rfl) (hb hby d5_2) (by decide) (by decide) (by decide) (by decide)
  obtain ⟨rfl, N1q, hh1⟩ := hQ1
  have N1 := Fr.app N0 N1q
  rw [hh1] at e1
  refine own_st st1 ?_
  show Fin1 p e below s (rmI0Q Z a1 x t kt h0 n0) ({ frames := 1, cells := 0, slots := 0, locals := 18 } : Room).cells ({ frames := 1, cells := 0, slots := 0, locals := 18 } : Room).slots (T1.setTop (mkF m 5 #[.val (.ref a1), .val (.int (0 : Int32)), .val (.ref x)] []))
  refine own_st (fun wt wk => XS.aloadN X1.here hx rfl (hb hby d5_5) rfl rfl wk) ?_
  show Fin1 p e below s (rmI0Q Z a1 x t kt h0 n0) ({ frames := 1, cells := 0, slots := 0, locals := 18 } : Room).cells ({ frames := 1, cells := 0, slots := 0, locals := 18 } : Room).slots (T1.setTop (mkF m 6 #[.val (.ref a1), .val (.int (0 : Int32)), .val (.ref x)] [(.ref a1)]))
  obtain ⟨T2, X2, e2, st2⟩ := getF X1 hx hZ hown (host := "") (Or.inl (hw _ (List.mem_of_getElem? (i := 24) rfl))) Via.refl e1 Fe (g := (mkF m 6 #[.val (.ref a1), .val (.int (0 : Int32)), .val (.ref x)] [(.ref a1)])) rfl rfl (hb hby d5_6)
  refine own_st st2 ?_
  show Fin1 p e below s (rmI0Q Z a1 x t kt h0 n0) ({ frames := 1, cells := 0, slots := 0, locals := 18 } : Room).cells ({ frames := 1, cells := 0, slots := 0, locals := 18 } : Room).slots (T2.setTop (mkF m 9 #[.val (.ref a1), .val (.int (0 : Int32)), .val (.ref x)] [(.ref t)]))
  refine own_st (fun wt wk => XS.iloadN X2.here hx rfl (hb hby d5_9) rfl wk) ?_
  show Fin1 p e below s (rmI0Q Z a1 x t kt h0 n0) ({ frames := 1, cells := 0, slots := 0, locals := 18 } : Room).cells ({ frames := 1, cells := 0, slots := 0, locals := 18 } : Room).slots (T2.setTop (mkF m 10 #[.val (.ref a1), .val (.int (0 : Int32)), .val (.ref x)] [(.int (0 : Int32)), (.ref t)]))
  refine own_st (fun wt wk => XS.aloadN X2.here hx rfl (hb hby d5_10) rfl rfl wk) ?_
  show Fin1 p e below s (rmI0Q Z a1 x t kt h0 n0) ({ frames := 1, cells := 0, slots := 0, locals := 18 } : Room).cells ({ frames := 1, cells := 0, slots := 0, locals := 18 } : Room).slots (T2.setTop (mkF m 11 #[.val (.ref a1), .val (.int (0 : Int32)), .val (.ref x)] [(.ref a1), (.int (0 : Int32)), (.ref t)]))
  obtain ⟨T3, X3, e3, st3⟩ := getF X2 hx hZ hown (host := "") (Or.inl (hw _ (List.mem_of_getElem? (i := 24) rfl))) Via.refl e2 Fe (g := (mkF m 11 #[.val (.ref a1), .val (.int (0 : Int32)), .val (.ref x)] [(.ref a1), (.int (0 : Int32)), (.ref t)])) rfl rfl (hb hby d5_11)
  refine own_st st3 ?_
  show Fin1 p e below s (rmI0Q Z a1 x t kt h0 n0) ({ frames := 1, cells := 0, slots := 0, locals := 18 } : Room).cells ({ frames := 1, cells := 0, slots := 0, locals := 18 } : Room).slots (T3.setTop (mkF m 14 #[.val (.ref a1), .val (.int (0 : Int32)), .val (.ref x)] [(.ref t), (.int (0 : Int32)), (.ref t)]))
  refine own_st (fun wt wk => XS.iloadN X3.here hx rfl (hb hby d5_14) rfl wk) ?_
  show Fin1 p e below s (rmI0Q Z a1 x t kt h0 n0) ({ frames := 1, cells := 0, slots := 0, locals := 18 } : Room).cells ({ frames := 1, cells := 0, slots := 0, locals := 18 } : Room).slots (T3.setTop (mkF m 15 #[.val (.ref a1), .val (.int (0 : Int32)), .val (.ref x)] [(.int (0 : Int32)), (.ref t), (.int (0 : Int32)), (.ref t)]))
  refine own_st (fun wt wk => XS.iconst X3.here hx rfl (hb hby d5_15) wk) ?_
  show Fin1 p e below s (rmI0Q Z a1 x t kt h0 n0) ({ frames := 1, cells := 0, slots := 0, locals := 18 } : Room).cells ({ frames := 1, cells := 0, slots := 0, locals := 18 } : Room).slots (T3.setTop (mkF m 16 #[.val (.ref a1), .val (.int (0 : Int32)), .val (.ref x)] [(.int (1 : Int32)), (.int (0 : Int32)), (.ref t), (.int (0 : Int32)), (.ref t)]))
  refine own_st (fun wt wk => XS.iadd X3.here hx rfl (hb hby d5_16) rfl wk) ?_
  show Fin1 p e below s (rmI0Q Z a1 x t kt h0 n0) ({ frames := 1, cells := 0, slots := 0, locals := 18 } : Room).cells ({ frames := 1, cells := 0, slots := 0, locals := 18 } : Room).slots (T3.setTop (mkF m 17 #[.val (.ref a1), .val (.int (0 : Int32)), .val (.ref x)] [(.int ((0 : Int32) + (1 : Int32))), (.ref t), (.int (0 : Int32)), (.ref t)]))
  refine own_st (fun wt wk => XS.aloadN X3.here hx rfl (hb hby d5_17) rfl rfl wk) ?_
  show Fin1 p e below s (rmI0Q Z a1 x t kt h0 n0) ({ frames := 1, cells := 0, slots := 0, locals := 18 } : Room).cells ({ frames := 1, cells := 0, slots := 0, locals := 18 } : Room).slots (T3.setTop (mkF m 18 #[.val (.ref a1), .val (.int (0 : Int32)), .val (.ref x)] [(.ref a1), (.int ((0 : Int32) + (1 : Int32))), (.ref t), (.int (0 : Int32)), (.ref t)]))
  obtain ⟨T4, X4, e4, st4⟩ := getF X3 hx hZ hown (host := "") (Or.inl (hw _ (List.mem_of_getElem? (i := 35) rfl))) Via.refl e3 Fs (g := (mkF m 18 #[.val (.ref a1), .val (.int (0 : Int32)), .val (.ref x)] [(.ref a1), (.int ((0 : Int32) + (1 : Int32))), (.ref t), (.int (0 : Int32)), (.ref t)])) rfl rfl (hb hby d5_18)
  refine own_st st4 ?_
  show Fin1 p e below s (rmI0Q Z a1 x t kt h0 n0) ({ frames := 1, cells := 0, slots := 0, locals := 18 } : Room).cells ({ frames := 1, cells := 0, slots := 0, locals := 18 } : Room).slots (T4.setTop (mkF m 21 #[.val (.ref a1), .val (.int (0 : Int32)), .val (.ref x)] [(.int (0 : Int32)), (.int ((0 : Int32) + (1 : Int32))), (.ref t), (.int (0 : Int32)), (.ref t)]))
  refine own_st (fun wt wk => XS.iloadN X4.here hx rfl (hb hby d5_21) rfl wk) ?_
  show Fin1 p e below s (rmI0Q Z a1 x t kt h0 n0) ({ frames := 1, cells := 0, slots := 0, locals := 18 } : Room).cells ({ frames := 1, cells := 0, slots := 0, locals := 18 } : Room).slots (T4.setTop (mkF m 22 #[.val (.ref a1), .val (.int (0 : Int32)), .val (.ref x)] [(.int (0 : Int32)), (.int (0 : Int32)), (.int ((0 : Int32) + (1 : Int32))), (.ref t), (.int (0 : Int32)), (.ref t)]))
  refine own_st (fun wt wk => XS.isub X4.here hx rfl (hb hby d5_22) rfl wk) ?_
  show Fin1 p e below s (rmI0Q Z a1 x t kt h0 n0) ({ frames := 1, cells := 0, slots := 0, locals := 18 } : Room).cells ({ frames := 1, cells := 0, slots := 0, locals := 18 } : Room).slots (T4.setTop (mkF m 23 #[.val (.ref a1), .val (.int (0 : Int32)), .val (.ref x)] [(.int ((0 : Int32) - (0 : Int32))), (.int ((0 : Int32) + (1 : Int32))), (.ref t), (.int (0 : Int32)), (.ref t)]))
  obtain ⟨T5, h5, L5, X5, e5, N5, K5, U5, st5⟩ := cpA X4 hx hZ hown (hw _ (List.mem_of_getElem? (i := 37) rfl)) (hw _ (List.mem_of_getElem? (i := 40) rfl)) (hw _ (List.mem_of_getElem? (i := 38) rfl)) (hw _ (List.mem_of_getElem? (i := 39) rfl)) e4 V_t V_t (us := []) (Or.inr ⟨rfl, rfl, trivial⟩) (by decide) (by decide) (by decide) (by decide) (by decide) rfl (Nat.le_of_ble_eq_true rfl) N1 g_t (g := (mkF m 23 #[.val (.ref a1), .val (.int (0 : Int32)), .val (.ref x)] [(.int ((0 : Int32) - (0 : Int32))), (.int ((0 : Int32) + (1 : Int32))), (.ref t), (.int (0 : Int32)), (.ref t)])) rfl (by rw [hml]; rfl) rfl (hb hby d5_23) (by decide) (W := 0) (by show 2 * 0 + _ ≤ _; exact Nat.le_of_eq rfl) (by first | decide | (simp [nativeFrameWords]; done) | decide +kernel)
  have Z0 := Nat.le_trans Z0 K5.1
  have K0 := K0.trans K5 (allS (P := fun x => x ∈ [a1, t] ∨ h0.size ≤ x) (Or.inl (List.mem_of_getElem? (i := 1) rfl)) all0)
  have E_a1 := E_a1.keep K5
  have Fe := Fe.keep K5 (ninS ne_a1_t nin0)
  have Fs := Fs.keep K5 (ninS ne_a1_t nin0)
  have E_x := E_x.keep K5
  have V_t : Arv Z h5 t kt (.object "java/lang/Object") (10 : Int32) [.null, .null, .null, .null, .null, .null, .null, .null, .null, .null] .null := U5
  refine own_st st5 ?_
  show Fin1 p e below s (rmI0Q Z a1 x t kt h0 n0) ({ frames := 1, cells := 0, slots := 0, locals := 18 } : Room).cells ({ frames := 1, cells := 0, slots := 0, locals := 18 } : Room).slots (T5.setTop (mkF m 26 #[.val (.ref a1), .val (.int (0 : Int32)), .val (.ref x)] []))
  refine own_st (fun wt wk => XS.aloadN X5.here hx rfl (hb hby d5_26) rfl rfl wk) ?_
  show Fin1 p e below s (rmI0Q Z a1 x t kt h0 n0) ({ frames := 1, cells := 0, slots := 0, locals := 18 } : Room).cells ({ frames := 1, cells := 0, slots := 0, locals := 18 } : Room).slots (T5.setTop (mkF m 27 #[.val (.ref a1), .val (.int (0 : Int32)), .val (.ref x)] [(.ref a1)]))
  obtain ⟨T6, X6, e6, st6⟩ := getF X5 hx hZ hown (host := "") (Or.inl (hw _ (List.mem_of_getElem? (i := 24) rfl))) Via.refl e5 Fe (g := (mkF m 27 #[.val (.ref a1), .val (.int (0 : Int32)), .val (.ref x)] [(.ref a1)])) rfl rfl (hb hby d5_27)
  refine own_st st6 ?_
  show Fin1 p e below s (rmI0Q Z a1 x t kt h0 n0) ({ frames := 1, cells := 0, slots := 0, locals := 18 } : Room).cells ({ frames := 1, cells := 0, slots := 0, locals := 18 } : Room).slots (T6.setTop (mkF m 30 #[.val (.ref a1), .val (.int (0 : Int32)), .val (.ref x)] [(.ref t)]))
  refine own_st (fun wt wk => XS.iloadN X6.here hx rfl (hb hby d5_30) rfl wk) ?_
  show Fin1 p e below s (rmI0Q Z a1 x t kt h0 n0) ({ frames := 1, cells := 0, slots := 0, locals := 18 } : Room).cells ({ frames := 1, cells := 0, slots := 0, locals := 18 } : Room).slots (T6.setTop (mkF m 31 #[.val (.ref a1), .val (.int (0 : Int32)), .val (.ref x)] [(.int (0 : Int32)), (.ref t)]))
  refine own_st (fun wt wk => XS.aloadN X6.here hx rfl (hb hby d5_31) rfl rfl wk) ?_
  show Fin1 p e below s (rmI0Q Z a1 x t kt h0 n0) ({ frames := 1, cells := 0, slots := 0, locals := 18 } : Room).cells ({ frames := 1, cells := 0, slots := 0, locals := 18 } : Room).slots (T6.setTop (mkF m 32 #[.val (.ref a1), .val (.int (0 : Int32)), .val (.ref x)] [(.ref x), (.int (0 : Int32)), (.ref t)]))
  obtain ⟨T7, h7, X7, e7, W7, U7, st7⟩ := own_stR (j := (0 : Int32)) X6 hx hZ e6 V_t (C := "java/lang/Object") rfl rfl (Or.inr ⟨x, rfl, hov, Ins.of_exa E_x (hw _ (List.mem_of_getElem? (i := 41) rfl))⟩) ⟨by decide, by decide⟩ 0 rfl (by simp) (g := (mkF m 32 #[.val (.ref a1), .val (.int (0 : Int32)), .val (.ref x)] [(.ref x), (.int (0 : Int32)), (.ref t)])) rfl rfl (hb hby d5_32)
  have N7 := Fr.snoc X7 N5 g_t
  have Z0 := Nat.le_trans Z0 (Nat.le_of_eq W7.size.symm)
  have K0 := K0.wr W7 (Or.inl (List.mem_of_getElem? (i := 1) rfl))
  have E_a1 := E_a1.wr W7
  have Fe := Fe.other W7 (Or.inl ne_a1_t)
  have Fs := Fs.other W7 (Or.inl ne_a1_t)
  have E_x := E_x.wr W7
  have V_t : Arv Z h7 t kt (.object "java/lang/Object") (10 : Int32) [(.ref x), .null, .null, .null, .null, .null, .null, .null, .null, .null] .null := U7
  refine own_st st7 ?_
  show Fin1 p e below s (rmI0Q Z a1 x t kt h0 n0) ({ frames := 1, cells := 0, slots := 0, locals := 18 } : Room).cells ({ frames := 1, cells := 0, slots := 0, locals := 18 } : Room).slots (T7.setTop (mkF m 33 #[.val (.ref a1), .val (.int (0 : Int32)), .val (.ref x)] []))
  refine own_st (fun wt wk => XS.aloadN X7.here hx rfl (hb hby d5_33) rfl rfl wk) ?_
  show Fin1 p e below s (rmI0Q Z a1 x t kt h0 n0) ({ frames := 1, cells := 0, slots := 0, locals := 18 } : Room).cells ({ frames := 1, cells := 0, slots := 0, locals := 18 } : Room).slots (T7.setTop (mkF m 34 #[.val (.ref a1), .val (.int (0 : Int32)), .val (.ref x)] [(.ref a1)]))
  refine own_st (fun wt wk => XS.dup X7.here hx rfl (hb hby d5_34) rfl rfl wk) ?_
  show Fin1 p e below s (rmI0Q Z a1 x t kt h0 n0) ({ frames := 1, cells := 0, slots := 0, locals := 18 } : Room).cells ({ frames := 1, cells := 0, slots := 0, locals := 18 } : Room).slots (T7.setTop (mkF m 35 #[.val (.ref a1), .val (.int (0 : Int32)), .val (.ref x)] [(.ref a1), (.ref a1)]))
  obtain ⟨T8, X8, e8, st8⟩ := getF X7 hx hZ hown (host := "") (Or.inl (hw _ (List.mem_of_getElem? (i := 35) rfl))) Via.refl e7 Fs (g := (mkF m 35 #[.val (.ref a1), .val (.int (0 : Int32)), .val (.ref x)] [(.ref a1), (.ref a1)])) rfl rfl (hb hby d5_35)
  refine own_st st8 ?_
  show Fin1 p e below s (rmI0Q Z a1 x t kt h0 n0) ({ frames := 1, cells := 0, slots := 0, locals := 18 } : Room).cells ({ frames := 1, cells := 0, slots := 0, locals := 18 } : Room).slots (T8.setTop (mkF m 38 #[.val (.ref a1), .val (.int (0 : Int32)), .val (.ref x)] [(.int (0 : Int32)), (.ref a1)]))
  refine own_st (fun wt wk => XS.iconst X8.here hx rfl (hb hby d5_38) wk) ?_
  show Fin1 p e below s (rmI0Q Z a1 x t kt h0 n0) ({ frames := 1, cells := 0, slots := 0, locals := 18 } : Room).cells ({ frames := 1, cells := 0, slots := 0, locals := 18 } : Room).slots (T8.setTop (mkF m 39 #[.val (.ref a1), .val (.int (0 : Int32)), .val (.ref x)] [(.int (1 : Int32)), (.int (0 : Int32)), (.ref a1)]))
  refine own_st (fun wt wk => XS.iadd X8.here hx rfl (hb hby d5_39) rfl wk) ?_
  show Fin1 p e below s (rmI0Q Z a1 x t kt h0 n0) ({ frames := 1, cells := 0, slots := 0, locals := 18 } : Room).cells ({ frames := 1, cells := 0, slots := 0, locals := 18 } : Room).slots (T8.setTop (mkF m 40 #[.val (.ref a1), .val (.int (0 : Int32)), .val (.ref x)] [(.int ((0 : Int32) + (1 : Int32))), (.ref a1)]))
  obtain ⟨T9, h9, X9, e9, W9, st9⟩ := putF X8 hx hZ hown (host := "") (Or.inl (hw _ (List.mem_of_getElem? (i := 35) rfl))) Via.refl e8 Fs E_a1 (Or.inl (hw _ (List.mem_of_getElem? (i := 36) rfl))) (hw _ (List.mem_of_getElem? (i := 9) rfl)) (ty := .int) (by decide) rfl rfl (g := (mkF m 40 #[.val (.ref a1), .val (.int (0 : Int32)), .val (.ref x)] [(.int ((0 : Int32) + (1 : Int32))), (.ref a1)])) rfl rfl (hb hby d5_40)
  refine own_st st9 ?_
  have N9 := Fr.snoc X9 N7 g_a1
  have Z0 := Nat.le_trans Z0 (Nat.le_of_eq W9.size.symm)
  have K0 := K0.wr W9 (Or.inl (List.mem_of_getElem? (i := 0) rfl))
  have E_a1 := E_a1.wr W9
  have Fe := Fe.other W9 (Or.inr (slot_ne (Or.inl (hw _ (List.mem_of_getElem? (i := 25) rfl))) (Or.inl (hw _ (List.mem_of_getElem? (i := 36) rfl))) (by decide) (t := (.array (.object "java/lang/Object"))) (t' := .int) (by decide) (by decide)))
  have Fs := Fs.same W9
  have V_t := V_t.other W9 (Ne.symm ne_a1_t)
  have E_x := E_x.wr W9
  show Fin1 p e below s (rmI0Q Z a1 x t kt h0 n0) ({ frames := 1, cells := 0, slots := 0, locals := 18 } : Room).cells ({ frames := 1, cells := 0, slots := 0, locals := 18 } : Room).slots (T9.setTop (mkF m 43 #[.val (.ref a1), .val (.int (0 : Int32)), .val (.ref x)] []))
  exact own_retV X9 hx hlk hret (hb hby d5_43) (by rw [e9]; exact ⟨rfl, N9, K0, Fe, Fs, V_t⟩) (by decide) (by decide)
def rmI1Q (Z : State) (a1 : Addr) (x : Addr) (t : Addr) (kt : ClassId) (r0 : Addr) (h0 : Heap) (n0 : Nat) (v : Option Value) (h : Heap) (L : List Loc) : Prop := v = none ∧ Fr n0 L ∧ Keep h0 h [a1, t] ∧ Fld Z h a1 "com/example/listwright/listwright/ArrayStorage" "elements" "[Ljava/lang/Object;" (.ref t) ∧ Fld Z h a1 "com/example/listwright/listwright/ArrayStorage" "size" "I" (.int (2 : Int32)) ∧ Arv Z h t kt (.object "java/lang/Object") (10 : Int32) [(.ref r0), (.ref x), .null, .null, .null, .null, .null, .null, .null, .null] .null
set_option maxRecDepth 65536 in
set_option maxHeartbeats 40000000 in
theorem rmI1 (l : Launch) (Z : State) (a0 : Array Value) (hw : ∀ d ∈ tables_1, d.before a0 Z = true) (a1 : Addr) (x : Addr) (t : Addr) (kt : ClassId) (r0 : Addr) (h0 : Heap) (n0 : Nat) (Z0 : n0 ≤ h0.size) (g_a1 : n0 ≤ a1) (g_t : n0 ≤ t) (E_a1 : Exa Z h0 a1 "com/example/listwright/listwright/ArrayStorage") (E_x : Exa Z h0 x "java/lang/Integer") (Fe : Fld Z h0 a1 "com/example/listwright/listwright/ArrayStorage" "elements" "[Ljava/lang/Object;" (.ref t)) (Fs : Fld Z h0 a1 "com/example/listwright/listwright/ArrayStorage" "size" "I" (.int (1 : Int32))) (V_t : Arv Z h0 t kt (.object "java/lang/Object") (10 : Int32) [(.ref r0), .null, .null, .null, .null, .null, .null, .null, .null, .null] .null) (hov : Ovr Z kt "java/lang/Object") (ne_a1_t : a1 ≠ t) :
    Ct l Z [] (⟨"com/example/listwright/listwright/ArrayStorage", "insert", "(ILjava/lang/Object;)V"⟩ : MethodName) prog_12_method_6_code 3 none ({ frames := 1, cells := 0, slots := 0, locals := 18 } : Room) #[(.ref a1), (.int (1 : Int32)), (.ref x)] h0 (rmI1Q Z a1 x t kt r0 h0 n0) := by
  refine own_enter (plainFor_of_name pn_5) ?_
  intro p e s m below meth c T0 X0 hx hby hml hZ hown hnm hret hlk e0
  have hown : s.vm.findClass "com/example/listwright/listwright/ArrayStorage" = some m.cls := hown
  have N0 := Fr.nil n0
  have K0 := Keep.refl h0 [a1, t]
  refine own_st (fun wt wk => castTop (g' := mkF m 0 #[.val (.ref a1), .val (.int (1 : Int32)), .val (.ref x)] []) (by first | (simp [entryFrame, mkF, argsToLocals, Value.category]; done) | rfl) wk) ?_
  show Fin1 p e below s (rmI1Q Z a1 x t kt r0 h0 n0) ({ frames := 1, cells := 0, slots := 0, locals := 18 } : Room).cells ({ frames := 1, cells := 0, slots := 0, locals := 18 } : Room).slots (T0.setTop (mkF m 0 #[.val (.ref a1), .val (.int (1 : Int32)), .val (.ref x)] []))
  refine own_st (fun wt wk => XS.aloadN X0.here hx rfl (hb hby d5_0) rfl rfl wk) ?_
  show Fin1 p e below s (rmI1Q Z a1 x t kt r0 h0 n0) ({ frames := 1, cells := 0, slots := 0, locals := 18 } : Room).cells ({ frames := 1, cells := 0, slots := 0, locals := 18 } : Room).slots (T0.setTop (mkF m 1 #[.val (.ref a1), .val (.int (1 : Int32)), .val (.ref x)] [(.ref a1)]))
  refine own_st (fun wt wk => XS.iconst X0.here hx rfl (hb hby d5_1) wk) ?_
  show Fin1 p e below s (rmI1Q Z a1 x t kt r0 h0 n0) ({ frames := 1, cells := 0, slots := 0, locals := 18 } : Room).cells ({ frames := 1, cells := 0, slots := 0, locals := 18 } : Room).slots (T0.setTop (mkF m 2 #[.val (.ref a1), .val (.int (1 : Int32)), .val (.ref x)] [(.int (1 : Int32)), (.ref a1)]))
  obtain ⟨v1, T1, h1, L1, X1, e1, hQ1, st1⟩ := own_private X0 hx hZ hown (hw _ (List.mem_of_getElem? (i := 31) rfl)) (hw _ (List.mem_of_getElem? (i := 32) rfl)) (hw _ (List.mem_of_getElem? (i := 9) rfl)) (hw _ (List.mem_of_getElem? (i := 33) rfl)) (hw _ (List.mem_of_getElem? (i := 34) rfl)) (hw _ (List.mem_of_getElem? (i := 10) rfl)) (by decide) (a := a1) E_a1 (rmM l Z a0 hw a1 t kt (1 : Int32) [(.ref r0), .null, .null, .null, .null, .null, .null, .null, .null, .null] h0 n0 Z0 Fe Fs V_t (by decide)) e0 (g := (mkF m 2 #[.val (.ref a1), .val (.int (1 : Int32)), .val (.ref x)] [(.int (1 : Int32)), (.ref a1)])) rfl (by rw [hml]; rfl) (argsL := [(.int (1 : Int32))]) (rest := []) (lenOf pd_3 rfl) rfl (W := 0) (by show 2 * 0 + _ ≤ _; exact Nat.le_of_eq rfl) (hb hby d5_2) (by decide) (by decide) (by decide) (by decide)
  obtain ⟨rfl, N1q, hh1⟩ := hQ1
  have N1 := Fr.app N0 N1q
  rw [hh1] at e1
  refine own_st st1 ?_
  show Fin1 p e below s (rmI1Q Z a1 x t kt r0 h0 n0) ({ frames := 1, cells := 0, slots := 0, locals := 18 } : Room).cells ({ frames := 1, cells := 0, slots := 0, locals := 18 } : Room).slots (T1.setTop (mkF m 5 #[.val (.ref a1), .val (.int (1 : Int32)), .val (.ref x)] []))
  refine own_st (fun wt wk => XS.aloadN X1.here hx rfl (hb hby d5_5) rfl rfl wk) ?_
  show Fin1 p e below s (rmI1Q Z a1 x t kt r0 h0 n0) ({ frames := 1, cells := 0, slots := 0, locals := 18 } : Room).cells ({ frames := 1, cells := 0, slots := 0, locals := 18 } : Room).slots (T1.setTop (mkF m 6 #[.val (.ref a1), .val (.int (1 : Int32)), .val (.ref x)] [(.ref a1)]))
  obtain ⟨T2, X2, e2, st2⟩ := getF X1 hx hZ hown (host := "") (Or.inl (hw _ (List.mem_of_getElem? (i := 24) rfl))) Via.refl e1 Fe (g := (mkF m 6 #[.val (.ref a1), .val (.int (1 : Int32)), .val (.ref x)] [(.ref a1)])) rfl rfl (hb hby d5_6)
  refine own_st st2 ?_
  show Fin1 p e below s (rmI1Q Z a1 x t kt r0 h0 n0) ({ frames := 1, cells := 0, slots := 0, locals := 18 } : Room).cells ({ frames := 1, cells := 0, slots := 0, locals := 18 } : Room).slots (T2.setTop (mkF m 9 #[.val (.ref a1), .val (.int (1 : Int32)), .val (.ref x)] [(.ref t)]))
  refine own_st (fun wt wk => XS.iloadN X2.here hx rfl (hb hby d5_9) rfl wk) ?_
  show Fin1 p e below s (rmI1Q Z a1 x t kt r0 h0 n0) ({ frames := 1, cells := 0, slots := 0, locals := 18 } : Room).cells ({ frames := 1, cells := 0, slots := 0, locals := 18 } : Room).slots (T2.setTop (mkF m 10 #[.val (.ref a1), .val (.int (1 : Int32)), .val (.ref x)] [(.int (1 : Int32)), (.ref t)]))
  refine own_st (fun wt wk => XS.aloadN X2.here hx rfl (hb hby d5_10) rfl rfl wk) ?_
  show Fin1 p e below s (rmI1Q Z a1 x t kt r0 h0 n0) ({ frames := 1, cells := 0, slots := 0, locals := 18 } : Room).cells ({ frames := 1, cells := 0, slots := 0, locals := 18 } : Room).slots (T2.setTop (mkF m 11 #[.val (.ref a1), .val (.int (1 : Int32)), .val (.ref x)] [(.ref a1), (.int (1 : Int32)), (.ref t)]))
  obtain ⟨T3, X3, e3, st3⟩ := getF X2 hx hZ hown (host := "") (Or.inl (hw _ (List.mem_of_getElem? (i := 24) rfl))) Via.refl e2 Fe (g := (mkF m 11 #[.val (.ref a1), .val (.int (1 : Int32)), .val (.ref x)] [(.ref a1), (.int (1 : Int32)), (.ref t)])) rfl rfl (hb hby d5_11)
  refine own_st st3 ?_
  show Fin1 p e below s (rmI1Q Z a1 x t kt r0 h0 n0) ({ frames := 1, cells := 0, slots := 0, locals := 18 } : Room).cells ({ frames := 1, cells := 0, slots := 0, locals := 18 } : Room).slots (T3.setTop (mkF m 14 #[.val (.ref a1), .val (.int (1 : Int32)), .val (.ref x)] [(.ref t), (.int (1 : Int32)), (.ref t)]))
  refine own_st (fun wt wk => XS.iloadN X3.here hx rfl (hb hby d5_14) rfl wk) ?_
  show Fin1 p e below s (rmI1Q Z a1 x t kt r0 h0 n0) ({ frames := 1, cells := 0, slots := 0, locals := 18 } : Room).cells ({ frames := 1, cells := 0, slots := 0, locals := 18 } : Room).slots (T3.setTop (mkF m 15 #[.val (.ref a1), .val (.int (1 : Int32)), .val (.ref x)] [(.int (1 : Int32)), (.ref t), (.int (1 : Int32)), (.ref t)]))
  refine own_st (fun wt wk => XS.iconst X3.here hx rfl (hb hby d5_15) wk) ?_
  show Fin1 p e below s (rmI1Q Z a1 x t kt r0 h0 n0) ({ frames := 1, cells := 0, slots := 0, locals := 18 } : Room).cells ({ frames := 1, cells := 0, slots := 0, locals := 18 } : Room).slots (T3.setTop (mkF m 16 #[.val (.ref a1), .val (.int (1 : Int32)), .val (.ref x)] [(.int (1 : Int32)), (.int (1 : Int32)), (.ref t), (.int (1 : Int32)), (.ref t)]))
  refine own_st (fun wt wk => XS.iadd X3.here hx rfl (hb hby d5_16) rfl wk) ?_
  show Fin1 p e below s (rmI1Q Z a1 x t kt r0 h0 n0) ({ frames := 1, cells := 0, slots := 0, locals := 18 } : Room).cells ({ frames := 1, cells := 0, slots := 0, locals := 18 } : Room).slots (T3.setTop (mkF m 17 #[.val (.ref a1), .val (.int (1 : Int32)), .val (.ref x)] [(.int ((1 : Int32) + (1 : Int32))), (.ref t), (.int (1 : Int32)), (.ref t)]))
  refine own_st (fun wt wk => XS.aloadN X3.here hx rfl (hb hby d5_17) rfl rfl wk) ?_
  show Fin1 p e below s (rmI1Q Z a1 x t kt r0 h0 n0) ({ frames := 1, cells := 0, slots := 0, locals := 18 } : Room).cells ({ frames := 1, cells := 0, slots := 0, locals := 18 } : Room).slots (T3.setTop (mkF m 18 #[.val (.ref a1), .val (.int (1 : Int32)), .val (.ref x)] [(.ref a1), (.int ((1 : Int32) + (1 : Int32))), (.ref t), (.int (1 : Int32)), (.ref t)]))
  obtain ⟨T4, X4, e4, st4⟩ := getF X3 hx hZ hown (host := "") (Or.inl (hw _ (List.mem_of_getElem? (i := 35) rfl))) Via.refl e3 Fs (g := (mkF m 18 #[.val (.ref a1), .val (.int (1 : Int32)), .val (.ref x)] [(.ref a1), (.int ((1 : Int32) + (1 : Int32))), (.ref t), (.int (1 : Int32)), (.ref t)])) rfl rfl (hb hby d5_18)
  refine own_st st4 ?_
  show Fin1 p e below s (rmI1Q Z a1 x t kt r0 h0 n0) ({ frames := 1, cells := 0, slots := 0, locals := 18 } : Room).cells ({ frames := 1, cells := 0, slots := 0, locals := 18 } : Room).slots (T4.setTop (mkF m 21 #[.val (.ref a1), .val (.int (1 : Int32)), .val (.ref x)] [(.int (1 : Int32)), (.int ((1 : Int32) + (1 : Int32))), (.ref t), (.int (1 : Int32)), (.ref t)]))
  refine own_st (fun wt wk => XS.iloadN X4.here hx rfl (hb hby d5_21) rfl wk) ?_
  show Fin1 p e below s (rmI1Q Z a1 x t kt r0 h0 n0) ({ frames := 1, cells := 0, slots := 0, locals := 18 } : Room).cells ({ frames := 1, cells := 0, slots := 0, locals := 18 } : Room).slots (T4.setTop (mkF m 22 #[.val (.ref a1), .val (.int (1 : Int32)), .val (.ref x)] [(.int (1 : Int32)), (.int (1 : Int32)), (.int ((1 : Int32) + (1 : Int32))), (.ref t), (.int (1 : Int32)), (.ref t)]))
  refine own_st (fun wt wk => XS.isub X4.here hx rfl (hb hby d5_22) rfl wk) ?_
  show Fin1 p e below s (rmI1Q Z a1 x t kt r0 h0 n0) ({ frames := 1, cells := 0, slots := 0, locals := 18 } : Room).cells ({ frames := 1, cells := 0, slots := 0, locals := 18 } : Room).slots (T4.setTop (mkF m 23 #[.val (.ref a1), .val (.int (1 : Int32)), .val (.ref x)] [(.int ((1 : Int32) - (1 : Int32))), (.int ((1 : Int32) + (1 : Int32))), (.ref t), (.int (1 : Int32)), (.ref t)]))
  obtain ⟨T5, h5, L5, X5, e5, N5, K5, U5, st5⟩ := cpA X4 hx hZ hown (hw _ (List.mem_of_getElem? (i := 37) rfl)) (hw _ (List.mem_of_getElem? (i := 40) rfl)) (hw _ (List.mem_of_getElem? (i := 38) rfl)) (hw _ (List.mem_of_getElem? (i := 39) rfl)) e4 V_t V_t (us := []) (Or.inr ⟨rfl, rfl, trivial⟩) (by decide) (by decide) (by decide) (by decide) (by decide) rfl (Nat.le_of_ble_eq_true rfl) N1 g_t (g := (mkF m 23 #[.val (.ref a1), .val (.int (1 : Int32)), .val (.ref x)] [(.int ((1 : Int32) - (1 : Int32))), (.int ((1 : Int32) + (1 : Int32))), (.ref t), (.int (1 : Int32)), (.ref t)])) rfl (by rw [hml]; rfl) rfl (hb hby d5_23) (by decide) (W := 0) (by show 2 * 0 + _ ≤ _; exact Nat.le_of_eq rfl) (by first | decide | (simp [nativeFrameWords]; done) | decide +kernel)
  have Z0 := Nat.le_trans Z0 K5.1
  have K0 := K0.trans K5 (allS (P := fun x => x ∈ [a1, t] ∨ h0.size ≤ x) (Or.inl (List.mem_of_getElem? (i := 1) rfl)) all0)
  have E_a1 := E_a1.keep K5
  have Fe := Fe.keep K5 (ninS ne_a1_t nin0)
  have Fs := Fs.keep K5 (ninS ne_a1_t nin0)
  have E_x := E_x.keep K5
  have V_t : Arv Z h5 t kt (.object "java/lang/Object") (10 : Int32) [(.ref r0), .null, .null, .null, .null, .null, .null, .null, .null, .null] .null := U5
  refine own_st st5 ?_
  show Fin1 p e below s (rmI1Q Z a1 x t kt r0 h0 n0) ({ frames := 1, cells := 0, slots := 0, locals := 18 } : Room).cells ({ frames := 1, cells := 0, slots := 0, locals := 18 } : Room).slots (T5.setTop (mkF m 26 #[.val (.ref a1), .val (.int (1 : Int32)), .val (.ref x)] []))
  refine own_st (fun wt wk => XS.aloadN X5.here hx rfl (hb hby d5_26) rfl rfl wk) ?_
  show Fin1 p e below s (rmI1Q Z a1 x t kt r0 h0 n0) ({ frames := 1, cells := 0, slots := 0, locals := 18 } : Room).cells ({ frames := 1, cells := 0, slots := 0, locals := 18 } : Room).slots (T5.setTop (mkF m 27 #[.val (.ref a1), .val (.int (1 : Int32)), .val (.ref x)] [(.ref a1)]))
  obtain ⟨T6, X6, e6, st6⟩ := getF X5 hx hZ hown (host := "") (Or.inl (hw _ (List.mem_of_getElem? (i := 24) rfl))) Via.refl e5 Fe (g := (mkF m 27 #[.val (.ref a1), .val (.int (1 : Int32)), .val (.ref x)] [(.ref a1)])) rfl rfl (hb hby d5_27)
  refine own_st st6 ?_
  show Fin1 p e below s (rmI1Q Z a1 x t kt r0 h0 n0) ({ frames := 1, cells := 0, slots := 0, locals := 18 } : Room).cells ({ frames := 1, cells := 0, slots := 0, locals := 18 } : Room).slots (T6.setTop (mkF m 30 #[.val (.ref a1), .val (.int (1 : Int32)), .val (.ref x)] [(.ref t)]))
  refine own_st (fun wt wk => XS.iloadN X6.here hx rfl (hb hby d5_30) rfl wk) ?_
  show Fin1 p e below s (rmI1Q Z a1 x t kt r0 h0 n0) ({ frames := 1, cells := 0, slots := 0, locals := 18 } : Room).cells ({ frames := 1, cells := 0, slots := 0, locals := 18 } : Room).slots (T6.setTop (mkF m 31 #[.val (.ref a1), .val (.int (1 : Int32)), .val (.ref x)] [(.int (1 : Int32)), (.ref t)]))
  refine own_st (fun wt wk => XS.aloadN X6.here hx rfl (hb hby d5_31) rfl rfl wk) ?_
  show Fin1 p e below s (rmI1Q Z a1 x t kt r0 h0 n0) ({ frames := 1, cells := 0, slots := 0, locals := 18 } : Room).cells ({ frames := 1, cells := 0, slots := 0, locals := 18 } : Room).slots (T6.setTop (mkF m 32 #[.val (.ref a1), .val (.int (1 : Int32)), .val (.ref x)] [(.ref x), (.int (1 : Int32)), (.ref t)]))
  obtain ⟨T7, h7, X7, e7, W7, U7, st7⟩ := own_stR (j := (1 : Int32)) X6 hx hZ e6 V_t (C := "java/lang/Object") rfl rfl (Or.inr ⟨x, rfl, hov, Ins.of_exa E_x (hw _ (List.mem_of_getElem? (i := 41) rfl))⟩) ⟨by decide, by decide⟩ 1 rfl (by simp) (g := (mkF m 32 #[.val (.ref a1), .val (.int (1 : Int32)), .val (.ref x)] [(.ref x), (.int (1 : Int32)), (.ref t)])) rfl rfl (hb hby d5_32)
  have N7 := Fr.snoc X7 N5 g_t
  have Z0 := Nat.le_trans Z0 (Nat.le_of_eq W7.size.symm)
  have K0 := K0.wr W7 (Or.inl (List.mem_of_getElem? (i := 1) rfl))
  have E_a1 := E_a1.wr W7
  have Fe := Fe.other W7 (Or.inl ne_a1_t)
  have Fs := Fs.other W7 (Or.inl ne_a1_t)
  have E_x := E_x.wr W7
  have V_t : Arv Z h7 t kt (.object "java/lang/Object") (10 : Int32) [(.ref r0), (.ref x), .null, .null, .null, .null, .null, .null, .null, .null] .null := U7
  refine own_st st7 ?_
  show Fin1 p e below s (rmI1Q Z a1 x t kt r0 h0 n0) ({ frames := 1, cells := 0, slots := 0, locals := 18 } : Room).cells ({ frames := 1, cells := 0, slots := 0, locals := 18 } : Room).slots (T7.setTop (mkF m 33 #[.val (.ref a1), .val (.int (1 : Int32)), .val (.ref x)] []))
  refine own_st (fun wt wk => XS.aloadN X7.here hx rfl (hb hby d5_33) rfl rfl wk) ?_
  show Fin1 p e below s (rmI1Q Z a1 x t kt r0 h0 n0) ({ frames := 1, cells := 0, slots := 0, locals := 18 } : Room).cells ({ frames := 1, cells := 0, slots := 0, locals := 18 } : Room).slots (T7.setTop (mkF m 34 #[.val (.ref a1), .val (.int (1 : Int32)), .val (.ref x)] [(.ref a1)]))
  refine own_st (fun wt wk => XS.dup X7.here hx rfl (hb hby d5_34) rfl rfl wk) ?_
  show Fin1 p e below s (rmI1Q Z a1 x t kt r0 h0 n0) ({ frames := 1, cells := 0, slots := 0, locals := 18 } : Room).cells ({ frames := 1, cells := 0, slots := 0, locals := 18 } : Room).slots (T7.setTop (mkF m 35 #[.val (.ref a1), .val (.int (1 : Int32)), .val (.ref x)] [(.ref a1), (.ref a1)]))
  obtain ⟨T8, X8, e8, st8⟩ := getF X7 hx hZ hown (host := "") (Or.inl (hw _ (List.mem_of_getElem? (i := 35) rfl))) Via.refl e7 Fs (g := (mkF m 35 #[.val (.ref a1), .val (.int (1 : Int32)), .val (.ref x)] [(.ref a1), (.ref a1)])) rfl rfl (hb hby d5_35)
  refine own_st st8 ?_
  show Fin1 p e below s (rmI1Q Z a1 x t kt r0 h0 n0) ({ frames := 1, cells := 0, slots := 0, locals := 18 } : Room).cells ({ frames := 1, cells := 0, slots := 0, locals := 18 } : Room).slots (T8.setTop (mkF m 38 #[.val (.ref a1), .val (.int (1 : Int32)), .val (.ref x)] [(.int (1 : Int32)), (.ref a1)]))
  refine own_st (fun wt wk => XS.iconst X8.here hx rfl (hb hby d5_38) wk) ?_
  show Fin1 p e below s (rmI1Q Z a1 x t kt r0 h0 n0) ({ frames := 1, cells := 0, slots := 0, locals := 18 } : Room).cells ({ frames := 1, cells := 0, slots := 0, locals := 18 } : Room).slots (T8.setTop (mkF m 39 #[.val (.ref a1), .val (.int (1 : Int32)), .val (.ref x)] [(.int (1 : Int32)), (.int (1 : Int32)), (.ref a1)]))
  refine own_st (fun wt wk => XS.iadd X8.here hx rfl (hb hby d5_39) rfl wk) ?_
  show Fin1 p e below s (rmI1Q Z a1 x t kt r0 h0 n0) ({ frames := 1, cells := 0, slots := 0, locals := 18 } : Room).cells ({ frames := 1, cells := 0, slots := 0, locals := 18 } : Room).slots (T8.setTop (mkF m 40 #[.val (.ref a1), .val (.int (1 : Int32)), .val (.ref x)] [(.int ((1 : Int32) + (1 : Int32))), (.ref a1)]))
  obtain ⟨T9, h9, X9, e9, W9, st9⟩ := putF X8 hx hZ hown (host := "") (Or.inl (hw _ (List.mem_of_getElem? (i := 35) rfl))) Via.refl e8 Fs E_a1 (Or.inl (hw _ (List.mem_of_getElem? (i := 36) rfl))) (hw _ (List.mem_of_getElem? (i := 9) rfl)) (ty := .int) (by decide) rfl rfl (g := (mkF m 40 #[.val (.ref a1), .val (.int (1 : Int32)), .val (.ref x)] [(.int ((1 : Int32) + (1 : Int32))), (.ref a1)])) rfl rfl (hb hby d5_40)
  refine own_st st9 ?_
  have N9 := Fr.snoc X9 N7 g_a1
  have Z0 := Nat.le_trans Z0 (Nat.le_of_eq W9.size.symm)
  have K0 := K0.wr W9 (Or.inl (List.mem_of_getElem? (i := 0) rfl))
  have E_a1 := E_a1.wr W9
  have Fe := Fe.other W9 (Or.inr (slot_ne (Or.inl (hw _ (List.mem_of_getElem? (i := 25) rfl))) (Or.inl (hw _ (List.mem_of_getElem? (i := 36) rfl))) (by decide) (t := (.array (.object "java/lang/Object"))) (t' := .int) (by decide) (by decide)))
  have Fs := Fs.same W9
  have V_t := V_t.other W9 (Ne.symm ne_a1_t)
  have E_x := E_x.wr W9
  show Fin1 p e below s (rmI1Q Z a1 x t kt r0 h0 n0) ({ frames := 1, cells := 0, slots := 0, locals := 18 } : Room).cells ({ frames := 1, cells := 0, slots := 0, locals := 18 } : Room).slots (T9.setTop (mkF m 43 #[.val (.ref a1), .val (.int (1 : Int32)), .val (.ref x)] []))
  exact own_retV X9 hx hlk hret (hb hby d5_43) (by rw [e9]; exact ⟨rfl, N9, K0, Fe, Fs, V_t⟩) (by decide) (by decide)
def rmI2Q (Z : State) (a1 : Addr) (x : Addr) (t : Addr) (kt : ClassId) (r0 : Addr) (r1 : Addr) (h0 : Heap) (n0 : Nat) (v : Option Value) (h : Heap) (L : List Loc) : Prop := v = none ∧ Fr n0 L ∧ Keep h0 h [a1, t] ∧ Fld Z h a1 "com/example/listwright/listwright/ArrayStorage" "elements" "[Ljava/lang/Object;" (.ref t) ∧ Fld Z h a1 "com/example/listwright/listwright/ArrayStorage" "size" "I" (.int (3 : Int32)) ∧ Arv Z h t kt (.object "java/lang/Object") (10 : Int32) [(.ref r0), (.ref r1), (.ref x), .null, .null, .null, .null, .null, .null, .null] .null
set_option maxRecDepth 65536 in
set_option maxHeartbeats 40000000 in
theorem rmI2 (l : Launch) (Z : State) (a0 : Array Value) (hw : ∀ d ∈ tables_1, d.before a0 Z = true) (a1 : Addr) (x : Addr) (t : Addr) (kt : ClassId) (r0 : Addr) (r1 : Addr) (h0 : Heap) (n0 : Nat) (Z0 : n0 ≤ h0.size) (g_a1 : n0 ≤ a1) (g_t : n0 ≤ t) (E_a1 : Exa Z h0 a1 "com/example/listwright/listwright/ArrayStorage") (E_x : Exa Z h0 x "java/lang/Integer") (Fe : Fld Z h0 a1 "com/example/listwright/listwright/ArrayStorage" "elements" "[Ljava/lang/Object;" (.ref t)) (Fs : Fld Z h0 a1 "com/example/listwright/listwright/ArrayStorage" "size" "I" (.int (2 : Int32))) (V_t : Arv Z h0 t kt (.object "java/lang/Object") (10 : Int32) [(.ref r0), (.ref r1), .null, .null, .null, .null, .null, .null, .null, .null] .null) (hov : Ovr Z kt "java/lang/Object") (ne_a1_t : a1 ≠ t) :
    Ct l Z [] (⟨"com/example/listwright/listwright/ArrayStorage", "insert", "(ILjava/lang/Object;)V"⟩ : MethodName) prog_12_method_6_code 3 none ({ frames := 1, cells := 0, slots := 0, locals := 18 } : Room) #[(.ref a1), (.int (2 : Int32)), (.ref x)] h0 (rmI2Q Z a1 x t kt r0 r1 h0 n0) := by
  refine own_enter (plainFor_of_name pn_5) ?_
  intro p e s m below meth c T0 X0 hx hby hml hZ hown hnm hret hlk e0
  have hown : s.vm.findClass "com/example/listwright/listwright/ArrayStorage" = some m.cls := hown
  have N0 := Fr.nil n0
  have K0 := Keep.refl h0 [a1, t]
  refine own_st (fun wt wk => castTop (g' := mkF m 0 #[.val (.ref a1), .val (.int (2 : Int32)), .val (.ref x)] []) (by first | (simp [entryFrame, mkF, argsToLocals, Value.category]; done) | rfl) wk) ?_
  show Fin1 p e below s (rmI2Q Z a1 x t kt r0 r1 h0 n0) ({ frames := 1, cells := 0, slots := 0, locals := 18 } : Room).cells ({ frames := 1, cells := 0, slots := 0, locals := 18 } : Room).slots (T0.setTop (mkF m 0 #[.val (.ref a1), .val (.int (2 : Int32)), .val (.ref x)] []))
  refine own_st (fun wt wk => XS.aloadN X0.here hx rfl (hb hby d5_0) rfl rfl wk) ?_
  show Fin1 p e below s (rmI2Q Z a1 x t kt r0 r1 h0 n0) ({ frames := 1, cells := 0, slots := 0, locals := 18 } : Room).cells ({ frames := 1, cells := 0, slots := 0, locals := 18 } : Room).slots (T0.setTop (mkF m 1 #[.val (.ref a1), .val (.int (2 : Int32)), .val (.ref x)] [(.ref a1)]))
  refine own_st (fun wt wk => XS.iconst X0.here hx rfl (hb hby d5_1) wk) ?_
  show Fin1 p e below s (rmI2Q Z a1 x t kt r0 r1 h0 n0) ({ frames := 1, cells := 0, slots := 0, locals := 18 } : Room).cells ({ frames := 1, cells := 0, slots := 0, locals := 18 } : Room).slots (T0.setTop (mkF m 2 #[.val (.ref a1), .val (.int (2 : Int32)), .val (.ref x)] [(.int (1 : Int32)), (.ref a1)]))
  obtain ⟨v1, T1, h1, L1, X1, e1, hQ1, st1⟩ := own_private X0 hx hZ hown (hw _ (List.mem_of_getElem? (i := 31) rfl)) (hw _ (List.mem_of_getElem? (i := 32) rfl)) (hw _ (List.mem_of_getElem? (i := 9) rfl)) (hw _ (List.mem_of_getElem? (i := 33) rfl)) (hw _ (List.mem_of_getElem? (i := 34) rfl)) (hw _ (List.mem_of_getElem? (i := 10) rfl)) (by decide) (a := a1) E_a1 (rmM l Z a0 hw a1 t kt (2 : Int32) [(.ref r0), (.ref r1), .null, .null, .null, .null, .null, .null, .null, .null] h0 n0 Z0 Fe Fs V_t (by decide)) e0 (g := (mkF m 2 #[.val (.ref a1), .val (.int (2 : Int32)), .val (.ref x)] [(.int (1 : Int32)), (.ref a1)])) rfl (by rw [hml]; rfl) (argsL := [(.int (1 : Int32))]) (rest := []) (lenOf pd_3 rfl) rfl (W := 0) (by show 2 * 0 + _ ≤ _; exact Nat.le_of_eq rfl) (hb hby d5_2) (by decide) (by decide) (by decide) (by decide)
  obtain ⟨rfl, N1q, hh1⟩ := hQ1
  have N1 := Fr.app N0 N1q
  rw [hh1] at e1
  refine own_st st1 ?_
  show Fin1 p e below s (rmI2Q Z a1 x t kt r0 r1 h0 n0) ({ frames := 1, cells := 0, slots := 0, locals := 18 } : Room).cells ({ frames := 1, cells := 0, slots := 0, locals := 18 } : Room).slots (T1.setTop (mkF m 5 #[.val (.ref a1), .val (.int (2 : Int32)), .val (.ref x)] []))
  refine own_st (fun wt wk => XS.aloadN X1.here hx rfl (hb hby d5_5) rfl rfl wk) ?_
  show Fin1 p e below s (rmI2Q Z a1 x t kt r0 r1 h0 n0) ({ frames := 1, cells := 0, slots := 0, locals := 18 } : Room).cells ({ frames := 1, cells := 0, slots := 0, locals := 18 } : Room).slots (T1.setTop (mkF m 6 #[.val (.ref a1), .val (.int (2 : Int32)), .val (.ref x)] [(.ref a1)]))
  obtain ⟨T2, X2, e2, st2⟩ := getF X1 hx hZ hown (host := "") (Or.inl (hw _ (List.mem_of_getElem? (i := 24) rfl))) Via.refl e1 Fe (g := (mkF m 6 #[.val (.ref a1), .val (.int (2 : Int32)), .val (.ref x)] [(.ref a1)])) rfl rfl (hb hby d5_6)
  refine own_st st2 ?_
  show Fin1 p e below s (rmI2Q Z a1 x t kt r0 r1 h0 n0) ({ frames := 1, cells := 0, slots := 0, locals := 18 } : Room).cells ({ frames := 1, cells := 0, slots := 0, locals := 18 } : Room).slots (T2.setTop (mkF m 9 #[.val (.ref a1), .val (.int (2 : Int32)), .val (.ref x)] [(.ref t)]))
  refine own_st (fun wt wk => XS.iloadN X2.here hx rfl (hb hby d5_9) rfl wk) ?_
  show Fin1 p e below s (rmI2Q Z a1 x t kt r0 r1 h0 n0) ({ frames := 1, cells := 0, slots := 0, locals := 18 } : Room).cells ({ frames := 1, cells := 0, slots := 0, locals := 18 } : Room).slots (T2.setTop (mkF m 10 #[.val (.ref a1), .val (.int (2 : Int32)), .val (.ref x)] [(.int (2 : Int32)), (.ref t)]))
  refine own_st (fun wt wk => XS.aloadN X2.here hx rfl (hb hby d5_10) rfl rfl wk) ?_
  show Fin1 p e below s (rmI2Q Z a1 x t kt r0 r1 h0 n0) ({ frames := 1, cells := 0, slots := 0, locals := 18 } : Room).cells ({ frames := 1, cells := 0, slots := 0, locals := 18 } : Room).slots (T2.setTop (mkF m 11 #[.val (.ref a1), .val (.int (2 : Int32)), .val (.ref x)] [(.ref a1), (.int (2 : Int32)), (.ref t)]))
  obtain ⟨T3, X3, e3, st3⟩ := getF X2 hx hZ hown (host := "") (Or.inl (hw _ (List.mem_of_getElem? (i := 24) rfl))) Via.refl e2 Fe (g := (mkF m 11 #[.val (.ref a1), .val (.int (2 : Int32)), .val (.ref x)] [(.ref a1), (.int (2 : Int32)), (.ref t)])) rfl rfl (hb hby d5_11)
  refine own_st st3 ?_
  show Fin1 p e below s (rmI2Q Z a1 x t kt r0 r1 h0 n0) ({ frames := 1, cells := 0, slots := 0, locals := 18 } : Room).cells ({ frames := 1, cells := 0, slots := 0, locals := 18 } : Room).slots (T3.setTop (mkF m 14 #[.val (.ref a1), .val (.int (2 : Int32)), .val (.ref x)] [(.ref t), (.int (2 : Int32)), (.ref t)]))
  refine own_st (fun wt wk => XS.iloadN X3.here hx rfl (hb hby d5_14) rfl wk) ?_
  show Fin1 p e below s (rmI2Q Z a1 x t kt r0 r1 h0 n0) ({ frames := 1, cells := 0, slots := 0, locals := 18 } : Room).cells ({ frames := 1, cells := 0, slots := 0, locals := 18 } : Room).slots (T3.setTop (mkF m 15 #[.val (.ref a1), .val (.int (2 : Int32)), .val (.ref x)] [(.int (2 : Int32)), (.ref t), (.int (2 : Int32)), (.ref t)]))
  refine own_st (fun wt wk => XS.iconst X3.here hx rfl (hb hby d5_15) wk) ?_
  show Fin1 p e below s (rmI2Q Z a1 x t kt r0 r1 h0 n0) ({ frames := 1, cells := 0, slots := 0, locals := 18 } : Room).cells ({ frames := 1, cells := 0, slots := 0, locals := 18 } : Room).slots (T3.setTop (mkF m 16 #[.val (.ref a1), .val (.int (2 : Int32)), .val (.ref x)] [(.int (1 : Int32)), (.int (2 : Int32)), (.ref t), (.int (2 : Int32)), (.ref t)]))
  refine own_st (fun wt wk => XS.iadd X3.here hx rfl (hb hby d5_16) rfl wk) ?_
  show Fin1 p e below s (rmI2Q Z a1 x t kt r0 r1 h0 n0) ({ frames := 1, cells := 0, slots := 0, locals := 18 } : Room).cells ({ frames := 1, cells := 0, slots := 0, locals := 18 } : Room).slots (T3.setTop (mkF m 17 #[.val (.ref a1), .val (.int (2 : Int32)), .val (.ref x)] [(.int ((2 : Int32) + (1 : Int32))), (.ref t), (.int (2 : Int32)), (.ref t)]))
  refine own_st (fun wt wk => XS.aloadN X3.here hx rfl (hb hby d5_17) rfl rfl wk) ?_
  show Fin1 p e below s (rmI2Q Z a1 x t kt r0 r1 h0 n0) ({ frames := 1, cells := 0, slots := 0, locals := 18 } : Room).cells ({ frames := 1, cells := 0, slots := 0, locals := 18 } : Room).slots (T3.setTop (mkF m 18 #[.val (.ref a1), .val (.int (2 : Int32)), .val (.ref x)] [(.ref a1), (.int ((2 : Int32) + (1 : Int32))), (.ref t), (.int (2 : Int32)), (.ref t)]))
  obtain ⟨T4, X4, e4, st4⟩ := getF X3 hx hZ hown (host := "") (Or.inl (hw _ (List.mem_of_getElem? (i := 35) rfl))) Via.refl e3 Fs (g := (mkF m 18 #[.val (.ref a1), .val (.int (2 : Int32)), .val (.ref x)] [(.ref a1), (.int ((2 : Int32) + (1 : Int32))), (.ref t), (.int (2 : Int32)), (.ref t)])) rfl rfl (hb hby d5_18)
  refine own_st st4 ?_
  show Fin1 p e below s (rmI2Q Z a1 x t kt r0 r1 h0 n0) ({ frames := 1, cells := 0, slots := 0, locals := 18 } : Room).cells ({ frames := 1, cells := 0, slots := 0, locals := 18 } : Room).slots (T4.setTop (mkF m 21 #[.val (.ref a1), .val (.int (2 : Int32)), .val (.ref x)] [(.int (2 : Int32)), (.int ((2 : Int32) + (1 : Int32))), (.ref t), (.int (2 : Int32)), (.ref t)]))
  refine own_st (fun wt wk => XS.iloadN X4.here hx rfl (hb hby d5_21) rfl wk) ?_
  show Fin1 p e below s (rmI2Q Z a1 x t kt r0 r1 h0 n0) ({ frames := 1, cells := 0, slots := 0, locals := 18 } : Room).cells ({ frames := 1, cells := 0, slots := 0, locals := 18 } : Room).slots (T4.setTop (mkF m 22 #[.val (.ref a1), .val (.int (2 : Int32)), .val (.ref x)] [(.int (2 : Int32)), (.int (2 : Int32)), (.int ((2 : Int32) + (1 : Int32))), (.ref t), (.int (2 : Int32)), (.ref t)]))
  refine own_st (fun wt wk => XS.isub X4.here hx rfl (hb hby d5_22) rfl wk) ?_
  show Fin1 p e below s (rmI2Q Z a1 x t kt r0 r1 h0 n0) ({ frames := 1, cells := 0, slots := 0, locals := 18 } : Room).cells ({ frames := 1, cells := 0, slots := 0, locals := 18 } : Room).slots (T4.setTop (mkF m 23 #[.val (.ref a1), .val (.int (2 : Int32)), .val (.ref x)] [(.int ((2 : Int32) - (2 : Int32))), (.int ((2 : Int32) + (1 : Int32))), (.ref t), (.int (2 : Int32)), (.ref t)]))
  obtain ⟨T5, h5, L5, X5, e5, N5, K5, U5, st5⟩ := cpA X4 hx hZ hown (hw _ (List.mem_of_getElem? (i := 37) rfl)) (hw _ (List.mem_of_getElem? (i := 40) rfl)) (hw _ (List.mem_of_getElem? (i := 38) rfl)) (hw _ (List.mem_of_getElem? (i := 39) rfl)) e4 V_t V_t (us := []) (Or.inr ⟨rfl, rfl, trivial⟩) (by decide) (by decide) (by decide) (by decide) (by decide) rfl (Nat.le_of_ble_eq_true rfl) N1 g_t (g := (mkF m 23 #[.val (.ref a1), .val (.int (2 : Int32)), .val (.ref x)] [(.int ((2 : Int32) - (2 : Int32))), (.int ((2 : Int32) + (1 : Int32))), (.ref t), (.int (2 : Int32)), (.ref t)])) rfl (by rw [hml]; rfl) rfl (hb hby d5_23) (by decide) (W := 0) (by show 2 * 0 + _ ≤ _; exact Nat.le_of_eq rfl) (by first | decide | (simp [nativeFrameWords]; done) | decide +kernel)
  have Z0 := Nat.le_trans Z0 K5.1
  have K0 := K0.trans K5 (allS (P := fun x => x ∈ [a1, t] ∨ h0.size ≤ x) (Or.inl (List.mem_of_getElem? (i := 1) rfl)) all0)
  have E_a1 := E_a1.keep K5
  have Fe := Fe.keep K5 (ninS ne_a1_t nin0)
  have Fs := Fs.keep K5 (ninS ne_a1_t nin0)
  have E_x := E_x.keep K5
  have V_t : Arv Z h5 t kt (.object "java/lang/Object") (10 : Int32) [(.ref r0), (.ref r1), .null, .null, .null, .null, .null, .null, .null, .null] .null := U5
  refine own_st st5 ?_
  show Fin1 p e below s (rmI2Q Z a1 x t kt r0 r1 h0 n0) ({ frames := 1, cells := 0, slots := 0, locals := 18 } : Room).cells ({ frames := 1, cells := 0, slots := 0, locals := 18 } : Room).slots (T5.setTop (mkF m 26 #[.val (.ref a1), .val (.int (2 : Int32)), .val (.ref x)] []))
  refine own_st (fun wt wk => XS.aloadN X5.here hx rfl (hb hby d5_26) rfl rfl wk) ?_
  show Fin1 p e below s (rmI2Q Z a1 x t kt r0 r1 h0 n0) ({ frames := 1, cells := 0, slots := 0, locals := 18 } : Room).cells ({ frames := 1, cells := 0, slots := 0, locals := 18 } : Room).slots (T5.setTop (mkF m 27 #[.val (.ref a1), .val (.int (2 : Int32)), .val (.ref x)] [(.ref a1)]))
  obtain ⟨T6, X6, e6, st6⟩ := getF X5 hx hZ hown (host := "") (Or.inl (hw _ (List.mem_of_getElem? (i := 24) rfl))) Via.refl e5 Fe (g := (mkF m 27 #[.val (.ref a1), .val (.int (2 : Int32)), .val (.ref x)] [(.ref a1)])) rfl rfl (hb hby d5_27)
  refine own_st st6 ?_
  show Fin1 p e below s (rmI2Q Z a1 x t kt r0 r1 h0 n0) ({ frames := 1, cells := 0, slots := 0, locals := 18 } : Room).cells ({ frames := 1, cells := 0, slots := 0, locals := 18 } : Room).slots (T6.setTop (mkF m 30 #[.val (.ref a1), .val (.int (2 : Int32)), .val (.ref x)] [(.ref t)]))
  refine own_st (fun wt wk => XS.iloadN X6.here hx rfl (hb hby d5_30) rfl wk) ?_
  show Fin1 p e below s (rmI2Q Z a1 x t kt r0 r1 h0 n0) ({ frames := 1, cells := 0, slots := 0, locals := 18 } : Room).cells ({ frames := 1, cells := 0, slots := 0, locals := 18 } : Room).slots (T6.setTop (mkF m 31 #[.val (.ref a1), .val (.int (2 : Int32)), .val (.ref x)] [(.int (2 : Int32)), (.ref t)]))
  refine own_st (fun wt wk => XS.aloadN X6.here hx rfl (hb hby d5_31) rfl rfl wk) ?_
  show Fin1 p e below s (rmI2Q Z a1 x t kt r0 r1 h0 n0) ({ frames := 1, cells := 0, slots := 0, locals := 18 } : Room).cells ({ frames := 1, cells := 0, slots := 0, locals := 18 } : Room).slots (T6.setTop (mkF m 32 #[.val (.ref a1), .val (.int (2 : Int32)), .val (.ref x)] [(.ref x), (.int (2 : Int32)), (.ref t)]))
  obtain ⟨T7, h7, X7, e7, W7, U7, st7⟩ := own_stR (j := (2 : Int32)) X6 hx hZ e6 V_t (C := "java/lang/Object") rfl rfl (Or.inr ⟨x, rfl, hov, Ins.of_exa E_x (hw _ (List.mem_of_getElem? (i := 41) rfl))⟩) ⟨by decide, by decide⟩ 2 rfl (by simp) (g := (mkF m 32 #[.val (.ref a1), .val (.int (2 : Int32)), .val (.ref x)] [(.ref x), (.int (2 : Int32)), (.ref t)])) rfl rfl (hb hby d5_32)
  have N7 := Fr.snoc X7 N5 g_t
  have Z0 := Nat.le_trans Z0 (Nat.le_of_eq W7.size.symm)
  have K0 := K0.wr W7 (Or.inl (List.mem_of_getElem? (i := 1) rfl))
  have E_a1 := E_a1.wr W7
  have Fe := Fe.other W7 (Or.inl ne_a1_t)
  have Fs := Fs.other W7 (Or.inl ne_a1_t)
  have E_x := E_x.wr W7
  have V_t : Arv Z h7 t kt (.object "java/lang/Object") (10 : Int32) [(.ref r0), (.ref r1), (.ref x), .null, .null, .null, .null, .null, .null, .null] .null := U7
  refine own_st st7 ?_
  show Fin1 p e below s (rmI2Q Z a1 x t kt r0 r1 h0 n0) ({ frames := 1, cells := 0, slots := 0, locals := 18 } : Room).cells ({ frames := 1, cells := 0, slots := 0, locals := 18 } : Room).slots (T7.setTop (mkF m 33 #[.val (.ref a1), .val (.int (2 : Int32)), .val (.ref x)] []))
  refine own_st (fun wt wk => XS.aloadN X7.here hx rfl (hb hby d5_33) rfl rfl wk) ?_
  show Fin1 p e below s (rmI2Q Z a1 x t kt r0 r1 h0 n0) ({ frames := 1, cells := 0, slots := 0, locals := 18 } : Room).cells ({ frames := 1, cells := 0, slots := 0, locals := 18 } : Room).slots (T7.setTop (mkF m 34 #[.val (.ref a1), .val (.int (2 : Int32)), .val (.ref x)] [(.ref a1)]))
  refine own_st (fun wt wk => XS.dup X7.here hx rfl (hb hby d5_34) rfl rfl wk) ?_
  show Fin1 p e below s (rmI2Q Z a1 x t kt r0 r1 h0 n0) ({ frames := 1, cells := 0, slots := 0, locals := 18 } : Room).cells ({ frames := 1, cells := 0, slots := 0, locals := 18 } : Room).slots (T7.setTop (mkF m 35 #[.val (.ref a1), .val (.int (2 : Int32)), .val (.ref x)] [(.ref a1), (.ref a1)]))
  obtain ⟨T8, X8, e8, st8⟩ := getF X7 hx hZ hown (host := "") (Or.inl (hw _ (List.mem_of_getElem? (i := 35) rfl))) Via.refl e7 Fs (g := (mkF m 35 #[.val (.ref a1), .val (.int (2 : Int32)), .val (.ref x)] [(.ref a1), (.ref a1)])) rfl rfl (hb hby d5_35)
  refine own_st st8 ?_
  show Fin1 p e below s (rmI2Q Z a1 x t kt r0 r1 h0 n0) ({ frames := 1, cells := 0, slots := 0, locals := 18 } : Room).cells ({ frames := 1, cells := 0, slots := 0, locals := 18 } : Room).slots (T8.setTop (mkF m 38 #[.val (.ref a1), .val (.int (2 : Int32)), .val (.ref x)] [(.int (2 : Int32)), (.ref a1)]))
  refine own_st (fun wt wk => XS.iconst X8.here hx rfl (hb hby d5_38) wk) ?_
  show Fin1 p e below s (rmI2Q Z a1 x t kt r0 r1 h0 n0) ({ frames := 1, cells := 0, slots := 0, locals := 18 } : Room).cells ({ frames := 1, cells := 0, slots := 0, locals := 18 } : Room).slots (T8.setTop (mkF m 39 #[.val (.ref a1), .val (.int (2 : Int32)), .val (.ref x)] [(.int (1 : Int32)), (.int (2 : Int32)), (.ref a1)]))
  refine own_st (fun wt wk => XS.iadd X8.here hx rfl (hb hby d5_39) rfl wk) ?_
  show Fin1 p e below s (rmI2Q Z a1 x t kt r0 r1 h0 n0) ({ frames := 1, cells := 0, slots := 0, locals := 18 } : Room).cells ({ frames := 1, cells := 0, slots := 0, locals := 18 } : Room).slots (T8.setTop (mkF m 40 #[.val (.ref a1), .val (.int (2 : Int32)), .val (.ref x)] [(.int ((2 : Int32) + (1 : Int32))), (.ref a1)]))
  obtain ⟨T9, h9, X9, e9, W9, st9⟩ := putF X8 hx hZ hown (host := "") (Or.inl (hw _ (List.mem_of_getElem? (i := 35) rfl))) Via.refl e8 Fs E_a1 (Or.inl (hw _ (List.mem_of_getElem? (i := 36) rfl))) (hw _ (List.mem_of_getElem? (i := 9) rfl)) (ty := .int) (by decide) rfl rfl (g := (mkF m 40 #[.val (.ref a1), .val (.int (2 : Int32)), .val (.ref x)] [(.int ((2 : Int32) + (1 : Int32))), (.ref a1)])) rfl rfl (hb hby d5_40)
  refine own_st st9 ?_
  have N9 := Fr.snoc X9 N7 g_a1
  have Z0 := Nat.le_trans Z0 (Nat.le_of_eq W9.size.symm)
  have K0 := K0.wr W9 (Or.inl (List.mem_of_getElem? (i := 0) rfl))
  have E_a1 := E_a1.wr W9
  have Fe := Fe.other W9 (Or.inr (slot_ne (Or.inl (hw _ (List.mem_of_getElem? (i := 25) rfl))) (Or.inl (hw _ (List.mem_of_getElem? (i := 36) rfl))) (by decide) (t := (.array (.object "java/lang/Object"))) (t' := .int) (by decide) (by decide)))
  have Fs := Fs.same W9
  have V_t := V_t.other W9 (Ne.symm ne_a1_t)
  have E_x := E_x.wr W9
  show Fin1 p e below s (rmI2Q Z a1 x t kt r0 r1 h0 n0) ({ frames := 1, cells := 0, slots := 0, locals := 18 } : Room).cells ({ frames := 1, cells := 0, slots := 0, locals := 18 } : Room).slots (T9.setTop (mkF m 43 #[.val (.ref a1), .val (.int (2 : Int32)), .val (.ref x)] []))
  exact own_retV X9 hx hlk hret (hb hby d5_43) (by rw [e9]; exact ⟨rfl, N9, K0, Fe, Fs, V_t⟩) (by decide) (by decide)
theorem d8_0 : decode prog_12_method_3_code 0 = .ok (.aload_n 0, 1) := by decide +kernel
theorem d8_1 : decode prog_12_method_3_code 1 = .ok (.getfield 11, 3) := by decide +kernel
theorem d8_4 : decode prog_12_method_3_code 4 = .ok (.iload_n 1, 1) := by decide +kernel
theorem d8_5 : decode prog_12_method_3_code 5 = .ok (.aaload, 1) := by decide +kernel
theorem d8_6 : decode prog_12_method_3_code 6 = .ok (.areturn, 1) := by decide +kernel
def rmGQ (Z : State) (a1 : Addr) (i : Int32) (t : Addr) (kt : ClassId) (vs : List Value) (x : Value) (h0 : Heap) (n0 : Nat) (v : Option Value) (h : Heap) (L : List Loc) : Prop := v = some x ∧ Fr n0 L ∧ h = h0
set_option maxRecDepth 65536 in
set_option maxHeartbeats 40000000 in
theorem rmG (l : Launch) (Z : State) (a0 : Array Value) (hw : ∀ d ∈ tables_1, d.before a0 Z = true) (a1 : Addr) (i : Int32) (t : Addr) (kt : ClassId) (vs : List Value) (x : Value) (h0 : Heap) (n0 : Nat) (Z0 : n0 ≤ h0.size) (Fe : Fld Z h0 a1 "com/example/listwright/listwright/ArrayStorage" "elements" "[Ljava/lang/Object;" (.ref t)) (V_t : Arv Z h0 t kt (.object "java/lang/Object") (10 : Int32) vs .null) (hin : ¬ i < 0 ∧ i < (10 : Int32)) (hv : vs.getD i.toNatClampNeg .null = x) (hx0 : x = .null ∨ ∃ b, x = .ref b) :
    Ct l Z [] (⟨"com/example/listwright/listwright/ArrayStorage", "get", "(I)Ljava/lang/Object;"⟩ : MethodName) prog_12_method_3_code 2 (some (.object "java/lang/Object")) ({ frames := 0, cells := 0, slots := 0, locals := 0 } : Room) #[(.ref a1), (.int i)] h0 (rmGQ Z a1 i t kt vs x h0 n0) := by
  refine own_enter (plainFor_of_name pn_5) ?_
  intro p e s m below meth c T0 X0 hx hby hml hZ hown hnm hret hlk e0
  have hown : s.vm.findClass "com/example/listwright/listwright/ArrayStorage" = some m.cls := hown
  have N0 := Fr.nil n0
  have K0 := Keep.refl h0 []
  refine own_st (fun wt wk => castTop (g' := mkF m 0 #[.val (.ref a1), .val (.int i)] []) (by first | (simp [entryFrame, mkF, argsToLocals, Value.category]; done) | rfl) wk) ?_
  show Fin1 p e below s (rmGQ Z a1 i t kt vs x h0 n0) ({ frames := 0, cells := 0, slots := 0, locals := 0 } : Room).cells ({ frames := 0, cells := 0, slots := 0, locals := 0 } : Room).slots (T0.setTop (mkF m 0 #[.val (.ref a1), .val (.int i)] []))
  refine own_st (fun wt wk => XS.aloadN X0.here hx rfl (hb hby d8_0) rfl rfl wk) ?_
  show Fin1 p e below s (rmGQ Z a1 i t kt vs x h0 n0) ({ frames := 0, cells := 0, slots := 0, locals := 0 } : Room).cells ({ frames := 0, cells := 0, slots := 0, locals := 0 } : Room).slots (T0.setTop (mkF m 1 #[.val (.ref a1), .val (.int i)] [(.ref a1)]))
  obtain ⟨T1, X1, e1, st1⟩ := getF X0 hx hZ hown (host := "") (Or.inl (hw _ (List.mem_of_getElem? (i := 24) rfl))) Via.refl e0 Fe (g := (mkF m 1 #[.val (.ref a1), .val (.int i)] [(.ref a1)])) rfl rfl (hb hby d8_1)
  refine own_st st1 ?_
  show Fin1 p e below s (rmGQ Z a1 i t kt vs x h0 n0) ({ frames := 0, cells := 0, slots := 0, locals := 0 } : Room).cells ({ frames := 0, cells := 0, slots := 0, locals := 0 } : Room).slots (T1.setTop (mkF m 4 #[.val (.ref a1), .val (.int i)] [(.ref t)]))
  refine own_st (fun wt wk => XS.iloadN X1.here hx rfl (hb hby d8_4) rfl wk) ?_
  show Fin1 p e below s (rmGQ Z a1 i t kt vs x h0 n0) ({ frames := 0, cells := 0, slots := 0, locals := 0 } : Room).cells ({ frames := 0, cells := 0, slots := 0, locals := 0 } : Room).slots (T1.setTop (mkF m 5 #[.val (.ref a1), .val (.int i)] [(.int i), (.ref t)]))
  refine own_st (own_ld (j := i) (v := x) X1 hx hZ e1 V_t hin hv (g := (mkF m 5 #[.val (.ref a1), .val (.int i)] [(.int i), (.ref t)])) rfl rfl (Or.inr (Or.inr ⟨rfl, rfl⟩)) (hb hby d8_5)) ?_
  show Fin1 p e below s (rmGQ Z a1 i t kt vs x h0 n0) ({ frames := 0, cells := 0, slots := 0, locals := 0 } : Room).cells ({ frames := 0, cells := 0, slots := 0, locals := 0 } : Room).slots (T1.setTop (mkF m 6 #[.val (.ref a1), .val (.int i)] [x]))
  exact own_retA X1 hx hlk hret rfl (own_ref hx0) (hb hby d8_6) (by rw [e1]; exact ⟨rfl, N0, rfl⟩) (by decide) (by decide)
theorem d7_0 : decode prog_12_method_4_code 0 = .ok (.aload_n 0, 1) := by decide +kernel
theorem d7_1 : decode prog_12_method_4_code 1 = .ok (.iload_n 1, 1) := by decide +kernel
theorem d7_2 : decode prog_12_method_4_code 2 = .ok (.invokevirtual 19, 3) := by decide +kernel
theorem d7_5 : decode prog_12_method_4_code 5 = .ok (.astore_n 3, 1) := by decide +kernel
theorem d7_6 : decode prog_12_method_4_code 6 = .ok (.aload_n 0, 1) := by decide +kernel
theorem d7_7 : decode prog_12_method_4_code 7 = .ok (.getfield 11, 3) := by decide +kernel
theorem d7_10 : decode prog_12_method_4_code 10 = .ok (.iload_n 1, 1) := by decide +kernel
theorem d7_11 : decode prog_12_method_4_code 11 = .ok (.aload_n 2, 1) := by decide +kernel
theorem d7_12 : decode prog_12_method_4_code 12 = .ok (.aastore, 1) := by decide +kernel
theorem d7_13 : decode prog_12_method_4_code 13 = .ok (.aload_n 3, 1) := by decide +kernel
theorem d7_14 : decode prog_12_method_4_code 14 = .ok (.areturn, 1) := by decide +kernel
theorem pd_6 : parseMethodDescriptor "(I)Ljava/lang/Object;" = some ⟨[.int], some (.object "java/lang/Object")⟩ := by decide +kernel
def rmTQ (Z : State) (a1 : Addr) (i : Int32) (x : Addr) (t : Addr) (kt : ClassId) (vs : List Value) (j : Nat) (old : Addr) (h0 : Heap) (n0 : Nat) (v : Option Value) (h : Heap) (L : List Loc) : Prop := v = some (.ref old) ∧ Fr n0 L ∧ Keep h0 h [t] ∧ Arv Z h t kt (.object "java/lang/Object") (10 : Int32) (vs.set j (.ref x)) .null
set_option maxRecDepth 65536 in
set_option maxHeartbeats 40000000 in
theorem rmT (l : Launch) (Z : State) (a0 : Array Value) (hw : ∀ d ∈ tables_1, d.before a0 Z = true) (a1 : Addr) (i : Int32) (x : Addr) (t : Addr) (kt : ClassId) (vs : List Value) (j : Nat) (old : Addr) (h0 : Heap) (n0 : Nat) (Z0 : n0 ≤ h0.size) (g_t : n0 ≤ t) (E_a1 : Exa Z h0 a1 "com/example/listwright/listwright/ArrayStorage") (E_x : Exa Z h0 x "java/lang/Integer") (Fe : Fld Z h0 a1 "com/example/listwright/listwright/ArrayStorage" "elements" "[Ljava/lang/Object;" (.ref t)) (V_t : Arv Z h0 t kt (.object "java/lang/Object") (10 : Int32) vs .null) (hov : Ovr Z kt "java/lang/Object") (ne_a1_t : a1 ≠ t) (hin : ¬ i < 0 ∧ i < (10 : Int32)) (hv : vs.getD i.toNatClampNeg .null = .ref old) (hj : i.toNatClampNeg = j) (hl : j < vs.length) :
    Ct l Z [] (⟨"com/example/listwright/listwright/ArrayStorage", "set", "(ILjava/lang/Object;)Ljava/lang/Object;"⟩ : MethodName) prog_12_method_4_code 4 (some (.object "java/lang/Object")) ({ frames := 1, cells := 0, slots := 0, locals := 13 } : Room) #[(.ref a1), (.int i), (.ref x)] h0 (rmTQ Z a1 i x t kt vs j old h0 n0) := by
  refine own_enter (plainFor_of_name pn_5) ?_
  intro p e s m below meth c T0 X0 hx hby hml hZ hown hnm hret hlk e0
  have hown : s.vm.findClass "com/example/listwright/listwright/ArrayStorage" = some m.cls := hown
  have N0 := Fr.nil n0
  have K0 := Keep.refl h0 [t]
  refine own_st (fun wt wk => castTop (g' := mkF m 0 #[.val (.ref a1), .val (.int i), .val (.ref x), .unset] []) (by first | (simp [entryFrame, mkF, argsToLocals, Value.category]; done) | rfl) wk) ?_
  show Fin1 p e below s (rmTQ Z a1 i x t kt vs j old h0 n0) ({ frames := 1, cells := 0, slots := 0, locals := 13 } : Room).cells ({ frames := 1, cells := 0, slots := 0, locals := 13 } : Room).slots (T0.setTop (mkF m 0 #[.val (.ref a1), .val (.int i), .val (.ref x), .unset] []))
  refine own_st (fun wt wk => XS.aloadN X0.here hx rfl (hb hby d7_0) rfl rfl wk) ?_
  show Fin1 p e below s (rmTQ Z a1 i x t kt vs j old h0 n0) ({ frames := 1, cells := 0, slots := 0, locals := 13 } : Room).cells ({ frames := 1, cells := 0, slots := 0, locals := 13 } : Room).slots (T0.setTop (mkF m 1 #[.val (.ref a1), .val (.int i), .val (.ref x), .unset] [(.ref a1)]))
  refine own_st (fun wt wk => XS.iloadN X0.here hx rfl (hb hby d7_1) rfl wk) ?_
  show Fin1 p e below s (rmTQ Z a1 i x t kt vs j old h0 n0) ({ frames := 1, cells := 0, slots := 0, locals := 13 } : Room).cells ({ frames := 1, cells := 0, slots := 0, locals := 13 } : Room).slots (T0.setTop (mkF m 2 #[.val (.ref a1), .val (.int i), .val (.ref x), .unset] [(.int i), (.ref a1)]))
  obtain ⟨v1, T1, h1, L1, X1, e1, hQ1, st1⟩ := own_virtual X0 hx hZ hown (hw _ (List.mem_of_getElem? (i := 47) rfl)) (hw _ (List.mem_of_getElem? (i := 48) rfl)) (hw _ (List.mem_of_getElem? (i := 50) rfl)) (hw _ (List.mem_of_getElem? (i := 49) rfl)) (hw _ (List.mem_of_getElem? (i := 51) rfl)) (hw _ (List.mem_of_getElem? (i := 10) rfl)) (by decide) (a := a1) E_a1 (rmG l Z a0 hw a1 i t kt vs (.ref old) h0 n0 Z0 Fe V_t hin hv (Or.inr ⟨_, rfl⟩)) e0 (g := (mkF m 2 #[.val (.ref a1), .val (.int i), .val (.ref x), .unset] [(.int i), (.ref a1)])) rfl (by rw [hml]; rfl) (argsL := [(.int i)]) (rest := []) (lenOf pd_6 rfl) rfl (W := 0) (by show 2 * 0 + _ ≤ _; exact Nat.le_of_eq rfl) (hb hby d7_2) (by decide) (by decide) (by decide) (by decide)
  obtain ⟨rfl, N1q, hh1⟩ := hQ1
  have N1 := Fr.app N0 N1q
  rw [hh1] at e1
  refine own_st st1 ?_
  show Fin1 p e below s (rmTQ Z a1 i x t kt vs j old h0 n0) ({ frames := 1, cells := 0, slots := 0, locals := 13 } : Room).cells ({ frames := 1, cells := 0, slots := 0, locals := 13 } : Room).slots (T1.setTop (mkF m 5 #[.val (.ref a1), .val (.int i), .val (.ref x), .unset] [(.ref old)]))
  refine own_st (fun wt wk => XS.astoreN X1.here hx rfl (hb hby d7_5) rfl rfl (l' := #[.val (.ref a1), .val (.int i), .val (.ref x), .val (.ref old)]) rfl wk) ?_
  show Fin1 p e below s (rmTQ Z a1 i x t kt vs j old h0 n0) ({ frames := 1, cells := 0, slots := 0, locals := 13 } : Room).cells ({ frames := 1, cells := 0, slots := 0, locals := 13 } : Room).slots (T1.setTop (mkF m 6 #[.val (.ref a1), .val (.int i), .val (.ref x), .val (.ref old)] []))
  refine own_st (fun wt wk => XS.aloadN X1.here hx rfl (hb hby d7_6) rfl rfl wk) ?_
  show Fin1 p e below s (rmTQ Z a1 i x t kt vs j old h0 n0) ({ frames := 1, cells := 0, slots := 0, locals := 13 } : Room).cells ({ frames := 1, cells := 0, slots := 0, locals := 13 } : Room).slots (T1.setTop (mkF m 7 #[.val (.ref a1), .val (.int i), .val (.ref x), .val (.ref old)] [(.ref a1)]))
  obtain ⟨T2, X2, e2, st2⟩ := getF X1 hx hZ hown (host := "") (Or.inl (hw _ (List.mem_of_getElem? (i := 24) rfl))) Via.refl e1 Fe (g := (mkF m 7 #[.val (.ref a1), .val (.int i), .val (.ref x), .val (.ref old)] [(.ref a1)])) rfl rfl (hb hby d7_7)
  refine own_st st2 ?_
  show Fin1 p e below s (rmTQ Z a1 i x t kt vs j old h0 n0) ({ frames := 1, cells := 0, slots := 0, locals := 13 } : Room).cells ({ frames := 1, cells := 0, slots := 0, locals := 13 } : Room).slots (T2.setTop (mkF m 10 #[.val (.ref a1), .val (.int i), .val (.ref x), .val (.ref old)] [(.ref t)]))
  refine own_st (fun wt wk => XS.iloadN X2.here hx rfl (hb hby d7_10) rfl wk) ?_
  show Fin1 p e below s (rmTQ Z a1 i x t kt vs j old h0 n0) ({ frames := 1, cells := 0, slots := 0, locals := 13 } : Room).cells ({ frames := 1, cells := 0, slots := 0, locals := 13 } : Room).slots (T2.setTop (mkF m 11 #[.val (.ref a1), .val (.int i), .val (.ref x), .val (.ref old)] [(.int i), (.ref t)]))
  refine own_st (fun wt wk => XS.aloadN X2.here hx rfl (hb hby d7_11) rfl rfl wk) ?_
  show Fin1 p e below s (rmTQ Z a1 i x t kt vs j old h0 n0) ({ frames := 1, cells := 0, slots := 0, locals := 13 } : Room).cells ({ frames := 1, cells := 0, slots := 0, locals := 13 } : Room).slots (T2.setTop (mkF m 12 #[.val (.ref a1), .val (.int i), .val (.ref x), .val (.ref old)] [(.ref x), (.int i), (.ref t)]))
  obtain ⟨T3, h3, X3, e3, W3, U3, st3⟩ := own_stR (j := i) (C := "java/lang/Object") X2 hx hZ e2 V_t rfl rfl (Or.inr ⟨x, rfl, hov, Ins.of_exa E_x (hw _ (List.mem_of_getElem? (i := 41) rfl))⟩) hin j hj hl (g := (mkF m 12 #[.val (.ref a1), .val (.int i), .val (.ref x), .val (.ref old)] [(.ref x), (.int i), (.ref t)])) rfl rfl (hb hby d7_12)
  have N3 := Fr.snoc X3 N1 g_t
  have Z0 := Nat.le_trans Z0 (Nat.le_of_eq W3.size.symm)
  have K0 := K0.wr W3 (Or.inl (List.mem_of_getElem? (i := 0) rfl))
  have E_a1 := E_a1.wr W3
  have Fe := Fe.other W3 (Or.inl ne_a1_t)
  have E_x := E_x.wr W3
  have V_t := U3
  refine own_st st3 ?_
  show Fin1 p e below s (rmTQ Z a1 i x t kt vs j old h0 n0) ({ frames := 1, cells := 0, slots := 0, locals := 13 } : Room).cells ({ frames := 1, cells := 0, slots := 0, locals := 13 } : Room).slots (T3.setTop (mkF m 13 #[.val (.ref a1), .val (.int i), .val (.ref x), .val (.ref old)] []))
  refine own_st (fun wt wk => XS.aloadN X3.here hx rfl (hb hby d7_13) rfl rfl wk) ?_
  show Fin1 p e below s (rmTQ Z a1 i x t kt vs j old h0 n0) ({ frames := 1, cells := 0, slots := 0, locals := 13 } : Room).cells ({ frames := 1, cells := 0, slots := 0, locals := 13 } : Room).slots (T3.setTop (mkF m 14 #[.val (.ref a1), .val (.int i), .val (.ref x), .val (.ref old)] [(.ref old)]))
  exact own_retA X3 hx hlk hret rfl rfl (hb hby d7_14) (by rw [e3]; exact ⟨rfl, N3, K0, V_t⟩) (by decide) (by decide)
theorem d9_0 : decode prog_12_method_2_code 0 = .ok (.aload_n 0, 1) := by decide +kernel
theorem d9_1 : decode prog_12_method_2_code 1 = .ok (.getfield 15, 3) := by decide +kernel
theorem d9_4 : decode prog_12_method_2_code 4 = .ok (.ireturn, 1) := by decide +kernel
def rmZQ (Z : State) (a1 : Addr) (z : Int32) (h0 : Heap) (n0 : Nat) (v : Option Value) (h : Heap) (L : List Loc) : Prop := v = some (.int z) ∧ Fr n0 L ∧ h = h0
set_option maxRecDepth 65536 in
set_option maxHeartbeats 40000000 in
theorem rmZ (l : Launch) (Z : State) (a0 : Array Value) (hw : ∀ d ∈ tables_1, d.before a0 Z = true) (a1 : Addr) (z : Int32) (h0 : Heap) (n0 : Nat) (Z0 : n0 ≤ h0.size) (Fs : Fld Z h0 a1 "com/example/listwright/listwright/ArrayStorage" "size" "I" (.int z)) :
    Ct l Z [] (⟨"com/example/listwright/listwright/ArrayStorage", "size", "()I"⟩ : MethodName) prog_12_method_2_code 1 (some .int) ({ frames := 0, cells := 0, slots := 0, locals := 0 } : Room) #[(.ref a1)] h0 (rmZQ Z a1 z h0 n0) := by
  refine own_enter (plainFor_of_name pn_5) ?_
  intro p e s m below meth c T0 X0 hx hby hml hZ hown hnm hret hlk e0
  have hown : s.vm.findClass "com/example/listwright/listwright/ArrayStorage" = some m.cls := hown
  have N0 := Fr.nil n0
  have K0 := Keep.refl h0 []
  refine own_st (fun wt wk => castTop (g' := mkF m 0 #[.val (.ref a1)] []) (by first | (simp [entryFrame, mkF, argsToLocals, Value.category]; done) | rfl) wk) ?_
  show Fin1 p e below s (rmZQ Z a1 z h0 n0) ({ frames := 0, cells := 0, slots := 0, locals := 0 } : Room).cells ({ frames := 0, cells := 0, slots := 0, locals := 0 } : Room).slots (T0.setTop (mkF m 0 #[.val (.ref a1)] []))
  refine own_st (fun wt wk => XS.aloadN X0.here hx rfl (hb hby d9_0) rfl rfl wk) ?_
  show Fin1 p e below s (rmZQ Z a1 z h0 n0) ({ frames := 0, cells := 0, slots := 0, locals := 0 } : Room).cells ({ frames := 0, cells := 0, slots := 0, locals := 0 } : Room).slots (T0.setTop (mkF m 1 #[.val (.ref a1)] [(.ref a1)]))
  obtain ⟨T1, X1, e1, st1⟩ := getF X0 hx hZ hown (host := "") (Or.inl (hw _ (List.mem_of_getElem? (i := 35) rfl))) Via.refl e0 Fs (g := (mkF m 1 #[.val (.ref a1)] [(.ref a1)])) rfl rfl (hb hby d9_1)
  refine own_st st1 ?_
  show Fin1 p e below s (rmZQ Z a1 z h0 n0) ({ frames := 0, cells := 0, slots := 0, locals := 0 } : Room).cells ({ frames := 0, cells := 0, slots := 0, locals := 0 } : Room).slots (T1.setTop (mkF m 4 #[.val (.ref a1)] [(.int z)]))
  exact own_retI X1 hx hlk hret (hb hby d9_4) (by rw [e1]; exact ⟨rfl, N0, rfl⟩) (by decide) (by decide)
theorem d10_0 : decode method_2_code 0 = .ok (.iload_n 0, 1) := by decide +kernel
theorem d10_1 : decode method_2_code 1 = .ok (.iload_n 1, 1) := by decide +kernel
theorem d10_2 : decode method_2_code 2 = .ok (.if_icmp .ne 5, 3) := by decide +kernel
theorem d10_5 : decode method_2_code 5 = .ok (.aload_n 2, 1) := by decide +kernel
theorem d10_6 : decode method_2_code 6 = .ok (.areturn, 1) := by decide +kernel
theorem d10_7 : decode method_2_code 7 = .ok (.iload_n 0, 1) := by decide +kernel
theorem d10_8 : decode method_2_code 8 = .ok (.ifCond .ne 5, 3) := by decide +kernel
theorem d10_11 : decode method_2_code 11 = .ok (.aload_n 3, 1) := by decide +kernel
theorem d10_12 : decode method_2_code 12 = .ok (.areturn, 1) := by decide +kernel
theorem d10_13 : decode method_2_code 13 = .ok (.iload_n 0, 1) := by decide +kernel
theorem d10_14 : decode method_2_code 14 = .ok (.iconst 1, 1) := by decide +kernel
theorem d10_15 : decode method_2_code 15 = .ok (.if_icmp .ne 6, 3) := by decide +kernel
theorem d10_18 : decode method_2_code 18 = .ok (.aload 4, 2) := by decide +kernel
theorem d10_20 : decode method_2_code 20 = .ok (.areturn, 1) := by decide +kernel
theorem d10_21 : decode method_2_code 21 = .ok (.aload 5, 2) := by decide +kernel
theorem d10_23 : decode method_2_code 23 = .ok (.areturn, 1) := by decide +kernel
theorem pn_7 : plainName "com/example/listwright/listwright/ArrayStorageSetPinLaw" = true := by first | (simp [plainName, overriddenIn]; done) | decide +kernel
def rmXQ (Z : State) (p1 : Int32) (q1 : Int32) (ev : Addr) (ea : Addr) (eb : Addr) (ec : Addr) (r : Addr) (h0 : Heap) (n0 : Nat) (v : Option Value) (h : Heap) (L : List Loc) : Prop := v = some (.ref r) ∧ Fr n0 L ∧ h = h0
set_option maxRecDepth 65536 in
set_option maxHeartbeats 40000000 in
theorem rmX (l : Launch) (Z : State) (a0 : Array Value) (hw : ∀ d ∈ tables_1, d.before a0 Z = true) (p1 : Int32) (q1 : Int32) (ev : Addr) (ea : Addr) (eb : Addr) (ec : Addr) (r : Addr) (h0 : Heap) (n0 : Nat) (Z0 : n0 ≤ h0.size) (hr : r = (own_exp p1 q1 ev ea eb ec)) :
    Ct l Z [] (⟨"com/example/listwright/listwright/ArrayStorageSetPinLaw", "expectedAt", "(IILjava/lang/Integer;Ljava/lang/Integer;Ljava/lang/Integer;Ljava/lang/Integer;)Ljava/lang/Integer;"⟩ : MethodName) method_2_code 6 (some (.object "java/lang/Integer")) ({ frames := 0, cells := 0, slots := 0, locals := 0 } : Room) #[(.int p1), (.int q1), (.ref ev), (.ref ea), (.ref eb), (.ref ec)] h0 (rmXQ Z p1 q1 ev ea eb ec r h0 n0) := by
  refine own_enter (plainFor_of_name pn_7) ?_
  intro p e s m below meth c T0 X0 hx hby hml hZ hown hnm hret hlk e0
  have hown : s.vm.findClass "com/example/listwright/listwright/ArrayStorageSetPinLaw" = some m.cls := hown
  have N0 := Fr.nil n0
  have K0 := Keep.refl h0 []
  refine own_st (fun wt wk => castTop (g' := mkF m 0 #[.val (.int p1), .val (.int q1), .val (.ref ev), .val (.ref ea), .val (.ref eb), .val (.ref ec)] []) (by first | (simp [entryFrame, mkF, argsToLocals, Value.category]; done) | rfl) wk) ?_
  show Fin1 p e below s (rmXQ Z p1 q1 ev ea eb ec r h0 n0) ({ frames := 0, cells := 0, slots := 0, locals := 0 } : Room).cells ({ frames := 0, cells := 0, slots := 0, locals := 0 } : Room).slots (T0.setTop (mkF m 0 #[.val (.int p1), .val (.int q1), .val (.ref ev), .val (.ref ea), .val (.ref eb), .val (.ref ec)] []))
  refine own_st (fun wt wk => XS.iloadN X0.here hx rfl (hb hby d10_0) rfl wk) ?_
  show Fin1 p e below s (rmXQ Z p1 q1 ev ea eb ec r h0 n0) ({ frames := 0, cells := 0, slots := 0, locals := 0 } : Room).cells ({ frames := 0, cells := 0, slots := 0, locals := 0 } : Room).slots (T0.setTop (mkF m 1 #[.val (.int p1), .val (.int q1), .val (.ref ev), .val (.ref ea), .val (.ref eb), .val (.ref ec)] [(.int p1)]))
  refine own_st (fun wt wk => XS.iloadN X0.here hx rfl (hb hby d10_1) rfl wk) ?_
  show Fin1 p e below s (rmXQ Z p1 q1 ev ea eb ec r h0 n0) ({ frames := 0, cells := 0, slots := 0, locals := 0 } : Room).cells ({ frames := 0, cells := 0, slots := 0, locals := 0 } : Room).slots (T0.setTop (mkF m 2 #[.val (.int p1), .val (.int q1), .val (.ref ev), .val (.ref ea), .val (.ref eb), .val (.ref ec)] [(.int q1), (.int p1)]))
  by_cases c2 : p1 = q1
  · refine own_st (fun wt wk => XS.icmpNo X0.here hx rfl (hb hby d10_2) rfl (teq c2).2 wk) ?_
    show Fin1 p e below s (rmXQ Z p1 q1 ev ea eb ec r h0 n0) ({ frames := 0, cells := 0, slots := 0, locals := 0 } : Room).cells ({ frames := 0, cells := 0, slots := 0, locals := 0 } : Room).slots (T0.setTop (mkF m 5 #[.val (.int p1), .val (.int q1), .val (.ref ev), .val (.ref ea), .val (.ref eb), .val (.ref ec)] []))
    refine own_st (fun wt wk => XS.aloadN X0.here hx rfl (hb hby d10_5) rfl rfl wk) ?_
    show Fin1 p e below s (rmXQ Z p1 q1 ev ea eb ec r h0 n0) ({ frames := 0, cells := 0, slots := 0, locals := 0 } : Room).cells ({ frames := 0, cells := 0, slots := 0, locals := 0 } : Room).slots (T0.setTop (mkF m 6 #[.val (.int p1), .val (.int q1), .val (.ref ev), .val (.ref ea), .val (.ref eb), .val (.ref ec)] [(.ref ev)]))
    exact own_retA X0 hx hlk hret rfl rfl (hb hby d10_6) (by rw [e0]; exact ⟨(by rw [hr, own_exp, if_pos c2]), N0, rfl⟩) (by decide) (by decide)
  · refine own_st (fun wt wk => XS.icmpYes X0.here hx rfl (pc0 := 2) (pc' := 7) rfl (hb hby d10_2) rfl (feq c2).2 (by decide) (by decide) wk) ?_
    show Fin1 p e below s (rmXQ Z p1 q1 ev ea eb ec r h0 n0) ({ frames := 0, cells := 0, slots := 0, locals := 0 } : Room).cells ({ frames := 0, cells := 0, slots := 0, locals := 0 } : Room).slots (T0.setTop (mkF m 7 #[.val (.int p1), .val (.int q1), .val (.ref ev), .val (.ref ea), .val (.ref eb), .val (.ref ec)] []))
    refine own_st (fun wt wk => XS.iloadN X0.here hx rfl (hb hby d10_7) rfl wk) ?_
    show Fin1 p e below s (rmXQ Z p1 q1 ev ea eb ec r h0 n0) ({ frames := 0, cells := 0, slots := 0, locals := 0 } : Room).cells ({ frames := 0, cells := 0, slots := 0, locals := 0 } : Room).slots (T0.setTop (mkF m 8 #[.val (.int p1), .val (.int q1), .val (.ref ev), .val (.ref ea), .val (.ref eb), .val (.ref ec)] [(.int p1)]))
    by_cases c8 : p1 = (0 : Int32)
    · refine own_st (fun wt wk => XS.ifNo X0.here hx rfl (hb hby d10_8) rfl ((if0 _ _).trans (teq c8).2) wk) ?_
      show Fin1 p e below s (rmXQ Z p1 q1 ev ea eb ec r h0 n0) ({ frames := 0, cells := 0, slots := 0, locals := 0 } : Room).cells ({ frames := 0, cells := 0, slots := 0, locals := 0 } : Room).slots (T0.setTop (mkF m 11 #[.val (.int p1), .val (.int q1), .val (.ref ev), .val (.ref ea), .val (.ref eb), .val (.ref ec)] []))
      refine own_st (fun wt wk => XS.aloadN X0.here hx rfl (hb hby d10_11) rfl rfl wk) ?_
      show Fin1 p e below s (rmXQ Z p1 q1 ev ea eb ec r h0 n0) ({ frames := 0, cells := 0, slots := 0, locals := 0 } : Room).cells ({ frames := 0, cells := 0, slots := 0, locals := 0 } : Room).slots (T0.setTop (mkF m 12 #[.val (.int p1), .val (.int q1), .val (.ref ev), .val (.ref ea), .val (.ref eb), .val (.ref ec)] [(.ref ea)]))
      exact own_retA X0 hx hlk hret rfl rfl (hb hby d10_12) (by rw [e0]; exact ⟨(by rw [hr, own_exp, if_neg c2, if_pos c8]), N0, rfl⟩) (by decide) (by decide)
    · refine own_st (fun wt wk => XS.ifYes X0.here hx rfl (pc0 := 8) (pc' := 13) rfl (hb hby d10_8) rfl ((if0 _ _).trans (feq c8).2) (by decide) (by decide) wk) ?_
      show Fin1 p e below s (rmXQ Z p1 q1 ev ea eb ec r h0 n0) ({ frames := 0, cells := 0, slots := 0, locals := 0 } : Room).cells ({ frames := 0, cells := 0, slots := 0, locals := 0 } : Room).slots (T0.setTop (mkF m 13 #[.val (.int p1), .val (.int q1), .val (.ref ev), .val (.ref ea), .val (.ref eb), .val (.ref ec)] []))
      refine own_st (fun wt wk => XS.iloadN X0.here hx rfl (hb hby d10_13) rfl wk) ?_
      show Fin1 p e below s (rmXQ Z p1 q1 ev ea eb ec r h0 n0) ({ frames := 0, cells := 0, slots := 0, locals := 0 } : Room).cells ({ frames := 0, cells := 0, slots := 0, locals := 0 } : Room).slots (T0.setTop (mkF m 14 #[.val (.int p1), .val (.int q1), .val (.ref ev), .val (.ref ea), .val (.ref eb), .val (.ref ec)] [(.int p1)]))
      refine own_st (fun wt wk => XS.iconst X0.here hx rfl (hb hby d10_14) wk) ?_
      show Fin1 p e below s (rmXQ Z p1 q1 ev ea eb ec r h0 n0) ({ frames := 0, cells := 0, slots := 0, locals := 0 } : Room).cells ({ frames := 0, cells := 0, slots := 0, locals := 0 } : Room).slots (T0.setTop (mkF m 15 #[.val (.int p1), .val (.int q1), .val (.ref ev), .val (.ref ea), .val (.ref eb), .val (.ref ec)] [(.int (1 : Int32)), (.int p1)]))
      by_cases c15 : p1 = (1 : Int32)
      · refine own_st (fun wt wk => XS.icmpNo X0.here hx rfl (hb hby d10_15) rfl (teq c15).2 wk) ?_
        show Fin1 p e below s (rmXQ Z p1 q1 ev ea eb ec r h0 n0) ({ frames := 0, cells := 0, slots := 0, locals := 0 } : Room).cells ({ frames := 0, cells := 0, slots := 0, locals := 0 } : Room).slots (T0.setTop (mkF m 18 #[.val (.int p1), .val (.int q1), .val (.ref ev), .val (.ref ea), .val (.ref eb), .val (.ref ec)] []))
        refine own_st (fun wt wk => XS.aload X0.here hx rfl (hb hby d10_18) rfl rfl wk) ?_
        show Fin1 p e below s (rmXQ Z p1 q1 ev ea eb ec r h0 n0) ({ frames := 0, cells := 0, slots := 0, locals := 0 } : Room).cells ({ frames := 0, cells := 0, slots := 0, locals := 0 } : Room).slots (T0.setTop (mkF m 20 #[.val (.int p1), .val (.int q1), .val (.ref ev), .val (.ref ea), .val (.ref eb), .val (.ref ec)] [(.ref eb)]))
        exact own_retA X0 hx hlk hret rfl rfl (hb hby d10_20) (by rw [e0]; exact ⟨(by rw [hr, own_exp, if_neg c2, if_neg c8, if_pos c15]), N0, rfl⟩) (by decide) (by decide)
      · refine own_st (fun wt wk => XS.icmpYes X0.here hx rfl (pc0 := 15) (pc' := 21) rfl (hb hby d10_15) rfl (feq c15).2 (by decide) (by decide) wk) ?_
        show Fin1 p e below s (rmXQ Z p1 q1 ev ea eb ec r h0 n0) ({ frames := 0, cells := 0, slots := 0, locals := 0 } : Room).cells ({ frames := 0, cells := 0, slots := 0, locals := 0 } : Room).slots (T0.setTop (mkF m 21 #[.val (.int p1), .val (.int q1), .val (.ref ev), .val (.ref ea), .val (.ref eb), .val (.ref ec)] []))
        refine own_st (fun wt wk => XS.aload X0.here hx rfl (hb hby d10_21) rfl rfl wk) ?_
        show Fin1 p e below s (rmXQ Z p1 q1 ev ea eb ec r h0 n0) ({ frames := 0, cells := 0, slots := 0, locals := 0 } : Room).cells ({ frames := 0, cells := 0, slots := 0, locals := 0 } : Room).slots (T0.setTop (mkF m 23 #[.val (.int p1), .val (.int q1), .val (.ref ev), .val (.ref ea), .val (.ref eb), .val (.ref ec)] [(.ref ec)]))
        exact own_retA X0 hx hlk hret rfl rfl (hb hby d10_23) (by rw [e0]; exact ⟨(by rw [hr, own_exp, if_neg c2, if_neg c8, if_neg c15]), N0, rfl⟩) (by decide) (by decide)
theorem pd_8 : parseMethodDescriptor "(I)Ljava/lang/Integer;" = some ⟨[.int], some (.object "java/lang/Integer")⟩ := by decide +kernel
theorem pd_9 : parseMethodDescriptor "(ILjava/lang/Object;)V" = some ⟨[.int, (.object "java/lang/Object")], none⟩ := by decide +kernel
theorem pd_10 : parseMethodDescriptor "(ILjava/lang/Object;)Ljava/lang/Object;" = some ⟨[.int, (.object "java/lang/Object")], some (.object "java/lang/Object")⟩ := by decide +kernel
theorem pd_11 : parseMethodDescriptor "()I" = some ⟨[], some .int⟩ := by decide +kernel
theorem pd_12 : parseMethodDescriptor "(IILjava/lang/Integer;Ljava/lang/Integer;Ljava/lang/Integer;Ljava/lang/Integer;)Ljava/lang/Integer;" = some ⟨[.int, .int, (.object "java/lang/Integer"), (.object "java/lang/Integer"), (.object "java/lang/Integer"), (.object "java/lang/Integer")], some (.object "java/lang/Integer")⟩ := by decide +kernel
def rm0Q (Z : State) (i0 : Int32) (i1 : Int32) (i2 : Int32) (i3 : Int32) (i4 : Int32) (i5 : Int32) (h0 : Heap) (n0 : Nat) (v : Option Value) (h : Heap) (L : List Loc) : Prop := v = some (.int (1 : Int32)) ∧ Fr n0 L
set_option maxRecDepth 65536 in
set_option maxHeartbeats 40000000 in
theorem rm0 (l : Launch) (Z : State) (a0 : Array Value) (hw : ∀ d ∈ tables_1, d.before a0 Z = true) (i0 : Int32) (i1 : Int32) (i2 : Int32) (i3 : Int32) (i4 : Int32) (i5 : Int32) (h0 : Heap) (n0 : Nat) (Z0 : n0 ≤ h0.size) (O : Old Z n0 h0) (hic : own_IC Z) :
    Ct l Z tables_1 x code maxLocals ret room_1 #[(.int i0), (.int i1), (.int i2), (.int i3), (.int i4), (.int i5)] h0 (rm0Q Z i0 i1 i2 i3 i4 i5 h0 n0) := by
  refine own_enter (plainFor_of_name pn_7) ?_
  intro p e s m below meth c T0 X0 hx hby hml hZ hown hnm hret hlk e0
  have hown : s.vm.findClass "com/example/listwright/listwright/ArrayStorageSetPinLaw" = some m.cls := hown
  have N0 := Fr.nil n0
  have K0 := Keep.refl h0 []
  refine own_st (fun wt wk => castTop (g' := mkF m 0 #[.val (.int i0), .val (.int i1), .val (.int i2), .val (.int i3), .val (.int i4), .val (.int i5), .unset, .unset, .unset, .unset, .unset, .unset, .unset, .unset, .unset] []) (by first | (simp [entryFrame, mkF, argsToLocals, Value.category, maxLocals]; done) | rfl) wk) ?_
  show Fin1 p e below s (rm0Q Z i0 i1 i2 i3 i4 i5 h0 n0) room_1.cells room_1.slots (T0.setTop (mkF m 0 #[.val (.int i0), .val (.int i1), .val (.int i2), .val (.int i3), .val (.int i4), .val (.int i5), .unset, .unset, .unset, .unset, .unset, .unset, .unset, .unset, .unset] []))
  refine own_st (fun wt wk => XS.iconst X0.here hx rfl (hb hby at_0) wk) ?_
  show Fin1 p e below s (rm0Q Z i0 i1 i2 i3 i4 i5 h0 n0) room_1.cells room_1.slots (T0.setTop (mkF m 1 #[.val (.int i0), .val (.int i1), .val (.int i2), .val (.int i3), .val (.int i4), .val (.int i5), .unset, .unset, .unset, .unset, .unset, .unset, .unset, .unset, .unset] [(.int (1 : Int32))]))
  refine own_st (fun wt wk => XS.iloadN X0.here hx rfl (hb hby at_1) rfl wk) ?_
  show Fin1 p e below s (rm0Q Z i0 i1 i2 i3 i4 i5 h0 n0) room_1.cells room_1.slots (T0.setTop (mkF m 2 #[.val (.int i0), .val (.int i1), .val (.int i2), .val (.int i3), .val (.int i4), .val (.int i5), .unset, .unset, .unset, .unset, .unset, .unset, .unset, .unset, .unset] [(.int i0), (.int (1 : Int32))]))
  refine own_st (X0.ldcInt hx hown (mvT hZ (hw _ (List.mem_of_getElem? (i := 0) rfl))) (g := (mkF m 2 #[.val (.int i0), .val (.int i1), .val (.int i2), .val (.int i3), .val (.int i4), .val (.int i5), .unset, .unset, .unset, .unset, .unset, .unset, .unset, .unset, .unset] [(.int i0), (.int (1 : Int32))])) rfl (hb hby at_2)) ?_
  show Fin1 p e below s (rm0Q Z i0 i1 i2 i3 i4 i5 h0 n0) room_1.cells room_1.slots (T0.setTop (mkF m 4 #[.val (.int i0), .val (.int i1), .val (.int i2), .val (.int i3), .val (.int i4), .val (.int i5), .unset, .unset, .unset, .unset, .unset, .unset, .unset, .unset, .unset] [(.int (2147483647 : Int32)), (.int i0), (.int (1 : Int32))]))
  refine own_st (fun wt wk => XS.iand X0.here hx rfl (hb hby at_4) rfl wk) ?_
  show Fin1 p e below s (rm0Q Z i0 i1 i2 i3 i4 i5 h0 n0) room_1.cells room_1.slots (T0.setTop (mkF m 5 #[.val (.int i0), .val (.int i1), .val (.int i2), .val (.int i3), .val (.int i4), .val (.int i5), .unset, .unset, .unset, .unset, .unset, .unset, .unset, .unset, .unset] [(.int (i0 &&& (2147483647 : Int32))), (.int (1 : Int32))]))
  refine own_st (fun wt wk => XS.iconst X0.here hx rfl (hb hby at_5) wk) ?_
  show Fin1 p e below s (rm0Q Z i0 i1 i2 i3 i4 i5 h0 n0) room_1.cells room_1.slots (T0.setTop (mkF m 6 #[.val (.int i0), .val (.int i1), .val (.int i2), .val (.int i3), .val (.int i4), .val (.int i5), .unset, .unset, .unset, .unset, .unset, .unset, .unset, .unset, .unset] [(.int (3 : Int32)), (.int (i0 &&& (2147483647 : Int32))), (.int (1 : Int32))]))
  refine own_st (fun wt wk => iremM X0 hx rfl (hb hby at_6) rfl (by decide) wk) ?_
  show Fin1 p e below s (rm0Q Z i0 i1 i2 i3 i4 i5 h0 n0) room_1.cells room_1.slots (T0.setTop (mkF m 7 #[.val (.int i0), .val (.int i1), .val (.int i2), .val (.int i3), .val (.int i4), .val (.int i5), .unset, .unset, .unset, .unset, .unset, .unset, .unset, .unset, .unset] [(.int ((i0 &&& (2147483647 : Int32)) % (3 : Int32))), (.int (1 : Int32))]))
  refine own_st (fun wt wk => XS.iadd X0.here hx rfl (hb hby at_7) rfl wk) ?_
  show Fin1 p e below s (rm0Q Z i0 i1 i2 i3 i4 i5 h0 n0) room_1.cells room_1.slots (T0.setTop (mkF m 8 #[.val (.int i0), .val (.int i1), .val (.int i2), .val (.int i3), .val (.int i4), .val (.int i5), .unset, .unset, .unset, .unset, .unset, .unset, .unset, .unset, .unset] [(.int ((1 : Int32) + ((i0 &&& (2147483647 : Int32)) % (3 : Int32))))]))
  refine own_st (fun wt wk => XS.istore X0.here hx rfl (hb hby at_8) rfl (l' := #[.val (.int i0), .val (.int i1), .val (.int i2), .val (.int i3), .val (.int i4), .val (.int i5), .val (.int ((1 : Int32) + ((i0 &&& (2147483647 : Int32)) % (3 : Int32)))), .unset, .unset, .unset, .unset, .unset, .unset, .unset, .unset]) rfl wk) ?_
  show Fin1 p e below s (rm0Q Z i0 i1 i2 i3 i4 i5 h0 n0) room_1.cells room_1.slots (T0.setTop (mkF m 10 #[.val (.int i0), .val (.int i1), .val (.int i2), .val (.int i3), .val (.int i4), .val (.int i5), .val (.int ((1 : Int32) + ((i0 &&& (2147483647 : Int32)) % (3 : Int32)))), .unset, .unset, .unset, .unset, .unset, .unset, .unset, .unset] []))
  refine own_st (fun wt wk => XS.iloadN X0.here hx rfl (hb hby at_10) rfl wk) ?_
  show Fin1 p e below s (rm0Q Z i0 i1 i2 i3 i4 i5 h0 n0) room_1.cells room_1.slots (T0.setTop (mkF m 11 #[.val (.int i0), .val (.int i1), .val (.int i2), .val (.int i3), .val (.int i4), .val (.int i5), .val (.int ((1 : Int32) + ((i0 &&& (2147483647 : Int32)) % (3 : Int32)))), .unset, .unset, .unset, .unset, .unset, .unset, .unset, .unset] [(.int i1)]))
  refine own_st (X0.ldcInt hx hown (mvT hZ (hw _ (List.mem_of_getElem? (i := 0) rfl))) (g := (mkF m 11 #[.val (.int i0), .val (.int i1), .val (.int i2), .val (.int i3), .val (.int i4), .val (.int i5), .val (.int ((1 : Int32) + ((i0 &&& (2147483647 : Int32)) % (3 : Int32)))), .unset, .unset, .unset, .unset, .unset, .unset, .unset, .unset] [(.int i1)])) rfl (hb hby at_11)) ?_
  show Fin1 p e below s (rm0Q Z i0 i1 i2 i3 i4 i5 h0 n0) room_1.cells room_1.slots (T0.setTop (mkF m 13 #[.val (.int i0), .val (.int i1), .val (.int i2), .val (.int i3), .val (.int i4), .val (.int i5), .val (.int ((1 : Int32) + ((i0 &&& (2147483647 : Int32)) % (3 : Int32)))), .unset, .unset, .unset, .unset, .unset, .unset, .unset, .unset] [(.int (2147483647 : Int32)), (.int i1)]))
  refine own_st (fun wt wk => XS.iand X0.here hx rfl (hb hby at_13) rfl wk) ?_
  show Fin1 p e below s (rm0Q Z i0 i1 i2 i3 i4 i5 h0 n0) room_1.cells room_1.slots (T0.setTop (mkF m 14 #[.val (.int i0), .val (.int i1), .val (.int i2), .val (.int i3), .val (.int i4), .val (.int i5), .val (.int ((1 : Int32) + ((i0 &&& (2147483647 : Int32)) % (3 : Int32)))), .unset, .unset, .unset, .unset, .unset, .unset, .unset, .unset] [(.int (i1 &&& (2147483647 : Int32)))]))
  refine own_st (fun wt wk => XS.iload X0.here hx rfl (hb hby at_14) rfl wk) ?_
  show Fin1 p e below s (rm0Q Z i0 i1 i2 i3 i4 i5 h0 n0) room_1.cells room_1.slots (T0.setTop (mkF m 16 #[.val (.int i0), .val (.int i1), .val (.int i2), .val (.int i3), .val (.int i4), .val (.int i5), .val (.int ((1 : Int32) + ((i0 &&& (2147483647 : Int32)) % (3 : Int32)))), .unset, .unset, .unset, .unset, .unset, .unset, .unset, .unset] [(.int ((1 : Int32) + ((i0 &&& (2147483647 : Int32)) % (3 : Int32)))), (.int (i1 &&& (2147483647 : Int32)))]))
  refine own_st (fun wt wk => iremM X0 hx rfl (hb hby at_16) rfl (own_six i0 i1).1 wk) ?_
  show Fin1 p e below s (rm0Q Z i0 i1 i2 i3 i4 i5 h0 n0) room_1.cells room_1.slots (T0.setTop (mkF m 17 #[.val (.int i0), .val (.int i1), .val (.int i2), .val (.int i3), .val (.int i4), .val (.int i5), .val (.int ((1 : Int32) + ((i0 &&& (2147483647 : Int32)) % (3 : Int32)))), .unset, .unset, .unset, .unset, .unset, .unset, .unset, .unset] [(.int ((i1 &&& (2147483647 : Int32)) % ((1 : Int32) + ((i0 &&& (2147483647 : Int32)) % (3 : Int32)))))]))
  refine own_st (fun wt wk => XS.istore X0.here hx rfl (hb hby at_17) rfl (l' := #[.val (.int i0), .val (.int i1), .val (.int i2), .val (.int i3), .val (.int i4), .val (.int i5), .val (.int ((1 : Int32) + ((i0 &&& (2147483647 : Int32)) % (3 : Int32)))), .val (.int ((i1 &&& (2147483647 : Int32)) % ((1 : Int32) + ((i0 &&& (2147483647 : Int32)) % (3 : Int32))))), .unset, .unset, .unset, .unset, .unset, .unset, .unset]) rfl wk) ?_
  show Fin1 p e below s (rm0Q Z i0 i1 i2 i3 i4 i5 h0 n0) room_1.cells room_1.slots (T0.setTop (mkF m 19 #[.val (.int i0), .val (.int i1), .val (.int i2), .val (.int i3), .val (.int i4), .val (.int i5), .val (.int ((1 : Int32) + ((i0 &&& (2147483647 : Int32)) % (3 : Int32)))), .val (.int ((i1 &&& (2147483647 : Int32)) % ((1 : Int32) + ((i0 &&& (2147483647 : Int32)) % (3 : Int32))))), .unset, .unset, .unset, .unset, .unset, .unset, .unset] []))
  suffices K19 : ∀ (k6 : Int32) (k7 : Int32), ((k6 = 1 ∧ k7 = 0) ∨ (k6 = 2 ∧ k7 = 0) ∨ (k6 = 2 ∧ k7 = 1) ∨ (k6 = 3 ∧ k7 = 0) ∨ (k6 = 3 ∧ k7 = 1) ∨ (k6 = 3 ∧ k7 = 2)) → Fin1 p e below s (rm0Q Z i0 i1 i2 i3 i4 i5 h0 n0) room_1.cells room_1.slots (T0.setTop (mkF m 19 #[.val (.int i0), .val (.int i1), .val (.int i2), .val (.int i3), .val (.int i4), .val (.int i5), .val (.int k6), .val (.int k7), .unset, .unset, .unset, .unset, .unset, .unset, .unset] [])) by
    exact K19 _ _ ((own_six i0 i1).2 _ rfl)
  intro k6 k7 hk
  refine own_st (fun wt wk => XS.iloadN X0.here hx rfl (hb hby at_19) rfl wk) ?_
  show Fin1 p e below s (rm0Q Z i0 i1 i2 i3 i4 i5 h0 n0) room_1.cells room_1.slots (T0.setTop (mkF m 20 #[.val (.int i0), .val (.int i1), .val (.int i2), .val (.int i3), .val (.int i4), .val (.int i5), .val (.int k6), .val (.int k7), .unset, .unset, .unset, .unset, .unset, .unset, .unset] [(.int i2)]))
  obtain ⟨v1, T1, h1, L1, X1, e1, hQ1, st1⟩ := own_static X0 hx hZ hown (hw _ (List.mem_of_getElem? (i := 1) rfl)) (hw _ (List.mem_of_getElem? (i := 2) rfl)) (hw _ (List.mem_of_getElem? (i := 3) rfl)) (hw _ (List.mem_of_getElem? (i := 4) rfl)) (by decide) (rmV l Z a0 hw i2 h0 n0 Z0 O hic) e0 (g := (mkF m 20 #[.val (.int i0), .val (.int i1), .val (.int i2), .val (.int i3), .val (.int i4), .val (.int i5), .val (.int k6), .val (.int k7), .unset, .unset, .unset, .unset, .unset, .unset, .unset] [(.int i2)])) rfl (by rw [hml]; rfl) (argsL := [(.int i2)]) (rest := []) (lenOf pd_8 rfl) rfl (W := 0) (by show 2 * 0 + _ ≤ _; exact Nat.le_of_eq rfl) (hb hby at_20) (by decide) (by decide) (by decide) (by decide)
  obtain ⟨ra, rfl, N1q, K1, E_ra, F_ra⟩ := hQ1
  have N1 := Fr.app N0 N1q
  have Z0 := Nat.le_trans Z0 K1.1
  have O := O.keep K1 all0
  refine own_st st1 ?_
  show Fin1 p e below s (rm0Q Z i0 i1 i2 i3 i4 i5 h0 n0) room_1.cells room_1.slots (T1.setTop (mkF m 23 #[.val (.int i0), .val (.int i1), .val (.int i2), .val (.int i3), .val (.int i4), .val (.int i5), .val (.int k6), .val (.int k7), .unset, .unset, .unset, .unset, .unset, .unset, .unset] [(.ref ra)]))
  refine own_st (fun wt wk => XS.astore X1.here hx rfl (hb hby at_23) rfl rfl (l' := #[.val (.int i0), .val (.int i1), .val (.int i2), .val (.int i3), .val (.int i4), .val (.int i5), .val (.int k6), .val (.int k7), .val (.ref ra), .unset, .unset, .unset, .unset, .unset, .unset]) rfl wk) ?_
  show Fin1 p e below s (rm0Q Z i0 i1 i2 i3 i4 i5 h0 n0) room_1.cells room_1.slots (T1.setTop (mkF m 25 #[.val (.int i0), .val (.int i1), .val (.int i2), .val (.int i3), .val (.int i4), .val (.int i5), .val (.int k6), .val (.int k7), .val (.ref ra), .unset, .unset, .unset, .unset, .unset, .unset] []))
  refine own_st (fun wt wk => XS.iloadN X1.here hx rfl (hb hby at_25) rfl wk) ?_
  show Fin1 p e below s (rm0Q Z i0 i1 i2 i3 i4 i5 h0 n0) room_1.cells room_1.slots (T1.setTop (mkF m 26 #[.val (.int i0), .val (.int i1), .val (.int i2), .val (.int i3), .val (.int i4), .val (.int i5), .val (.int k6), .val (.int k7), .val (.ref ra), .unset, .unset, .unset, .unset, .unset, .unset] [(.int i3)]))
  obtain ⟨v2, T2, h2, L2, X2, e2, hQ2, st2⟩ := own_static X1 hx hZ hown (hw _ (List.mem_of_getElem? (i := 1) rfl)) (hw _ (List.mem_of_getElem? (i := 2) rfl)) (hw _ (List.mem_of_getElem? (i := 3) rfl)) (hw _ (List.mem_of_getElem? (i := 4) rfl)) (by decide) (rmV l Z a0 hw i3 h1 n0 Z0 O hic) e1 (g := (mkF m 26 #[.val (.int i0), .val (.int i1), .val (.int i2), .val (.int i3), .val (.int i4), .val (.int i5), .val (.int k6), .val (.int k7), .val (.ref ra), .unset, .unset, .unset, .unset, .unset, .unset] [(.int i3)])) rfl (by rw [hml]; rfl) (argsL := [(.int i3)]) (rest := []) (lenOf pd_8 rfl) rfl (W := 0) (by show 2 * 0 + _ ≤ _; exact Nat.le_of_eq rfl) (hb hby at_26) (by decide) (by decide) (by decide) (by decide)
  obtain ⟨rb, rfl, N2q, K2, E_rb, F_rb⟩ := hQ2
  have N2 := Fr.app N1 N2q
  have Z0 := Nat.le_trans Z0 K2.1
  have O := O.keep K2 all0
  have E_ra := E_ra.keep K2
  refine own_st st2 ?_
  show Fin1 p e below s (rm0Q Z i0 i1 i2 i3 i4 i5 h0 n0) room_1.cells room_1.slots (T2.setTop (mkF m 29 #[.val (.int i0), .val (.int i1), .val (.int i2), .val (.int i3), .val (.int i4), .val (.int i5), .val (.int k6), .val (.int k7), .val (.ref ra), .unset, .unset, .unset, .unset, .unset, .unset] [(.ref rb)]))
  refine own_st (fun wt wk => XS.astore X2.here hx rfl (hb hby at_29) rfl rfl (l' := #[.val (.int i0), .val (.int i1), .val (.int i2), .val (.int i3), .val (.int i4), .val (.int i5), .val (.int k6), .val (.int k7), .val (.ref ra), .val (.ref rb), .unset, .unset, .unset, .unset, .unset]) rfl wk) ?_
  show Fin1 p e below s (rm0Q Z i0 i1 i2 i3 i4 i5 h0 n0) room_1.cells room_1.slots (T2.setTop (mkF m 31 #[.val (.int i0), .val (.int i1), .val (.int i2), .val (.int i3), .val (.int i4), .val (.int i5), .val (.int k6), .val (.int k7), .val (.ref ra), .val (.ref rb), .unset, .unset, .unset, .unset, .unset] []))
  refine own_st (fun wt wk => XS.iload X2.here hx rfl (hb hby at_31) rfl wk) ?_
  show Fin1 p e below s (rm0Q Z i0 i1 i2 i3 i4 i5 h0 n0) room_1.cells room_1.slots (T2.setTop (mkF m 33 #[.val (.int i0), .val (.int i1), .val (.int i2), .val (.int i3), .val (.int i4), .val (.int i5), .val (.int k6), .val (.int k7), .val (.ref ra), .val (.ref rb), .unset, .unset, .unset, .unset, .unset] [(.int i4)]))
  obtain ⟨v3, T3, h3, L3, X3, e3, hQ3, st3⟩ := own_static X2 hx hZ hown (hw _ (List.mem_of_getElem? (i := 1) rfl)) (hw _ (List.mem_of_getElem? (i := 2) rfl)) (hw _ (List.mem_of_getElem? (i := 3) rfl)) (hw _ (List.mem_of_getElem? (i := 4) rfl)) (by decide) (rmV l Z a0 hw i4 h2 n0 Z0 O hic) e2 (g := (mkF m 33 #[.val (.int i0), .val (.int i1), .val (.int i2), .val (.int i3), .val (.int i4), .val (.int i5), .val (.int k6), .val (.int k7), .val (.ref ra), .val (.ref rb), .unset, .unset, .unset, .unset, .unset] [(.int i4)])) rfl (by rw [hml]; rfl) (argsL := [(.int i4)]) (rest := []) (lenOf pd_8 rfl) rfl (W := 0) (by show 2 * 0 + _ ≤ _; exact Nat.le_of_eq rfl) (hb hby at_33) (by decide) (by decide) (by decide) (by decide)
  obtain ⟨rc, rfl, N3q, K3, E_rc, F_rc⟩ := hQ3
  have N3 := Fr.app N2 N3q
  have Z0 := Nat.le_trans Z0 K3.1
  have O := O.keep K3 all0
  have E_ra := E_ra.keep K3
  have E_rb := E_rb.keep K3
  refine own_st st3 ?_
  show Fin1 p e below s (rm0Q Z i0 i1 i2 i3 i4 i5 h0 n0) room_1.cells room_1.slots (T3.setTop (mkF m 36 #[.val (.int i0), .val (.int i1), .val (.int i2), .val (.int i3), .val (.int i4), .val (.int i5), .val (.int k6), .val (.int k7), .val (.ref ra), .val (.ref rb), .unset, .unset, .unset, .unset, .unset] [(.ref rc)]))
  refine own_st (fun wt wk => XS.astore X3.here hx rfl (hb hby at_36) rfl rfl (l' := #[.val (.int i0), .val (.int i1), .val (.int i2), .val (.int i3), .val (.int i4), .val (.int i5), .val (.int k6), .val (.int k7), .val (.ref ra), .val (.ref rb), .val (.ref rc), .unset, .unset, .unset, .unset]) rfl wk) ?_
  show Fin1 p e below s (rm0Q Z i0 i1 i2 i3 i4 i5 h0 n0) room_1.cells room_1.slots (T3.setTop (mkF m 38 #[.val (.int i0), .val (.int i1), .val (.int i2), .val (.int i3), .val (.int i4), .val (.int i5), .val (.int k6), .val (.int k7), .val (.ref ra), .val (.ref rb), .val (.ref rc), .unset, .unset, .unset, .unset] []))
  refine own_st (fun wt wk => XS.iload X3.here hx rfl (hb hby at_38) rfl wk) ?_
  show Fin1 p e below s (rm0Q Z i0 i1 i2 i3 i4 i5 h0 n0) room_1.cells room_1.slots (T3.setTop (mkF m 40 #[.val (.int i0), .val (.int i1), .val (.int i2), .val (.int i3), .val (.int i4), .val (.int i5), .val (.int k6), .val (.int k7), .val (.ref ra), .val (.ref rb), .val (.ref rc), .unset, .unset, .unset, .unset] [(.int i5)]))
  obtain ⟨v4, T4, h4, L4, X4, e4, hQ4, st4⟩ := own_static X3 hx hZ hown (hw _ (List.mem_of_getElem? (i := 1) rfl)) (hw _ (List.mem_of_getElem? (i := 2) rfl)) (hw _ (List.mem_of_getElem? (i := 3) rfl)) (hw _ (List.mem_of_getElem? (i := 4) rfl)) (by decide) (rmV l Z a0 hw i5 h3 n0 Z0 O hic) e3 (g := (mkF m 40 #[.val (.int i0), .val (.int i1), .val (.int i2), .val (.int i3), .val (.int i4), .val (.int i5), .val (.int k6), .val (.int k7), .val (.ref ra), .val (.ref rb), .val (.ref rc), .unset, .unset, .unset, .unset] [(.int i5)])) rfl (by rw [hml]; rfl) (argsL := [(.int i5)]) (rest := []) (lenOf pd_8 rfl) rfl (W := 0) (by show 2 * 0 + _ ≤ _; exact Nat.le_of_eq rfl) (hb hby at_40) (by decide) (by decide) (by decide) (by decide)
  obtain ⟨rv, rfl, N4q, K4, E_rv, F_rv⟩ := hQ4
  have N4 := Fr.app N3 N4q
  have Z0 := Nat.le_trans Z0 K4.1
  have O := O.keep K4 all0
  have E_ra := E_ra.keep K4
  have E_rb := E_rb.keep K4
  have E_rc := E_rc.keep K4
  refine own_st st4 ?_
  show Fin1 p e below s (rm0Q Z i0 i1 i2 i3 i4 i5 h0 n0) room_1.cells room_1.slots (T4.setTop (mkF m 43 #[.val (.int i0), .val (.int i1), .val (.int i2), .val (.int i3), .val (.int i4), .val (.int i5), .val (.int k6), .val (.int k7), .val (.ref ra), .val (.ref rb), .val (.ref rc), .unset, .unset, .unset, .unset] [(.ref rv)]))
  refine own_st (fun wt wk => XS.astore X4.here hx rfl (hb hby at_43) rfl rfl (l' := #[.val (.int i0), .val (.int i1), .val (.int i2), .val (.int i3), .val (.int i4), .val (.int i5), .val (.int k6), .val (.int k7), .val (.ref ra), .val (.ref rb), .val (.ref rc), .val (.ref rv), .unset, .unset, .unset]) rfl wk) ?_
  show Fin1 p e below s (rm0Q Z i0 i1 i2 i3 i4 i5 h0 n0) room_1.cells room_1.slots (T4.setTop (mkF m 45 #[.val (.int i0), .val (.int i1), .val (.int i2), .val (.int i3), .val (.int i4), .val (.int i5), .val (.int k6), .val (.int k7), .val (.ref ra), .val (.ref rb), .val (.ref rc), .val (.ref rv), .unset, .unset, .unset] []))
  obtain ⟨T5, h5, X5, e5, E5, A5, D5, -, st5⟩ := newO X4 hx hZ hown (hw _ (List.mem_of_getElem? (i := 8) rfl)) (hw _ (List.mem_of_getElem? (i := 9) rfl)) (hw _ (List.mem_of_getElem? (i := 10) rfl)) e4 (g := (mkF m 45 #[.val (.int i0), .val (.int i1), .val (.int i2), .val (.int i3), .val (.int i4), .val (.int i5), .val (.int k6), .val (.int k7), .val (.ref ra), .val (.ref rb), .val (.ref rc), .val (.ref rv), .unset, .unset, .unset] [])) rfl (hb hby at_45) (by decide) (by decide)
  obtain ⟨b5, gz_b5⟩ : ∃ z, z = h4.size := ⟨_, rfl⟩
  rw [← gz_b5] at A5 D5 st5
  have ne_ra_b5 : ra ≠ b5 := Nat.ne_of_lt (Nat.lt_of_lt_of_le E_ra.lt (Nat.le_of_eq gz_b5.symm))
  have ne_rb_b5 : rb ≠ b5 := Nat.ne_of_lt (Nat.lt_of_lt_of_le E_rb.lt (Nat.le_of_eq gz_b5.symm))
  have ne_rc_b5 : rc ≠ b5 := Nat.ne_of_lt (Nat.lt_of_lt_of_le E_rc.lt (Nat.le_of_eq gz_b5.symm))
  have ne_rv_b5 : rv ≠ b5 := Nat.ne_of_lt (Nat.lt_of_lt_of_le E_rv.lt (Nat.le_of_eq gz_b5.symm))
  have g_b5 : n0 ≤ b5 := Nat.le_trans Z0 (Nat.le_of_eq gz_b5.symm)
  have Z0 := Nat.le_trans Z0 E5.1
  have O := O.ext E5
  have E_ra := E_ra.ext E5
  have E_rb := E_rb.ext E5
  have E_rc := E_rc.ext E5
  have E_rv := E_rv.ext E5
  refine own_st st5 ?_
  have E_b5 := A5
  have F_elements_b5 : Fld Z h5 b5 "com/example/listwright/listwright/ArrayStorage" "elements" "[Ljava/lang/Object;" .null := D5 (Or.inl (hw _ (List.mem_of_getElem? (i := 25) rfl))) (ty := (.array (.object "java/lang/Object"))) (by decide)
  have F_size_b5 : Fld Z h5 b5 "com/example/listwright/listwright/ArrayStorage" "size" "I" (.int (0 : Int32)) := D5 (Or.inl (hw _ (List.mem_of_getElem? (i := 36) rfl))) (ty := .int) (by decide)
  show Fin1 p e below s (rm0Q Z i0 i1 i2 i3 i4 i5 h0 n0) room_1.cells room_1.slots (T5.setTop (mkF m 48 #[.val (.int i0), .val (.int i1), .val (.int i2), .val (.int i3), .val (.int i4), .val (.int i5), .val (.int k6), .val (.int k7), .val (.ref ra), .val (.ref rb), .val (.ref rc), .val (.ref rv), .unset, .unset, .unset] [(.ref b5)]))
  refine own_st (fun wt wk => XS.dup X5.here hx rfl (hb hby at_48) rfl rfl wk) ?_
  show Fin1 p e below s (rm0Q Z i0 i1 i2 i3 i4 i5 h0 n0) room_1.cells room_1.slots (T5.setTop (mkF m 49 #[.val (.int i0), .val (.int i1), .val (.int i2), .val (.int i3), .val (.int i4), .val (.int i5), .val (.int k6), .val (.int k7), .val (.ref ra), .val (.ref rb), .val (.ref rc), .val (.ref rv), .unset, .unset, .unset] [(.ref b5), (.ref b5)]))
  obtain ⟨v6, T6, h6, L6, X6, e6, hQ6, st6⟩ := own_special X5 hx hZ hown rfl (hw _ (List.mem_of_getElem? (i := 11) rfl)) (hw _ (List.mem_of_getElem? (i := 12) rfl)) (hw _ (List.mem_of_getElem? (i := 13) rfl)) (hw _ (List.mem_of_getElem? (i := 10) rfl)) (by decide) (a := b5) (rmC l Z a0 hw b5 h5 n0 Z0 g_b5 E_b5 F_elements_b5 F_size_b5) e5 (g := (mkF m 49 #[.val (.int i0), .val (.int i1), .val (.int i2), .val (.int i3), .val (.int i4), .val (.int i5), .val (.int k6), .val (.int k7), .val (.ref ra), .val (.ref rb), .val (.ref rc), .val (.ref rv), .unset, .unset, .unset] [(.ref b5), (.ref b5)])) rfl (by rw [hml]; rfl) (argsL := []) (rest := [(.ref b5)]) (lenOf pd_2 rfl) rfl (W := 1) (by show 2 * 0 + _ ≤ _; exact Nat.le_of_eq rfl) (hb hby at_49) (by decide) (by decide) (by decide) (by decide)
  obtain ⟨rfl, N6q, t, kt, szt, K6, Fe, Fs, V_t, hov⟩ := hQ6
  have N6 := Fr.app N4 N6q
  have ne_ra_t : ra ≠ t := Nat.ne_of_lt (Nat.lt_of_lt_of_le E_ra.lt szt)
  have ne_rb_t : rb ≠ t := Nat.ne_of_lt (Nat.lt_of_lt_of_le E_rb.lt szt)
  have ne_rc_t : rc ≠ t := Nat.ne_of_lt (Nat.lt_of_lt_of_le E_rc.lt szt)
  have ne_rv_t : rv ≠ t := Nat.ne_of_lt (Nat.lt_of_lt_of_le E_rv.lt szt)
  have ne_b5_t : b5 ≠ t := Nat.ne_of_lt (Nat.lt_of_lt_of_le E_b5.lt szt)
  have g_t : n0 ≤ t := Nat.le_trans Z0 szt
  have Z0 := Nat.le_trans Z0 K6.1
  have O := O.keep K6 (allS (P := fun x => n0 ≤ x) g_b5 all0)
  have E_ra := E_ra.keep K6
  have E_rb := E_rb.keep K6
  have E_rc := E_rc.keep K6
  have E_rv := E_rv.keep K6
  have E_b5 := E_b5.keep K6
  refine own_st st6 ?_
  show Fin1 p e below s (rm0Q Z i0 i1 i2 i3 i4 i5 h0 n0) room_1.cells room_1.slots (T6.setTop (mkF m 52 #[.val (.int i0), .val (.int i1), .val (.int i2), .val (.int i3), .val (.int i4), .val (.int i5), .val (.int k6), .val (.int k7), .val (.ref ra), .val (.ref rb), .val (.ref rc), .val (.ref rv), .unset, .unset, .unset] [(.ref b5)]))
  refine own_st (fun wt wk => XS.astore X6.here hx rfl (hb hby at_52) rfl rfl (l' := #[.val (.int i0), .val (.int i1), .val (.int i2), .val (.int i3), .val (.int i4), .val (.int i5), .val (.int k6), .val (.int k7), .val (.ref ra), .val (.ref rb), .val (.ref rc), .val (.ref rv), .val (.ref b5), .unset, .unset]) rfl wk) ?_
  show Fin1 p e below s (rm0Q Z i0 i1 i2 i3 i4 i5 h0 n0) room_1.cells room_1.slots (T6.setTop (mkF m 54 #[.val (.int i0), .val (.int i1), .val (.int i2), .val (.int i3), .val (.int i4), .val (.int i5), .val (.int k6), .val (.int k7), .val (.ref ra), .val (.ref rb), .val (.ref rc), .val (.ref rv), .val (.ref b5), .unset, .unset] []))
  refine own_st (fun wt wk => XS.aload X6.here hx rfl (hb hby at_54) rfl rfl wk) ?_
  show Fin1 p e below s (rm0Q Z i0 i1 i2 i3 i4 i5 h0 n0) room_1.cells room_1.slots (T6.setTop (mkF m 56 #[.val (.int i0), .val (.int i1), .val (.int i2), .val (.int i3), .val (.int i4), .val (.int i5), .val (.int k6), .val (.int k7), .val (.ref ra), .val (.ref rb), .val (.ref rc), .val (.ref rv), .val (.ref b5), .unset, .unset] [(.ref b5)]))
  refine own_st (fun wt wk => XS.iconst X6.here hx rfl (hb hby at_56) wk) ?_
  show Fin1 p e below s (rm0Q Z i0 i1 i2 i3 i4 i5 h0 n0) room_1.cells room_1.slots (T6.setTop (mkF m 57 #[.val (.int i0), .val (.int i1), .val (.int i2), .val (.int i3), .val (.int i4), .val (.int i5), .val (.int k6), .val (.int k7), .val (.ref ra), .val (.ref rb), .val (.ref rc), .val (.ref rv), .val (.ref b5), .unset, .unset] [(.int (0 : Int32)), (.ref b5)]))
  refine own_st (fun wt wk => XS.aload X6.here hx rfl (hb hby at_57) rfl rfl wk) ?_
  show Fin1 p e below s (rm0Q Z i0 i1 i2 i3 i4 i5 h0 n0) room_1.cells room_1.slots (T6.setTop (mkF m 59 #[.val (.int i0), .val (.int i1), .val (.int i2), .val (.int i3), .val (.int i4), .val (.int i5), .val (.int k6), .val (.int k7), .val (.ref ra), .val (.ref rb), .val (.ref rc), .val (.ref rv), .val (.ref b5), .unset, .unset] [(.ref ra), (.int (0 : Int32)), (.ref b5)]))
  obtain ⟨v7, T7, h7, L7, X7, e7, hQ7, st7⟩ := own_virtual X6 hx hZ hown (hw _ (List.mem_of_getElem? (i := 26) rfl)) (hw _ (List.mem_of_getElem? (i := 27) rfl)) (hw _ (List.mem_of_getElem? (i := 29) rfl)) (hw _ (List.mem_of_getElem? (i := 28) rfl)) (hw _ (List.mem_of_getElem? (i := 30) rfl)) (hw _ (List.mem_of_getElem? (i := 10) rfl)) (by decide) (a := b5) E_b5 (rmI0 l Z a0 hw b5 ra t kt  h6 n0 Z0 g_b5 g_t E_b5 E_ra Fe Fs V_t hov ne_b5_t) e6 (g := (mkF m 59 #[.val (.int i0), .val (.int i1), .val (.int i2), .val (.int i3), .val (.int i4), .val (.int i5), .val (.int k6), .val (.int k7), .val (.ref ra), .val (.ref rb), .val (.ref rc), .val (.ref rv), .val (.ref b5), .unset, .unset] [(.ref ra), (.int (0 : Int32)), (.ref b5)])) rfl (by rw [hml]; rfl) (argsL := [(.int (0 : Int32)), (.ref ra)]) (rest := []) (lenOf pd_9 rfl) rfl (W := 0) (by show 2 * 0 + _ ≤ _; exact Nat.le_of_eq rfl) (hb hby at_59) (by decide) (by decide) (by decide) (by decide)
  obtain ⟨rfl, N7q, K7, Fe, Fs, V_t⟩ := hQ7
  have N7 := Fr.app N6 N7q
  have Z0 := Nat.le_trans Z0 K7.1
  have O := O.keep K7 (allS (P := fun x => n0 ≤ x) g_b5 (allS (P := fun x => n0 ≤ x) g_t all0))
  have E_ra := E_ra.keep K7
  have E_rb := E_rb.keep K7
  have E_rc := E_rc.keep K7
  have E_rv := E_rv.keep K7
  have E_b5 := E_b5.keep K7
  refine own_st st7 ?_
  show Fin1 p e below s (rm0Q Z i0 i1 i2 i3 i4 i5 h0 n0) room_1.cells room_1.slots (T7.setTop (mkF m 62 #[.val (.int i0), .val (.int i1), .val (.int i2), .val (.int i3), .val (.int i4), .val (.int i5), .val (.int k6), .val (.int k7), .val (.ref ra), .val (.ref rb), .val (.ref rc), .val (.ref rv), .val (.ref b5), .unset, .unset] []))
  refine own_st (fun wt wk => XS.iload X7.here hx rfl (hb hby at_62) rfl wk) ?_
  show Fin1 p e below s (rm0Q Z i0 i1 i2 i3 i4 i5 h0 n0) room_1.cells room_1.slots (T7.setTop (mkF m 64 #[.val (.int i0), .val (.int i1), .val (.int i2), .val (.int i3), .val (.int i4), .val (.int i5), .val (.int k6), .val (.int k7), .val (.ref ra), .val (.ref rb), .val (.ref rc), .val (.ref rv), .val (.ref b5), .unset, .unset] [(.int k6)]))
  refine own_st (fun wt wk => XS.iconst X7.here hx rfl (hb hby at_64) wk) ?_
  show Fin1 p e below s (rm0Q Z i0 i1 i2 i3 i4 i5 h0 n0) room_1.cells room_1.slots (T7.setTop (mkF m 65 #[.val (.int i0), .val (.int i1), .val (.int i2), .val (.int i3), .val (.int i4), .val (.int i5), .val (.int k6), .val (.int k7), .val (.ref ra), .val (.ref rb), .val (.ref rc), .val (.ref rv), .val (.ref b5), .unset, .unset] [(.int (1 : Int32)), (.int k6)]))
  rcases hk with ⟨rfl, rfl⟩ | ⟨rfl, rfl⟩ | ⟨rfl, rfl⟩ | ⟨rfl, rfl⟩ | ⟨rfl, rfl⟩ | ⟨rfl, rfl⟩
  · show Fin1 p e below s (rm0Q Z i0 i1 i2 i3 i4 i5 h0 n0) room_1.cells room_1.slots (T7.setTop (mkF m 65 #[.val (.int i0), .val (.int i1), .val (.int i2), .val (.int i3), .val (.int i4), .val (.int i5), .val (.int (1 : Int32)), .val (.int (0 : Int32)), .val (.ref ra), .val (.ref rb), .val (.ref rc), .val (.ref rv), .val (.ref b5), .unset, .unset] [(.int (1 : Int32)), (.int (1 : Int32))]))
    refine own_st (fun wt wk => XS.icmpYes X7.here hx rfl (pc0 := 65) (pc' := 76) rfl (hb hby at_65) rfl (flt (by decide)).2.2.2 (by decide) (by decide) wk) ?_
    show Fin1 p e below s (rm0Q Z i0 i1 i2 i3 i4 i5 h0 n0) room_1.cells room_1.slots (T7.setTop (mkF m 76 #[.val (.int i0), .val (.int i1), .val (.int i2), .val (.int i3), .val (.int i4), .val (.int i5), .val (.int (1 : Int32)), .val (.int (0 : Int32)), .val (.ref ra), .val (.ref rb), .val (.ref rc), .val (.ref rv), .val (.ref b5), .unset, .unset] []))
    refine own_st (fun wt wk => XS.iload X7.here hx rfl (hb hby at_76) rfl wk) ?_
    show Fin1 p e below s (rm0Q Z i0 i1 i2 i3 i4 i5 h0 n0) room_1.cells room_1.slots (T7.setTop (mkF m 78 #[.val (.int i0), .val (.int i1), .val (.int i2), .val (.int i3), .val (.int i4), .val (.int i5), .val (.int (1 : Int32)), .val (.int (0 : Int32)), .val (.ref ra), .val (.ref rb), .val (.ref rc), .val (.ref rv), .val (.ref b5), .unset, .unset] [(.int (1 : Int32))]))
    refine own_st (fun wt wk => XS.iconst X7.here hx rfl (hb hby at_78) wk) ?_
    show Fin1 p e below s (rm0Q Z i0 i1 i2 i3 i4 i5 h0 n0) room_1.cells room_1.slots (T7.setTop (mkF m 79 #[.val (.int i0), .val (.int i1), .val (.int i2), .val (.int i3), .val (.int i4), .val (.int i5), .val (.int (1 : Int32)), .val (.int (0 : Int32)), .val (.ref ra), .val (.ref rb), .val (.ref rc), .val (.ref rv), .val (.ref b5), .unset, .unset] [(.int (2 : Int32)), (.int (1 : Int32))]))
    refine own_st (fun wt wk => XS.icmpYes X7.here hx rfl (pc0 := 79) (pc' := 90) rfl (hb hby at_79) rfl (flt (by decide)).2.2.2 (by decide) (by decide) wk) ?_
    show Fin1 p e below s (rm0Q Z i0 i1 i2 i3 i4 i5 h0 n0) room_1.cells room_1.slots (T7.setTop (mkF m 90 #[.val (.int i0), .val (.int i1), .val (.int i2), .val (.int i3), .val (.int i4), .val (.int i5), .val (.int (1 : Int32)), .val (.int (0 : Int32)), .val (.ref ra), .val (.ref rb), .val (.ref rc), .val (.ref rv), .val (.ref b5), .unset, .unset] []))
    refine own_st (fun wt wk => XS.iload X7.here hx rfl (hb hby at_90) rfl wk) ?_
    show Fin1 p e below s (rm0Q Z i0 i1 i2 i3 i4 i5 h0 n0) room_1.cells room_1.slots (T7.setTop (mkF m 92 #[.val (.int i0), .val (.int i1), .val (.int i2), .val (.int i3), .val (.int i4), .val (.int i5), .val (.int (1 : Int32)), .val (.int (0 : Int32)), .val (.ref ra), .val (.ref rb), .val (.ref rc), .val (.ref rv), .val (.ref b5), .unset, .unset] [(.int (0 : Int32))]))
    refine own_st (fun wt wk => XS.ifNo X7.here hx rfl (hb hby at_92) rfl ((if0 _ _).trans (teq (by decide)).2) wk) ?_
    show Fin1 p e below s (rm0Q Z i0 i1 i2 i3 i4 i5 h0 n0) room_1.cells room_1.slots (T7.setTop (mkF m 95 #[.val (.int i0), .val (.int i1), .val (.int i2), .val (.int i3), .val (.int i4), .val (.int i5), .val (.int (1 : Int32)), .val (.int (0 : Int32)), .val (.ref ra), .val (.ref rb), .val (.ref rc), .val (.ref rv), .val (.ref b5), .unset, .unset] []))
    refine own_st (fun wt wk => XS.aload X7.here hx rfl (hb hby at_95) rfl rfl wk) ?_
    show Fin1 p e below s (rm0Q Z i0 i1 i2 i3 i4 i5 h0 n0) room_1.cells room_1.slots (T7.setTop (mkF m 97 #[.val (.int i0), .val (.int i1), .val (.int i2), .val (.int i3), .val (.int i4), .val (.int i5), .val (.int (1 : Int32)), .val (.int (0 : Int32)), .val (.ref ra), .val (.ref rb), .val (.ref rc), .val (.ref rv), .val (.ref b5), .unset, .unset] [(.ref ra)]))
    refine own_st (fun wt wk => XS.goto X7.here hx rfl (pc0 := 97) (pc' := 113) rfl (hb hby at_97) (by decide) (by decide) wk) ?_
    show Fin1 p e below s (rm0Q Z i0 i1 i2 i3 i4 i5 h0 n0) room_1.cells room_1.slots (T7.setTop (mkF m 113 #[.val (.int i0), .val (.int i1), .val (.int i2), .val (.int i3), .val (.int i4), .val (.int i5), .val (.int (1 : Int32)), .val (.int (0 : Int32)), .val (.ref ra), .val (.ref rb), .val (.ref rc), .val (.ref rv), .val (.ref b5), .unset, .unset] [(.ref ra)]))
    refine own_st (fun wt wk => XS.astore X7.here hx rfl (hb hby at_113) rfl rfl (l' := #[.val (.int i0), .val (.int i1), .val (.int i2), .val (.int i3), .val (.int i4), .val (.int i5), .val (.int (1 : Int32)), .val (.int (0 : Int32)), .val (.ref ra), .val (.ref rb), .val (.ref rc), .val (.ref rv), .val (.ref b5), .val (.ref ra), .unset]) rfl wk) ?_
    show Fin1 p e below s (rm0Q Z i0 i1 i2 i3 i4 i5 h0 n0) room_1.cells room_1.slots (T7.setTop (mkF m 115 #[.val (.int i0), .val (.int i1), .val (.int i2), .val (.int i3), .val (.int i4), .val (.int i5), .val (.int (1 : Int32)), .val (.int (0 : Int32)), .val (.ref ra), .val (.ref rb), .val (.ref rc), .val (.ref rv), .val (.ref b5), .val (.ref ra), .unset] []))
    refine own_st (fun wt wk => XS.aload X7.here hx rfl (hb hby at_115) rfl rfl wk) ?_
    show Fin1 p e below s (rm0Q Z i0 i1 i2 i3 i4 i5 h0 n0) room_1.cells room_1.slots (T7.setTop (mkF m 117 #[.val (.int i0), .val (.int i1), .val (.int i2), .val (.int i3), .val (.int i4), .val (.int i5), .val (.int (1 : Int32)), .val (.int (0 : Int32)), .val (.ref ra), .val (.ref rb), .val (.ref rc), .val (.ref rv), .val (.ref b5), .val (.ref ra), .unset] [(.ref b5)]))
    refine own_st (fun wt wk => XS.iload X7.here hx rfl (hb hby at_117) rfl wk) ?_
    show Fin1 p e below s (rm0Q Z i0 i1 i2 i3 i4 i5 h0 n0) room_1.cells room_1.slots (T7.setTop (mkF m 119 #[.val (.int i0), .val (.int i1), .val (.int i2), .val (.int i3), .val (.int i4), .val (.int i5), .val (.int (1 : Int32)), .val (.int (0 : Int32)), .val (.ref ra), .val (.ref rb), .val (.ref rc), .val (.ref rv), .val (.ref b5), .val (.ref ra), .unset] [(.int (0 : Int32)), (.ref b5)]))
    refine own_st (fun wt wk => XS.aload X7.here hx rfl (hb hby at_119) rfl rfl wk) ?_
    show Fin1 p e below s (rm0Q Z i0 i1 i2 i3 i4 i5 h0 n0) room_1.cells room_1.slots (T7.setTop (mkF m 121 #[.val (.int i0), .val (.int i1), .val (.int i2), .val (.int i3), .val (.int i4), .val (.int i5), .val (.int (1 : Int32)), .val (.int (0 : Int32)), .val (.ref ra), .val (.ref rb), .val (.ref rc), .val (.ref rv), .val (.ref b5), .val (.ref ra), .unset] [(.ref rv), (.int (0 : Int32)), (.ref b5)]))
    obtain ⟨v8, T8, h8, L8, X8, e8, hQ8, st8⟩ := own_virtual X7 hx hZ hown (hw _ (List.mem_of_getElem? (i := 42) rfl)) (hw _ (List.mem_of_getElem? (i := 43) rfl)) (hw _ (List.mem_of_getElem? (i := 45) rfl)) (hw _ (List.mem_of_getElem? (i := 44) rfl)) (hw _ (List.mem_of_getElem? (i := 46) rfl)) (hw _ (List.mem_of_getElem? (i := 10) rfl)) (by decide) (a := b5) E_b5 (rmT l Z a0 hw b5 (0 : Int32) rv t kt [(.ref ra), .null, .null, .null, .null, .null, .null, .null, .null, .null] 0 ra h7 n0 Z0 g_t E_b5 E_rv Fe V_t hov ne_b5_t (by decide) rfl rfl (by simp)) e7 (g := (mkF m 121 #[.val (.int i0), .val (.int i1), .val (.int i2), .val (.int i3), .val (.int i4), .val (.int i5), .val (.int (1 : Int32)), .val (.int (0 : Int32)), .val (.ref ra), .val (.ref rb), .val (.ref rc), .val (.ref rv), .val (.ref b5), .val (.ref ra), .unset] [(.ref rv), (.int (0 : Int32)), (.ref b5)])) rfl (by rw [hml]; rfl) (argsL := [(.int (0 : Int32)), (.ref rv)]) (rest := []) (lenOf pd_10 rfl) rfl (W := 0) (by show 2 * 0 + _ ≤ _; exact Nat.le_of_eq rfl) (hb hby at_121) (by decide) (by decide) (by decide) (by decide)
    obtain ⟨rfl, N8q, K8, V_t⟩ := hQ8
    have N8 := Fr.app N7 N8q
    have Z0 := Nat.le_trans Z0 K8.1
    have O := O.keep K8 (allS (P := fun x => n0 ≤ x) g_t all0)
    have E_ra := E_ra.keep K8
    have E_rb := E_rb.keep K8
    have E_rc := E_rc.keep K8
    have E_rv := E_rv.keep K8
    have E_b5 := E_b5.keep K8
    have Fe := Fe.keep K8 (ninS ne_b5_t nin0)
    have Fs := Fs.keep K8 (ninS ne_b5_t nin0)
    refine own_st st8 ?_
    show Fin1 p e below s (rm0Q Z i0 i1 i2 i3 i4 i5 h0 n0) room_1.cells room_1.slots (T8.setTop (mkF m 124 #[.val (.int i0), .val (.int i1), .val (.int i2), .val (.int i3), .val (.int i4), .val (.int i5), .val (.int (1 : Int32)), .val (.int (0 : Int32)), .val (.ref ra), .val (.ref rb), .val (.ref rc), .val (.ref rv), .val (.ref b5), .val (.ref ra), .unset] [(.ref ra)]))
    obtain ⟨T9, X9, e9, st9⟩ := castY X8 hx hZ hown (hw _ (List.mem_of_getElem? (i := 52) rfl)) e8 (Ins.self E_ra) (g := (mkF m 124 #[.val (.int i0), .val (.int i1), .val (.int i2), .val (.int i3), .val (.int i4), .val (.int i5), .val (.int (1 : Int32)), .val (.int (0 : Int32)), .val (.ref ra), .val (.ref rb), .val (.ref rc), .val (.ref rv), .val (.ref b5), .val (.ref ra), .unset] [(.ref ra)])) rfl rfl (hb hby at_124)
    refine own_st st9 ?_
    show Fin1 p e below s (rm0Q Z i0 i1 i2 i3 i4 i5 h0 n0) room_1.cells room_1.slots (T9.setTop (mkF m 127 #[.val (.int i0), .val (.int i1), .val (.int i2), .val (.int i3), .val (.int i4), .val (.int i5), .val (.int (1 : Int32)), .val (.int (0 : Int32)), .val (.ref ra), .val (.ref rb), .val (.ref rc), .val (.ref rv), .val (.ref b5), .val (.ref ra), .unset] [(.ref ra)]))
    refine own_st (fun wt wk => XS.astore X9.here hx rfl (hb hby at_127) rfl rfl (l' := #[.val (.int i0), .val (.int i1), .val (.int i2), .val (.int i3), .val (.int i4), .val (.int i5), .val (.int (1 : Int32)), .val (.int (0 : Int32)), .val (.ref ra), .val (.ref rb), .val (.ref rc), .val (.ref rv), .val (.ref b5), .val (.ref ra), .val (.ref ra)]) rfl wk) ?_
    show Fin1 p e below s (rm0Q Z i0 i1 i2 i3 i4 i5 h0 n0) room_1.cells room_1.slots (T9.setTop (mkF m 129 #[.val (.int i0), .val (.int i1), .val (.int i2), .val (.int i3), .val (.int i4), .val (.int i5), .val (.int (1 : Int32)), .val (.int (0 : Int32)), .val (.ref ra), .val (.ref rb), .val (.ref rc), .val (.ref rv), .val (.ref b5), .val (.ref ra), .val (.ref ra)] []))
    refine own_st (fun wt wk => XS.aload X9.here hx rfl (hb hby at_129) rfl rfl wk) ?_
    show Fin1 p e below s (rm0Q Z i0 i1 i2 i3 i4 i5 h0 n0) room_1.cells room_1.slots (T9.setTop (mkF m 131 #[.val (.int i0), .val (.int i1), .val (.int i2), .val (.int i3), .val (.int i4), .val (.int i5), .val (.int (1 : Int32)), .val (.int (0 : Int32)), .val (.ref ra), .val (.ref rb), .val (.ref rc), .val (.ref rv), .val (.ref b5), .val (.ref ra), .val (.ref ra)] [(.ref ra)]))
    refine own_st (fun wt wk => XS.aload X9.here hx rfl (hb hby at_131) rfl rfl wk) ?_
    show Fin1 p e below s (rm0Q Z i0 i1 i2 i3 i4 i5 h0 n0) room_1.cells room_1.slots (T9.setTop (mkF m 133 #[.val (.int i0), .val (.int i1), .val (.int i2), .val (.int i3), .val (.int i4), .val (.int i5), .val (.int (1 : Int32)), .val (.int (0 : Int32)), .val (.ref ra), .val (.ref rb), .val (.ref rc), .val (.ref rv), .val (.ref b5), .val (.ref ra), .val (.ref ra)] [(.ref ra), (.ref ra)]))
    refine own_st (fun wt wk => Jvm.RoadKit.acmp (g := (mkF m 133 #[.val (.int i0), .val (.int i1), .val (.int i2), .val (.int i3), .val (.int i4), .val (.int i5), .val (.int (1 : Int32)), .val (.int (0 : Int32)), .val (.ref ra), .val (.ref rb), .val (.ref rc), .val (.ref rv), .val (.ref b5), .val (.ref ra), .val (.ref ra)] [(.ref ra), (.ref ra)])) X9 hx rfl rfl rfl (pc0 := 133) (pc' := 138) (same := true) rfl (hb hby at_133) rfl (decide_eq_true rfl) (by decide) (by decide) wk) ?_
    show Fin1 p e below s (rm0Q Z i0 i1 i2 i3 i4 i5 h0 n0) room_1.cells room_1.slots (T9.setTop (mkF m 138 #[.val (.int i0), .val (.int i1), .val (.int i2), .val (.int i3), .val (.int i4), .val (.int i5), .val (.int (1 : Int32)), .val (.int (0 : Int32)), .val (.ref ra), .val (.ref rb), .val (.ref rc), .val (.ref rv), .val (.ref b5), .val (.ref ra), .val (.ref ra)] []))
    refine own_st (fun wt wk => XS.aload X9.here hx rfl (hb hby at_138) rfl rfl wk) ?_
    show Fin1 p e below s (rm0Q Z i0 i1 i2 i3 i4 i5 h0 n0) room_1.cells room_1.slots (T9.setTop (mkF m 140 #[.val (.int i0), .val (.int i1), .val (.int i2), .val (.int i3), .val (.int i4), .val (.int i5), .val (.int (1 : Int32)), .val (.int (0 : Int32)), .val (.ref ra), .val (.ref rb), .val (.ref rc), .val (.ref rv), .val (.ref b5), .val (.ref ra), .val (.ref ra)] [(.ref b5)]))
    obtain ⟨v10, T10, h10, L10, X10, e10, hQ10, st10⟩ := own_virtual X9 hx hZ hown (hw _ (List.mem_of_getElem? (i := 54) rfl)) (hw _ (List.mem_of_getElem? (i := 55) rfl)) (hw _ (List.mem_of_getElem? (i := 57) rfl)) (hw _ (List.mem_of_getElem? (i := 56) rfl)) (hw _ (List.mem_of_getElem? (i := 58) rfl)) (hw _ (List.mem_of_getElem? (i := 10) rfl)) (by decide) (a := b5) E_b5 (rmZ l Z a0 hw b5 (1 : Int32) h8 n0 Z0 Fs) e9 (g := (mkF m 140 #[.val (.int i0), .val (.int i1), .val (.int i2), .val (.int i3), .val (.int i4), .val (.int i5), .val (.int (1 : Int32)), .val (.int (0 : Int32)), .val (.ref ra), .val (.ref rb), .val (.ref rc), .val (.ref rv), .val (.ref b5), .val (.ref ra), .val (.ref ra)] [(.ref b5)])) rfl (by rw [hml]; rfl) (argsL := []) (rest := []) (lenOf pd_11 rfl) rfl (W := 0) (by show 2 * 0 + _ ≤ _; exact Nat.le_of_eq rfl) (hb hby at_140) (by decide) (by decide) (by decide) (by decide)
    obtain ⟨rfl, N10q, hh10⟩ := hQ10
    have N10 := Fr.app N8 N10q
    rw [hh10] at e10
    refine own_st st10 ?_
    show Fin1 p e below s (rm0Q Z i0 i1 i2 i3 i4 i5 h0 n0) room_1.cells room_1.slots (T10.setTop (mkF m 143 #[.val (.int i0), .val (.int i1), .val (.int i2), .val (.int i3), .val (.int i4), .val (.int i5), .val (.int (1 : Int32)), .val (.int (0 : Int32)), .val (.ref ra), .val (.ref rb), .val (.ref rc), .val (.ref rv), .val (.ref b5), .val (.ref ra), .val (.ref ra)] [(.int (1 : Int32))]))
    refine own_st (fun wt wk => XS.iload X10.here hx rfl (hb hby at_143) rfl wk) ?_
    show Fin1 p e below s (rm0Q Z i0 i1 i2 i3 i4 i5 h0 n0) room_1.cells room_1.slots (T10.setTop (mkF m 145 #[.val (.int i0), .val (.int i1), .val (.int i2), .val (.int i3), .val (.int i4), .val (.int i5), .val (.int (1 : Int32)), .val (.int (0 : Int32)), .val (.ref ra), .val (.ref rb), .val (.ref rc), .val (.ref rv), .val (.ref b5), .val (.ref ra), .val (.ref ra)] [(.int (1 : Int32)), (.int (1 : Int32))]))
    refine own_st (fun wt wk => XS.icmpYes X10.here hx rfl (pc0 := 145) (pc' := 150) rfl (hb hby at_145) rfl (teq (by decide)).1 (by decide) (by decide) wk) ?_
    show Fin1 p e below s (rm0Q Z i0 i1 i2 i3 i4 i5 h0 n0) room_1.cells room_1.slots (T10.setTop (mkF m 150 #[.val (.int i0), .val (.int i1), .val (.int i2), .val (.int i3), .val (.int i4), .val (.int i5), .val (.int (1 : Int32)), .val (.int (0 : Int32)), .val (.ref ra), .val (.ref rb), .val (.ref rc), .val (.ref rv), .val (.ref b5), .val (.ref ra), .val (.ref ra)] []))
    refine own_st (fun wt wk => XS.aload X10.here hx rfl (hb hby at_150) rfl rfl wk) ?_
    show Fin1 p e below s (rm0Q Z i0 i1 i2 i3 i4 i5 h0 n0) room_1.cells room_1.slots (T10.setTop (mkF m 152 #[.val (.int i0), .val (.int i1), .val (.int i2), .val (.int i3), .val (.int i4), .val (.int i5), .val (.int (1 : Int32)), .val (.int (0 : Int32)), .val (.ref ra), .val (.ref rb), .val (.ref rc), .val (.ref rv), .val (.ref b5), .val (.ref ra), .val (.ref ra)] [(.ref b5)]))
    refine own_st (fun wt wk => XS.iconst X10.here hx rfl (hb hby at_152) wk) ?_
    show Fin1 p e below s (rm0Q Z i0 i1 i2 i3 i4 i5 h0 n0) room_1.cells room_1.slots (T10.setTop (mkF m 153 #[.val (.int i0), .val (.int i1), .val (.int i2), .val (.int i3), .val (.int i4), .val (.int i5), .val (.int (1 : Int32)), .val (.int (0 : Int32)), .val (.ref ra), .val (.ref rb), .val (.ref rc), .val (.ref rv), .val (.ref b5), .val (.ref ra), .val (.ref ra)] [(.int (0 : Int32)), (.ref b5)]))
    obtain ⟨v11, T11, h11, L11, X11, e11, hQ11, st11⟩ := own_virtual X10 hx hZ hown (hw _ (List.mem_of_getElem? (i := 59) rfl)) (hw _ (List.mem_of_getElem? (i := 48) rfl)) (hw _ (List.mem_of_getElem? (i := 50) rfl)) (hw _ (List.mem_of_getElem? (i := 49) rfl)) (hw _ (List.mem_of_getElem? (i := 51) rfl)) (hw _ (List.mem_of_getElem? (i := 10) rfl)) (by decide) (a := b5) E_b5 (rmG l Z a0 hw b5 (0 : Int32) t kt [(.ref rv), .null, .null, .null, .null, .null, .null, .null, .null, .null] (.ref rv) h8 n0 Z0 Fe V_t (by decide) rfl (Or.inr ⟨_, rfl⟩)) e10 (g := (mkF m 153 #[.val (.int i0), .val (.int i1), .val (.int i2), .val (.int i3), .val (.int i4), .val (.int i5), .val (.int (1 : Int32)), .val (.int (0 : Int32)), .val (.ref ra), .val (.ref rb), .val (.ref rc), .val (.ref rv), .val (.ref b5), .val (.ref ra), .val (.ref ra)] [(.int (0 : Int32)), (.ref b5)])) rfl (by rw [hml]; rfl) (argsL := [(.int (0 : Int32))]) (rest := []) (lenOf pd_6 rfl) rfl (W := 0) (by show 2 * 0 + _ ≤ _; exact Nat.le_of_eq rfl) (hb hby at_153) (by decide) (by decide) (by decide) (by decide)
    obtain ⟨rfl, N11q, hh11⟩ := hQ11
    have N11 := Fr.app N10 N11q
    rw [hh11] at e11
    refine own_st st11 ?_
    show Fin1 p e below s (rm0Q Z i0 i1 i2 i3 i4 i5 h0 n0) room_1.cells room_1.slots (T11.setTop (mkF m 156 #[.val (.int i0), .val (.int i1), .val (.int i2), .val (.int i3), .val (.int i4), .val (.int i5), .val (.int (1 : Int32)), .val (.int (0 : Int32)), .val (.ref ra), .val (.ref rb), .val (.ref rc), .val (.ref rv), .val (.ref b5), .val (.ref ra), .val (.ref ra)] [(.ref rv)]))
    refine own_st (fun wt wk => XS.iconst X11.here hx rfl (hb hby at_156) wk) ?_
    show Fin1 p e below s (rm0Q Z i0 i1 i2 i3 i4 i5 h0 n0) room_1.cells room_1.slots (T11.setTop (mkF m 157 #[.val (.int i0), .val (.int i1), .val (.int i2), .val (.int i3), .val (.int i4), .val (.int i5), .val (.int (1 : Int32)), .val (.int (0 : Int32)), .val (.ref ra), .val (.ref rb), .val (.ref rc), .val (.ref rv), .val (.ref b5), .val (.ref ra), .val (.ref ra)] [(.int (0 : Int32)), (.ref rv)]))
    refine own_st (fun wt wk => XS.iload X11.here hx rfl (hb hby at_157) rfl wk) ?_
    show Fin1 p e below s (rm0Q Z i0 i1 i2 i3 i4 i5 h0 n0) room_1.cells room_1.slots (T11.setTop (mkF m 159 #[.val (.int i0), .val (.int i1), .val (.int i2), .val (.int i3), .val (.int i4), .val (.int i5), .val (.int (1 : Int32)), .val (.int (0 : Int32)), .val (.ref ra), .val (.ref rb), .val (.ref rc), .val (.ref rv), .val (.ref b5), .val (.ref ra), .val (.ref ra)] [(.int (0 : Int32)), (.int (0 : Int32)), (.ref rv)]))
    refine own_st (fun wt wk => XS.aload X11.here hx rfl (hb hby at_159) rfl rfl wk) ?_
    show Fin1 p e below s (rm0Q Z i0 i1 i2 i3 i4 i5 h0 n0) room_1.cells room_1.slots (T11.setTop (mkF m 161 #[.val (.int i0), .val (.int i1), .val (.int i2), .val (.int i3), .val (.int i4), .val (.int i5), .val (.int (1 : Int32)), .val (.int (0 : Int32)), .val (.ref ra), .val (.ref rb), .val (.ref rc), .val (.ref rv), .val (.ref b5), .val (.ref ra), .val (.ref ra)] [(.ref rv), (.int (0 : Int32)), (.int (0 : Int32)), (.ref rv)]))
    refine own_st (fun wt wk => XS.aload X11.here hx rfl (hb hby at_161) rfl rfl wk) ?_
    show Fin1 p e below s (rm0Q Z i0 i1 i2 i3 i4 i5 h0 n0) room_1.cells room_1.slots (T11.setTop (mkF m 163 #[.val (.int i0), .val (.int i1), .val (.int i2), .val (.int i3), .val (.int i4), .val (.int i5), .val (.int (1 : Int32)), .val (.int (0 : Int32)), .val (.ref ra), .val (.ref rb), .val (.ref rc), .val (.ref rv), .val (.ref b5), .val (.ref ra), .val (.ref ra)] [(.ref ra), (.ref rv), (.int (0 : Int32)), (.int (0 : Int32)), (.ref rv)]))
    refine own_st (fun wt wk => XS.aload X11.here hx rfl (hb hby at_163) rfl rfl wk) ?_
    show Fin1 p e below s (rm0Q Z i0 i1 i2 i3 i4 i5 h0 n0) room_1.cells room_1.slots (T11.setTop (mkF m 165 #[.val (.int i0), .val (.int i1), .val (.int i2), .val (.int i3), .val (.int i4), .val (.int i5), .val (.int (1 : Int32)), .val (.int (0 : Int32)), .val (.ref ra), .val (.ref rb), .val (.ref rc), .val (.ref rv), .val (.ref b5), .val (.ref ra), .val (.ref ra)] [(.ref rb), (.ref ra), (.ref rv), (.int (0 : Int32)), (.int (0 : Int32)), (.ref rv)]))
    refine own_st (fun wt wk => XS.aload X11.here hx rfl (hb hby at_165) rfl rfl wk) ?_
    show Fin1 p e below s (rm0Q Z i0 i1 i2 i3 i4 i5 h0 n0) room_1.cells room_1.slots (T11.setTop (mkF m 167 #[.val (.int i0), .val (.int i1), .val (.int i2), .val (.int i3), .val (.int i4), .val (.int i5), .val (.int (1 : Int32)), .val (.int (0 : Int32)), .val (.ref ra), .val (.ref rb), .val (.ref rc), .val (.ref rv), .val (.ref b5), .val (.ref ra), .val (.ref ra)] [(.ref rc), (.ref rb), (.ref ra), (.ref rv), (.int (0 : Int32)), (.int (0 : Int32)), (.ref rv)]))
    obtain ⟨v12, T12, h12, L12, X12, e12, hQ12, st12⟩ := own_static X11 hx hZ hown (hw _ (List.mem_of_getElem? (i := 60) rfl)) (hw _ (List.mem_of_getElem? (i := 61) rfl)) (hw _ (List.mem_of_getElem? (i := 62) rfl)) (hw _ (List.mem_of_getElem? (i := 63) rfl)) (by decide) (rmX l Z a0 hw (0 : Int32) (0 : Int32) rv ra rb rc rv h8 n0 Z0 (by simp [own_exp])) e11 (g := (mkF m 167 #[.val (.int i0), .val (.int i1), .val (.int i2), .val (.int i3), .val (.int i4), .val (.int i5), .val (.int (1 : Int32)), .val (.int (0 : Int32)), .val (.ref ra), .val (.ref rb), .val (.ref rc), .val (.ref rv), .val (.ref b5), .val (.ref ra), .val (.ref ra)] [(.ref rc), (.ref rb), (.ref ra), (.ref rv), (.int (0 : Int32)), (.int (0 : Int32)), (.ref rv)])) rfl (by rw [hml]; rfl) (argsL := [(.int (0 : Int32)), (.int (0 : Int32)), (.ref rv), (.ref ra), (.ref rb), (.ref rc)]) (rest := [(.ref rv)]) (lenOf pd_12 rfl) rfl (W := 1) (by show 2 * 0 + _ ≤ _; exact Nat.le_of_eq rfl) (hb hby at_167) (by decide) (by decide) (by decide) (by decide)
    obtain ⟨rfl, N12q, hh12⟩ := hQ12
    have N12 := Fr.app N11 N12q
    rw [hh12] at e12
    refine own_st st12 ?_
    show Fin1 p e below s (rm0Q Z i0 i1 i2 i3 i4 i5 h0 n0) room_1.cells room_1.slots (T12.setTop (mkF m 170 #[.val (.int i0), .val (.int i1), .val (.int i2), .val (.int i3), .val (.int i4), .val (.int i5), .val (.int (1 : Int32)), .val (.int (0 : Int32)), .val (.ref ra), .val (.ref rb), .val (.ref rc), .val (.ref rv), .val (.ref b5), .val (.ref ra), .val (.ref ra)] [(.ref rv), (.ref rv)]))
    refine own_st (fun wt wk => Jvm.RoadKit.acmp (g := (mkF m 170 #[.val (.int i0), .val (.int i1), .val (.int i2), .val (.int i3), .val (.int i4), .val (.int i5), .val (.int (1 : Int32)), .val (.int (0 : Int32)), .val (.ref ra), .val (.ref rb), .val (.ref rc), .val (.ref rv), .val (.ref b5), .val (.ref ra), .val (.ref ra)] [(.ref rv), (.ref rv)])) X12 hx rfl rfl rfl (pc0 := 170) (pc' := 175) (same := true) rfl (hb hby at_170) rfl (decide_eq_true rfl) (by decide) (by decide) wk) ?_
    show Fin1 p e below s (rm0Q Z i0 i1 i2 i3 i4 i5 h0 n0) room_1.cells room_1.slots (T12.setTop (mkF m 175 #[.val (.int i0), .val (.int i1), .val (.int i2), .val (.int i3), .val (.int i4), .val (.int i5), .val (.int (1 : Int32)), .val (.int (0 : Int32)), .val (.ref ra), .val (.ref rb), .val (.ref rc), .val (.ref rv), .val (.ref b5), .val (.ref ra), .val (.ref ra)] []))
    refine own_st (fun wt wk => XS.iload X12.here hx rfl (hb hby at_175) rfl wk) ?_
    show Fin1 p e below s (rm0Q Z i0 i1 i2 i3 i4 i5 h0 n0) room_1.cells room_1.slots (T12.setTop (mkF m 177 #[.val (.int i0), .val (.int i1), .val (.int i2), .val (.int i3), .val (.int i4), .val (.int i5), .val (.int (1 : Int32)), .val (.int (0 : Int32)), .val (.ref ra), .val (.ref rb), .val (.ref rc), .val (.ref rv), .val (.ref b5), .val (.ref ra), .val (.ref ra)] [(.int (1 : Int32))]))
    refine own_st (fun wt wk => XS.iconst X12.here hx rfl (hb hby at_177) wk) ?_
    show Fin1 p e below s (rm0Q Z i0 i1 i2 i3 i4 i5 h0 n0) room_1.cells room_1.slots (T12.setTop (mkF m 178 #[.val (.int i0), .val (.int i1), .val (.int i2), .val (.int i3), .val (.int i4), .val (.int i5), .val (.int (1 : Int32)), .val (.int (0 : Int32)), .val (.ref ra), .val (.ref rb), .val (.ref rc), .val (.ref rv), .val (.ref b5), .val (.ref ra), .val (.ref ra)] [(.int (1 : Int32)), (.int (1 : Int32))]))
    refine own_st (fun wt wk => XS.icmpYes X12.here hx rfl (pc0 := 178) (pc' := 206) rfl (hb hby at_178) rfl (flt (by decide)).2.2.2 (by decide) (by decide) wk) ?_
    show Fin1 p e below s (rm0Q Z i0 i1 i2 i3 i4 i5 h0 n0) room_1.cells room_1.slots (T12.setTop (mkF m 206 #[.val (.int i0), .val (.int i1), .val (.int i2), .val (.int i3), .val (.int i4), .val (.int i5), .val (.int (1 : Int32)), .val (.int (0 : Int32)), .val (.ref ra), .val (.ref rb), .val (.ref rc), .val (.ref rv), .val (.ref b5), .val (.ref ra), .val (.ref ra)] []))
    refine own_st (fun wt wk => XS.iload X12.here hx rfl (hb hby at_206) rfl wk) ?_
    show Fin1 p e below s (rm0Q Z i0 i1 i2 i3 i4 i5 h0 n0) room_1.cells room_1.slots (T12.setTop (mkF m 208 #[.val (.int i0), .val (.int i1), .val (.int i2), .val (.int i3), .val (.int i4), .val (.int i5), .val (.int (1 : Int32)), .val (.int (0 : Int32)), .val (.ref ra), .val (.ref rb), .val (.ref rc), .val (.ref rv), .val (.ref b5), .val (.ref ra), .val (.ref ra)] [(.int (1 : Int32))]))
    refine own_st (fun wt wk => XS.iconst X12.here hx rfl (hb hby at_208) wk) ?_
    show Fin1 p e below s (rm0Q Z i0 i1 i2 i3 i4 i5 h0 n0) room_1.cells room_1.slots (T12.setTop (mkF m 209 #[.val (.int i0), .val (.int i1), .val (.int i2), .val (.int i3), .val (.int i4), .val (.int i5), .val (.int (1 : Int32)), .val (.int (0 : Int32)), .val (.ref ra), .val (.ref rb), .val (.ref rc), .val (.ref rv), .val (.ref b5), .val (.ref ra), .val (.ref ra)] [(.int (2 : Int32)), (.int (1 : Int32))]))
    refine own_st (fun wt wk => XS.icmpYes X12.here hx rfl (pc0 := 209) (pc' := 237) rfl (hb hby at_209) rfl (flt (by decide)).2.2.2 (by decide) (by decide) wk) ?_
    show Fin1 p e below s (rm0Q Z i0 i1 i2 i3 i4 i5 h0 n0) room_1.cells room_1.slots (T12.setTop (mkF m 237 #[.val (.int i0), .val (.int i1), .val (.int i2), .val (.int i3), .val (.int i4), .val (.int i5), .val (.int (1 : Int32)), .val (.int (0 : Int32)), .val (.ref ra), .val (.ref rb), .val (.ref rc), .val (.ref rv), .val (.ref b5), .val (.ref ra), .val (.ref ra)] []))
    refine own_st (fun wt wk => XS.aload X12.here hx rfl (hb hby at_237) rfl rfl wk) ?_
    show Fin1 p e below s (rm0Q Z i0 i1 i2 i3 i4 i5 h0 n0) room_1.cells room_1.slots (T12.setTop (mkF m 239 #[.val (.int i0), .val (.int i1), .val (.int i2), .val (.int i3), .val (.int i4), .val (.int i5), .val (.int (1 : Int32)), .val (.int (0 : Int32)), .val (.ref ra), .val (.ref rb), .val (.ref rc), .val (.ref rv), .val (.ref b5), .val (.ref ra), .val (.ref ra)] [(.ref b5)]))
    refine own_st (fun wt wk => XS.iload X12.here hx rfl (hb hby at_239) rfl wk) ?_
    show Fin1 p e below s (rm0Q Z i0 i1 i2 i3 i4 i5 h0 n0) room_1.cells room_1.slots (T12.setTop (mkF m 241 #[.val (.int i0), .val (.int i1), .val (.int i2), .val (.int i3), .val (.int i4), .val (.int i5), .val (.int (1 : Int32)), .val (.int (0 : Int32)), .val (.ref ra), .val (.ref rb), .val (.ref rc), .val (.ref rv), .val (.ref b5), .val (.ref ra), .val (.ref ra)] [(.int (1 : Int32)), (.ref b5)]))
    obtain ⟨v13, T13, h13, L13, X13, e13, hQ13, st13⟩ := own_virtual X12 hx hZ hown (hw _ (List.mem_of_getElem? (i := 59) rfl)) (hw _ (List.mem_of_getElem? (i := 48) rfl)) (hw _ (List.mem_of_getElem? (i := 50) rfl)) (hw _ (List.mem_of_getElem? (i := 49) rfl)) (hw _ (List.mem_of_getElem? (i := 51) rfl)) (hw _ (List.mem_of_getElem? (i := 10) rfl)) (by decide) (a := b5) E_b5 (rmG l Z a0 hw b5 (1 : Int32) t kt [(.ref rv), .null, .null, .null, .null, .null, .null, .null, .null, .null] .null h8 n0 Z0 Fe V_t (by decide) rfl (Or.inl rfl)) e12 (g := (mkF m 241 #[.val (.int i0), .val (.int i1), .val (.int i2), .val (.int i3), .val (.int i4), .val (.int i5), .val (.int (1 : Int32)), .val (.int (0 : Int32)), .val (.ref ra), .val (.ref rb), .val (.ref rc), .val (.ref rv), .val (.ref b5), .val (.ref ra), .val (.ref ra)] [(.int (1 : Int32)), (.ref b5)])) rfl (by rw [hml]; rfl) (argsL := [(.int (1 : Int32))]) (rest := []) (lenOf pd_6 rfl) rfl (W := 0) (by show 2 * 0 + _ ≤ _; exact Nat.le_of_eq rfl) (hb hby at_241) (by decide) (by decide) (by decide) (by decide)
    obtain ⟨rfl, N13q, hh13⟩ := hQ13
    have N13 := Fr.app N12 N13q
    rw [hh13] at e13
    refine own_st st13 ?_
    show Fin1 p e below s (rm0Q Z i0 i1 i2 i3 i4 i5 h0 n0) room_1.cells room_1.slots (T13.setTop (mkF m 244 #[.val (.int i0), .val (.int i1), .val (.int i2), .val (.int i3), .val (.int i4), .val (.int i5), .val (.int (1 : Int32)), .val (.int (0 : Int32)), .val (.ref ra), .val (.ref rb), .val (.ref rc), .val (.ref rv), .val (.ref b5), .val (.ref ra), .val (.ref ra)] [.null]))
    refine own_st (fun wt wk => XS.ifnullYes X13.here hx rfl (pc0 := 244) (pc' := 249) rfl (hb hby at_244) rfl (by decide) (by decide) wk) ?_
    show Fin1 p e below s (rm0Q Z i0 i1 i2 i3 i4 i5 h0 n0) room_1.cells room_1.slots (T13.setTop (mkF m 249 #[.val (.int i0), .val (.int i1), .val (.int i2), .val (.int i3), .val (.int i4), .val (.int i5), .val (.int (1 : Int32)), .val (.int (0 : Int32)), .val (.ref ra), .val (.ref rb), .val (.ref rc), .val (.ref rv), .val (.ref b5), .val (.ref ra), .val (.ref ra)] []))
    refine own_st (fun wt wk => XS.iconst X13.here hx rfl (hb hby at_249) wk) ?_
    show Fin1 p e below s (rm0Q Z i0 i1 i2 i3 i4 i5 h0 n0) room_1.cells room_1.slots (T13.setTop (mkF m 250 #[.val (.int i0), .val (.int i1), .val (.int i2), .val (.int i3), .val (.int i4), .val (.int i5), .val (.int (1 : Int32)), .val (.int (0 : Int32)), .val (.ref ra), .val (.ref rb), .val (.ref rc), .val (.ref rv), .val (.ref b5), .val (.ref ra), .val (.ref ra)] [(.int (1 : Int32))]))
    exact own_retZ X13 hx hlk hret (hb hby at_250) (z := (1 : Int32)) (by decide) (by rw [e13]; exact ⟨rfl, N13⟩) (by decide) (by decide)
  · show Fin1 p e below s (rm0Q Z i0 i1 i2 i3 i4 i5 h0 n0) room_1.cells room_1.slots (T7.setTop (mkF m 65 #[.val (.int i0), .val (.int i1), .val (.int i2), .val (.int i3), .val (.int i4), .val (.int i5), .val (.int (2 : Int32)), .val (.int (0 : Int32)), .val (.ref ra), .val (.ref rb), .val (.ref rc), .val (.ref rv), .val (.ref b5), .unset, .unset] [(.int (1 : Int32)), (.int (2 : Int32))]))
    refine own_st (fun wt wk => XS.icmpNo X7.here hx rfl (hb hby at_65) rfl (tlt (by decide)).2.2.2 wk) ?_
    show Fin1 p e below s (rm0Q Z i0 i1 i2 i3 i4 i5 h0 n0) room_1.cells room_1.slots (T7.setTop (mkF m 68 #[.val (.int i0), .val (.int i1), .val (.int i2), .val (.int i3), .val (.int i4), .val (.int i5), .val (.int (2 : Int32)), .val (.int (0 : Int32)), .val (.ref ra), .val (.ref rb), .val (.ref rc), .val (.ref rv), .val (.ref b5), .unset, .unset] []))
    refine own_st (fun wt wk => XS.aload X7.here hx rfl (hb hby at_68) rfl rfl wk) ?_
    show Fin1 p e below s (rm0Q Z i0 i1 i2 i3 i4 i5 h0 n0) room_1.cells room_1.slots (T7.setTop (mkF m 70 #[.val (.int i0), .val (.int i1), .val (.int i2), .val (.int i3), .val (.int i4), .val (.int i5), .val (.int (2 : Int32)), .val (.int (0 : Int32)), .val (.ref ra), .val (.ref rb), .val (.ref rc), .val (.ref rv), .val (.ref b5), .unset, .unset] [(.ref b5)]))
    refine own_st (fun wt wk => XS.iconst X7.here hx rfl (hb hby at_70) wk) ?_
    show Fin1 p e below s (rm0Q Z i0 i1 i2 i3 i4 i5 h0 n0) room_1.cells room_1.slots (T7.setTop (mkF m 71 #[.val (.int i0), .val (.int i1), .val (.int i2), .val (.int i3), .val (.int i4), .val (.int i5), .val (.int (2 : Int32)), .val (.int (0 : Int32)), .val (.ref ra), .val (.ref rb), .val (.ref rc), .val (.ref rv), .val (.ref b5), .unset, .unset] [(.int (1 : Int32)), (.ref b5)]))
    refine own_st (fun wt wk => XS.aload X7.here hx rfl (hb hby at_71) rfl rfl wk) ?_
    show Fin1 p e below s (rm0Q Z i0 i1 i2 i3 i4 i5 h0 n0) room_1.cells room_1.slots (T7.setTop (mkF m 73 #[.val (.int i0), .val (.int i1), .val (.int i2), .val (.int i3), .val (.int i4), .val (.int i5), .val (.int (2 : Int32)), .val (.int (0 : Int32)), .val (.ref ra), .val (.ref rb), .val (.ref rc), .val (.ref rv), .val (.ref b5), .unset, .unset] [(.ref rb), (.int (1 : Int32)), (.ref b5)]))
    obtain ⟨v14, T14, h14, L14, X14, e14, hQ14, st14⟩ := own_virtual X7 hx hZ hown (hw _ (List.mem_of_getElem? (i := 26) rfl)) (hw _ (List.mem_of_getElem? (i := 27) rfl)) (hw _ (List.mem_of_getElem? (i := 29) rfl)) (hw _ (List.mem_of_getElem? (i := 28) rfl)) (hw _ (List.mem_of_getElem? (i := 30) rfl)) (hw _ (List.mem_of_getElem? (i := 10) rfl)) (by decide) (a := b5) E_b5 (rmI1 l Z a0 hw b5 rb t kt ra h7 n0 Z0 g_b5 g_t E_b5 E_rb Fe Fs V_t hov ne_b5_t) e7 (g := (mkF m 73 #[.val (.int i0), .val (.int i1), .val (.int i2), .val (.int i3), .val (.int i4), .val (.int i5), .val (.int (2 : Int32)), .val (.int (0 : Int32)), .val (.ref ra), .val (.ref rb), .val (.ref rc), .val (.ref rv), .val (.ref b5), .unset, .unset] [(.ref rb), (.int (1 : Int32)), (.ref b5)])) rfl (by rw [hml]; rfl) (argsL := [(.int (1 : Int32)), (.ref rb)]) (rest := []) (lenOf pd_9 rfl) rfl (W := 0) (by show 2 * 0 + _ ≤ _; exact Nat.le_of_eq rfl) (hb hby at_73) (by decide) (by decide) (by decide) (by decide)
    obtain ⟨rfl, N14q, K14, Fe, Fs, V_t⟩ := hQ14
    have N14 := Fr.app N7 N14q
    have Z0 := Nat.le_trans Z0 K14.1
    have O := O.keep K14 (allS (P := fun x => n0 ≤ x) g_b5 (allS (P := fun x => n0 ≤ x) g_t all0))
    have E_ra := E_ra.keep K14
    have E_rb := E_rb.keep K14
    have E_rc := E_rc.keep K14
    have E_rv := E_rv.keep K14
    have E_b5 := E_b5.keep K14
    refine own_st st14 ?_
    show Fin1 p e below s (rm0Q Z i0 i1 i2 i3 i4 i5 h0 n0) room_1.cells room_1.slots (T14.setTop (mkF m 76 #[.val (.int i0), .val (.int i1), .val (.int i2), .val (.int i3), .val (.int i4), .val (.int i5), .val (.int (2 : Int32)), .val (.int (0 : Int32)), .val (.ref ra), .val (.ref rb), .val (.ref rc), .val (.ref rv), .val (.ref b5), .unset, .unset] []))
    refine own_st (fun wt wk => XS.iload X14.here hx rfl (hb hby at_76) rfl wk) ?_
    show Fin1 p e below s (rm0Q Z i0 i1 i2 i3 i4 i5 h0 n0) room_1.cells room_1.slots (T14.setTop (mkF m 78 #[.val (.int i0), .val (.int i1), .val (.int i2), .val (.int i3), .val (.int i4), .val (.int i5), .val (.int (2 : Int32)), .val (.int (0 : Int32)), .val (.ref ra), .val (.ref rb), .val (.ref rc), .val (.ref rv), .val (.ref b5), .unset, .unset] [(.int (2 : Int32))]))
    refine own_st (fun wt wk => XS.iconst X14.here hx rfl (hb hby at_78) wk) ?_
    show Fin1 p e below s (rm0Q Z i0 i1 i2 i3 i4 i5 h0 n0) room_1.cells room_1.slots (T14.setTop (mkF m 79 #[.val (.int i0), .val (.int i1), .val (.int i2), .val (.int i3), .val (.int i4), .val (.int i5), .val (.int (2 : Int32)), .val (.int (0 : Int32)), .val (.ref ra), .val (.ref rb), .val (.ref rc), .val (.ref rv), .val (.ref b5), .unset, .unset] [(.int (2 : Int32)), (.int (2 : Int32))]))
    refine own_st (fun wt wk => XS.icmpYes X14.here hx rfl (pc0 := 79) (pc' := 90) rfl (hb hby at_79) rfl (flt (by decide)).2.2.2 (by decide) (by decide) wk) ?_
    show Fin1 p e below s (rm0Q Z i0 i1 i2 i3 i4 i5 h0 n0) room_1.cells room_1.slots (T14.setTop (mkF m 90 #[.val (.int i0), .val (.int i1), .val (.int i2), .val (.int i3), .val (.int i4), .val (.int i5), .val (.int (2 : Int32)), .val (.int (0 : Int32)), .val (.ref ra), .val (.ref rb), .val (.ref rc), .val (.ref rv), .val (.ref b5), .unset, .unset] []))
    refine own_st (fun wt wk => XS.iload X14.here hx rfl (hb hby at_90) rfl wk) ?_
    show Fin1 p e below s (rm0Q Z i0 i1 i2 i3 i4 i5 h0 n0) room_1.cells room_1.slots (T14.setTop (mkF m 92 #[.val (.int i0), .val (.int i1), .val (.int i2), .val (.int i3), .val (.int i4), .val (.int i5), .val (.int (2 : Int32)), .val (.int (0 : Int32)), .val (.ref ra), .val (.ref rb), .val (.ref rc), .val (.ref rv), .val (.ref b5), .unset, .unset] [(.int (0 : Int32))]))
    refine own_st (fun wt wk => XS.ifNo X14.here hx rfl (hb hby at_92) rfl ((if0 _ _).trans (teq (by decide)).2) wk) ?_
    show Fin1 p e below s (rm0Q Z i0 i1 i2 i3 i4 i5 h0 n0) room_1.cells room_1.slots (T14.setTop (mkF m 95 #[.val (.int i0), .val (.int i1), .val (.int i2), .val (.int i3), .val (.int i4), .val (.int i5), .val (.int (2 : Int32)), .val (.int (0 : Int32)), .val (.ref ra), .val (.ref rb), .val (.ref rc), .val (.ref rv), .val (.ref b5), .unset, .unset] []))
    refine own_st (fun wt wk => XS.aload X14.here hx rfl (hb hby at_95) rfl rfl wk) ?_
    show Fin1 p e below s (rm0Q Z i0 i1 i2 i3 i4 i5 h0 n0) room_1.cells room_1.slots (T14.setTop (mkF m 97 #[.val (.int i0), .val (.int i1), .val (.int i2), .val (.int i3), .val (.int i4), .val (.int i5), .val (.int (2 : Int32)), .val (.int (0 : Int32)), .val (.ref ra), .val (.ref rb), .val (.ref rc), .val (.ref rv), .val (.ref b5), .unset, .unset] [(.ref ra)]))
    refine own_st (fun wt wk => XS.goto X14.here hx rfl (pc0 := 97) (pc' := 113) rfl (hb hby at_97) (by decide) (by decide) wk) ?_
    show Fin1 p e below s (rm0Q Z i0 i1 i2 i3 i4 i5 h0 n0) room_1.cells room_1.slots (T14.setTop (mkF m 113 #[.val (.int i0), .val (.int i1), .val (.int i2), .val (.int i3), .val (.int i4), .val (.int i5), .val (.int (2 : Int32)), .val (.int (0 : Int32)), .val (.ref ra), .val (.ref rb), .val (.ref rc), .val (.ref rv), .val (.ref b5), .unset, .unset] [(.ref ra)]))
    refine own_st (fun wt wk => XS.astore X14.here hx rfl (hb hby at_113) rfl rfl (l' := #[.val (.int i0), .val (.int i1), .val (.int i2), .val (.int i3), .val (.int i4), .val (.int i5), .val (.int (2 : Int32)), .val (.int (0 : Int32)), .val (.ref ra), .val (.ref rb), .val (.ref rc), .val (.ref rv), .val (.ref b5), .val (.ref ra), .unset]) rfl wk) ?_
    show Fin1 p e below s (rm0Q Z i0 i1 i2 i3 i4 i5 h0 n0) room_1.cells room_1.slots (T14.setTop (mkF m 115 #[.val (.int i0), .val (.int i1), .val (.int i2), .val (.int i3), .val (.int i4), .val (.int i5), .val (.int (2 : Int32)), .val (.int (0 : Int32)), .val (.ref ra), .val (.ref rb), .val (.ref rc), .val (.ref rv), .val (.ref b5), .val (.ref ra), .unset] []))
    refine own_st (fun wt wk => XS.aload X14.here hx rfl (hb hby at_115) rfl rfl wk) ?_
    show Fin1 p e below s (rm0Q Z i0 i1 i2 i3 i4 i5 h0 n0) room_1.cells room_1.slots (T14.setTop (mkF m 117 #[.val (.int i0), .val (.int i1), .val (.int i2), .val (.int i3), .val (.int i4), .val (.int i5), .val (.int (2 : Int32)), .val (.int (0 : Int32)), .val (.ref ra), .val (.ref rb), .val (.ref rc), .val (.ref rv), .val (.ref b5), .val (.ref ra), .unset] [(.ref b5)]))
    refine own_st (fun wt wk => XS.iload X14.here hx rfl (hb hby at_117) rfl wk) ?_
    show Fin1 p e below s (rm0Q Z i0 i1 i2 i3 i4 i5 h0 n0) room_1.cells room_1.slots (T14.setTop (mkF m 119 #[.val (.int i0), .val (.int i1), .val (.int i2), .val (.int i3), .val (.int i4), .val (.int i5), .val (.int (2 : Int32)), .val (.int (0 : Int32)), .val (.ref ra), .val (.ref rb), .val (.ref rc), .val (.ref rv), .val (.ref b5), .val (.ref ra), .unset] [(.int (0 : Int32)), (.ref b5)]))
    refine own_st (fun wt wk => XS.aload X14.here hx rfl (hb hby at_119) rfl rfl wk) ?_
    show Fin1 p e below s (rm0Q Z i0 i1 i2 i3 i4 i5 h0 n0) room_1.cells room_1.slots (T14.setTop (mkF m 121 #[.val (.int i0), .val (.int i1), .val (.int i2), .val (.int i3), .val (.int i4), .val (.int i5), .val (.int (2 : Int32)), .val (.int (0 : Int32)), .val (.ref ra), .val (.ref rb), .val (.ref rc), .val (.ref rv), .val (.ref b5), .val (.ref ra), .unset] [(.ref rv), (.int (0 : Int32)), (.ref b5)]))
    obtain ⟨v15, T15, h15, L15, X15, e15, hQ15, st15⟩ := own_virtual X14 hx hZ hown (hw _ (List.mem_of_getElem? (i := 42) rfl)) (hw _ (List.mem_of_getElem? (i := 43) rfl)) (hw _ (List.mem_of_getElem? (i := 45) rfl)) (hw _ (List.mem_of_getElem? (i := 44) rfl)) (hw _ (List.mem_of_getElem? (i := 46) rfl)) (hw _ (List.mem_of_getElem? (i := 10) rfl)) (by decide) (a := b5) E_b5 (rmT l Z a0 hw b5 (0 : Int32) rv t kt [(.ref ra), (.ref rb), .null, .null, .null, .null, .null, .null, .null, .null] 0 ra h14 n0 Z0 g_t E_b5 E_rv Fe V_t hov ne_b5_t (by decide) rfl rfl (by simp)) e14 (g := (mkF m 121 #[.val (.int i0), .val (.int i1), .val (.int i2), .val (.int i3), .val (.int i4), .val (.int i5), .val (.int (2 : Int32)), .val (.int (0 : Int32)), .val (.ref ra), .val (.ref rb), .val (.ref rc), .val (.ref rv), .val (.ref b5), .val (.ref ra), .unset] [(.ref rv), (.int (0 : Int32)), (.ref b5)])) rfl (by rw [hml]; rfl) (argsL := [(.int (0 : Int32)), (.ref rv)]) (rest := []) (lenOf pd_10 rfl) rfl (W := 0) (by show 2 * 0 + _ ≤ _; exact Nat.le_of_eq rfl) (hb hby at_121) (by decide) (by decide) (by decide) (by decide)
    obtain ⟨rfl, N15q, K15, V_t⟩ := hQ15
    have N15 := Fr.app N14 N15q
    have Z0 := Nat.le_trans Z0 K15.1
    have O := O.keep K15 (allS (P := fun x => n0 ≤ x) g_t all0)
    have E_ra := E_ra.keep K15
    have E_rb := E_rb.keep K15
    have E_rc := E_rc.keep K15
    have E_rv := E_rv.keep K15
    have E_b5 := E_b5.keep K15
    have Fe := Fe.keep K15 (ninS ne_b5_t nin0)
    have Fs := Fs.keep K15 (ninS ne_b5_t nin0)
    refine own_st st15 ?_
    show Fin1 p e below s (rm0Q Z i0 i1 i2 i3 i4 i5 h0 n0) room_1.cells room_1.slots (T15.setTop (mkF m 124 #[.val (.int i0), .val (.int i1), .val (.int i2), .val (.int i3), .val (.int i4), .val (.int i5), .val (.int (2 : Int32)), .val (.int (0 : Int32)), .val (.ref ra), .val (.ref rb), .val (.ref rc), .val (.ref rv), .val (.ref b5), .val (.ref ra), .unset] [(.ref ra)]))
    obtain ⟨T16, X16, e16, st16⟩ := castY X15 hx hZ hown (hw _ (List.mem_of_getElem? (i := 52) rfl)) e15 (Ins.self E_ra) (g := (mkF m 124 #[.val (.int i0), .val (.int i1), .val (.int i2), .val (.int i3), .val (.int i4), .val (.int i5), .val (.int (2 : Int32)), .val (.int (0 : Int32)), .val (.ref ra), .val (.ref rb), .val (.ref rc), .val (.ref rv), .val (.ref b5), .val (.ref ra), .unset] [(.ref ra)])) rfl rfl (hb hby at_124)
    refine own_st st16 ?_
    show Fin1 p e below s (rm0Q Z i0 i1 i2 i3 i4 i5 h0 n0) room_1.cells room_1.slots (T16.setTop (mkF m 127 #[.val (.int i0), .val (.int i1), .val (.int i2), .val (.int i3), .val (.int i4), .val (.int i5), .val (.int (2 : Int32)), .val (.int (0 : Int32)), .val (.ref ra), .val (.ref rb), .val (.ref rc), .val (.ref rv), .val (.ref b5), .val (.ref ra), .unset] [(.ref ra)]))
    refine own_st (fun wt wk => XS.astore X16.here hx rfl (hb hby at_127) rfl rfl (l' := #[.val (.int i0), .val (.int i1), .val (.int i2), .val (.int i3), .val (.int i4), .val (.int i5), .val (.int (2 : Int32)), .val (.int (0 : Int32)), .val (.ref ra), .val (.ref rb), .val (.ref rc), .val (.ref rv), .val (.ref b5), .val (.ref ra), .val (.ref ra)]) rfl wk) ?_
    show Fin1 p e below s (rm0Q Z i0 i1 i2 i3 i4 i5 h0 n0) room_1.cells room_1.slots (T16.setTop (mkF m 129 #[.val (.int i0), .val (.int i1), .val (.int i2), .val (.int i3), .val (.int i4), .val (.int i5), .val (.int (2 : Int32)), .val (.int (0 : Int32)), .val (.ref ra), .val (.ref rb), .val (.ref rc), .val (.ref rv), .val (.ref b5), .val (.ref ra), .val (.ref ra)] []))
    refine own_st (fun wt wk => XS.aload X16.here hx rfl (hb hby at_129) rfl rfl wk) ?_
    show Fin1 p e below s (rm0Q Z i0 i1 i2 i3 i4 i5 h0 n0) room_1.cells room_1.slots (T16.setTop (mkF m 131 #[.val (.int i0), .val (.int i1), .val (.int i2), .val (.int i3), .val (.int i4), .val (.int i5), .val (.int (2 : Int32)), .val (.int (0 : Int32)), .val (.ref ra), .val (.ref rb), .val (.ref rc), .val (.ref rv), .val (.ref b5), .val (.ref ra), .val (.ref ra)] [(.ref ra)]))
    refine own_st (fun wt wk => XS.aload X16.here hx rfl (hb hby at_131) rfl rfl wk) ?_
    show Fin1 p e below s (rm0Q Z i0 i1 i2 i3 i4 i5 h0 n0) room_1.cells room_1.slots (T16.setTop (mkF m 133 #[.val (.int i0), .val (.int i1), .val (.int i2), .val (.int i3), .val (.int i4), .val (.int i5), .val (.int (2 : Int32)), .val (.int (0 : Int32)), .val (.ref ra), .val (.ref rb), .val (.ref rc), .val (.ref rv), .val (.ref b5), .val (.ref ra), .val (.ref ra)] [(.ref ra), (.ref ra)]))
    refine own_st (fun wt wk => Jvm.RoadKit.acmp (g := (mkF m 133 #[.val (.int i0), .val (.int i1), .val (.int i2), .val (.int i3), .val (.int i4), .val (.int i5), .val (.int (2 : Int32)), .val (.int (0 : Int32)), .val (.ref ra), .val (.ref rb), .val (.ref rc), .val (.ref rv), .val (.ref b5), .val (.ref ra), .val (.ref ra)] [(.ref ra), (.ref ra)])) X16 hx rfl rfl rfl (pc0 := 133) (pc' := 138) (same := true) rfl (hb hby at_133) rfl (decide_eq_true rfl) (by decide) (by decide) wk) ?_
    show Fin1 p e below s (rm0Q Z i0 i1 i2 i3 i4 i5 h0 n0) room_1.cells room_1.slots (T16.setTop (mkF m 138 #[.val (.int i0), .val (.int i1), .val (.int i2), .val (.int i3), .val (.int i4), .val (.int i5), .val (.int (2 : Int32)), .val (.int (0 : Int32)), .val (.ref ra), .val (.ref rb), .val (.ref rc), .val (.ref rv), .val (.ref b5), .val (.ref ra), .val (.ref ra)] []))
    refine own_st (fun wt wk => XS.aload X16.here hx rfl (hb hby at_138) rfl rfl wk) ?_
    show Fin1 p e below s (rm0Q Z i0 i1 i2 i3 i4 i5 h0 n0) room_1.cells room_1.slots (T16.setTop (mkF m 140 #[.val (.int i0), .val (.int i1), .val (.int i2), .val (.int i3), .val (.int i4), .val (.int i5), .val (.int (2 : Int32)), .val (.int (0 : Int32)), .val (.ref ra), .val (.ref rb), .val (.ref rc), .val (.ref rv), .val (.ref b5), .val (.ref ra), .val (.ref ra)] [(.ref b5)]))
    obtain ⟨v17, T17, h17, L17, X17, e17, hQ17, st17⟩ := own_virtual X16 hx hZ hown (hw _ (List.mem_of_getElem? (i := 54) rfl)) (hw _ (List.mem_of_getElem? (i := 55) rfl)) (hw _ (List.mem_of_getElem? (i := 57) rfl)) (hw _ (List.mem_of_getElem? (i := 56) rfl)) (hw _ (List.mem_of_getElem? (i := 58) rfl)) (hw _ (List.mem_of_getElem? (i := 10) rfl)) (by decide) (a := b5) E_b5 (rmZ l Z a0 hw b5 (2 : Int32) h15 n0 Z0 Fs) e16 (g := (mkF m 140 #[.val (.int i0), .val (.int i1), .val (.int i2), .val (.int i3), .val (.int i4), .val (.int i5), .val (.int (2 : Int32)), .val (.int (0 : Int32)), .val (.ref ra), .val (.ref rb), .val (.ref rc), .val (.ref rv), .val (.ref b5), .val (.ref ra), .val (.ref ra)] [(.ref b5)])) rfl (by rw [hml]; rfl) (argsL := []) (rest := []) (lenOf pd_11 rfl) rfl (W := 0) (by show 2 * 0 + _ ≤ _; exact Nat.le_of_eq rfl) (hb hby at_140) (by decide) (by decide) (by decide) (by decide)
    obtain ⟨rfl, N17q, hh17⟩ := hQ17
    have N17 := Fr.app N15 N17q
    rw [hh17] at e17
    refine own_st st17 ?_
    show Fin1 p e below s (rm0Q Z i0 i1 i2 i3 i4 i5 h0 n0) room_1.cells room_1.slots (T17.setTop (mkF m 143 #[.val (.int i0), .val (.int i1), .val (.int i2), .val (.int i3), .val (.int i4), .val (.int i5), .val (.int (2 : Int32)), .val (.int (0 : Int32)), .val (.ref ra), .val (.ref rb), .val (.ref rc), .val (.ref rv), .val (.ref b5), .val (.ref ra), .val (.ref ra)] [(.int (2 : Int32))]))
    refine own_st (fun wt wk => XS.iload X17.here hx rfl (hb hby at_143) rfl wk) ?_
    show Fin1 p e below s (rm0Q Z i0 i1 i2 i3 i4 i5 h0 n0) room_1.cells room_1.slots (T17.setTop (mkF m 145 #[.val (.int i0), .val (.int i1), .val (.int i2), .val (.int i3), .val (.int i4), .val (.int i5), .val (.int (2 : Int32)), .val (.int (0 : Int32)), .val (.ref ra), .val (.ref rb), .val (.ref rc), .val (.ref rv), .val (.ref b5), .val (.ref ra), .val (.ref ra)] [(.int (2 : Int32)), (.int (2 : Int32))]))
    refine own_st (fun wt wk => XS.icmpYes X17.here hx rfl (pc0 := 145) (pc' := 150) rfl (hb hby at_145) rfl (teq (by decide)).1 (by decide) (by decide) wk) ?_
    show Fin1 p e below s (rm0Q Z i0 i1 i2 i3 i4 i5 h0 n0) room_1.cells room_1.slots (T17.setTop (mkF m 150 #[.val (.int i0), .val (.int i1), .val (.int i2), .val (.int i3), .val (.int i4), .val (.int i5), .val (.int (2 : Int32)), .val (.int (0 : Int32)), .val (.ref ra), .val (.ref rb), .val (.ref rc), .val (.ref rv), .val (.ref b5), .val (.ref ra), .val (.ref ra)] []))
    refine own_st (fun wt wk => XS.aload X17.here hx rfl (hb hby at_150) rfl rfl wk) ?_
    show Fin1 p e below s (rm0Q Z i0 i1 i2 i3 i4 i5 h0 n0) room_1.cells room_1.slots (T17.setTop (mkF m 152 #[.val (.int i0), .val (.int i1), .val (.int i2), .val (.int i3), .val (.int i4), .val (.int i5), .val (.int (2 : Int32)), .val (.int (0 : Int32)), .val (.ref ra), .val (.ref rb), .val (.ref rc), .val (.ref rv), .val (.ref b5), .val (.ref ra), .val (.ref ra)] [(.ref b5)]))
    refine own_st (fun wt wk => XS.iconst X17.here hx rfl (hb hby at_152) wk) ?_
    show Fin1 p e below s (rm0Q Z i0 i1 i2 i3 i4 i5 h0 n0) room_1.cells room_1.slots (T17.setTop (mkF m 153 #[.val (.int i0), .val (.int i1), .val (.int i2), .val (.int i3), .val (.int i4), .val (.int i5), .val (.int (2 : Int32)), .val (.int (0 : Int32)), .val (.ref ra), .val (.ref rb), .val (.ref rc), .val (.ref rv), .val (.ref b5), .val (.ref ra), .val (.ref ra)] [(.int (0 : Int32)), (.ref b5)]))
    obtain ⟨v18, T18, h18, L18, X18, e18, hQ18, st18⟩ := own_virtual X17 hx hZ hown (hw _ (List.mem_of_getElem? (i := 59) rfl)) (hw _ (List.mem_of_getElem? (i := 48) rfl)) (hw _ (List.mem_of_getElem? (i := 50) rfl)) (hw _ (List.mem_of_getElem? (i := 49) rfl)) (hw _ (List.mem_of_getElem? (i := 51) rfl)) (hw _ (List.mem_of_getElem? (i := 10) rfl)) (by decide) (a := b5) E_b5 (rmG l Z a0 hw b5 (0 : Int32) t kt [(.ref rv), (.ref rb), .null, .null, .null, .null, .null, .null, .null, .null] (.ref rv) h15 n0 Z0 Fe V_t (by decide) rfl (Or.inr ⟨_, rfl⟩)) e17 (g := (mkF m 153 #[.val (.int i0), .val (.int i1), .val (.int i2), .val (.int i3), .val (.int i4), .val (.int i5), .val (.int (2 : Int32)), .val (.int (0 : Int32)), .val (.ref ra), .val (.ref rb), .val (.ref rc), .val (.ref rv), .val (.ref b5), .val (.ref ra), .val (.ref ra)] [(.int (0 : Int32)), (.ref b5)])) rfl (by rw [hml]; rfl) (argsL := [(.int (0 : Int32))]) (rest := []) (lenOf pd_6 rfl) rfl (W := 0) (by show 2 * 0 + _ ≤ _; exact Nat.le_of_eq rfl) (hb hby at_153) (by decide) (by decide) (by decide) (by decide)
    obtain ⟨rfl, N18q, hh18⟩ := hQ18
    have N18 := Fr.app N17 N18q
    rw [hh18] at e18
    refine own_st st18 ?_
    show Fin1 p e below s (rm0Q Z i0 i1 i2 i3 i4 i5 h0 n0) room_1.cells room_1.slots (T18.setTop (mkF m 156 #[.val (.int i0), .val (.int i1), .val (.int i2), .val (.int i3), .val (.int i4), .val (.int i5), .val (.int (2 : Int32)), .val (.int (0 : Int32)), .val (.ref ra), .val (.ref rb), .val (.ref rc), .val (.ref rv), .val (.ref b5), .val (.ref ra), .val (.ref ra)] [(.ref rv)]))
    refine own_st (fun wt wk => XS.iconst X18.here hx rfl (hb hby at_156) wk) ?_
    show Fin1 p e below s (rm0Q Z i0 i1 i2 i3 i4 i5 h0 n0) room_1.cells room_1.slots (T18.setTop (mkF m 157 #[.val (.int i0), .val (.int i1), .val (.int i2), .val (.int i3), .val (.int i4), .val (.int i5), .val (.int (2 : Int32)), .val (.int (0 : Int32)), .val (.ref ra), .val (.ref rb), .val (.ref rc), .val (.ref rv), .val (.ref b5), .val (.ref ra), .val (.ref ra)] [(.int (0 : Int32)), (.ref rv)]))
    refine own_st (fun wt wk => XS.iload X18.here hx rfl (hb hby at_157) rfl wk) ?_
    show Fin1 p e below s (rm0Q Z i0 i1 i2 i3 i4 i5 h0 n0) room_1.cells room_1.slots (T18.setTop (mkF m 159 #[.val (.int i0), .val (.int i1), .val (.int i2), .val (.int i3), .val (.int i4), .val (.int i5), .val (.int (2 : Int32)), .val (.int (0 : Int32)), .val (.ref ra), .val (.ref rb), .val (.ref rc), .val (.ref rv), .val (.ref b5), .val (.ref ra), .val (.ref ra)] [(.int (0 : Int32)), (.int (0 : Int32)), (.ref rv)]))
    refine own_st (fun wt wk => XS.aload X18.here hx rfl (hb hby at_159) rfl rfl wk) ?_
    show Fin1 p e below s (rm0Q Z i0 i1 i2 i3 i4 i5 h0 n0) room_1.cells room_1.slots (T18.setTop (mkF m 161 #[.val (.int i0), .val (.int i1), .val (.int i2), .val (.int i3), .val (.int i4), .val (.int i5), .val (.int (2 : Int32)), .val (.int (0 : Int32)), .val (.ref ra), .val (.ref rb), .val (.ref rc), .val (.ref rv), .val (.ref b5), .val (.ref ra), .val (.ref ra)] [(.ref rv), (.int (0 : Int32)), (.int (0 : Int32)), (.ref rv)]))
    refine own_st (fun wt wk => XS.aload X18.here hx rfl (hb hby at_161) rfl rfl wk) ?_
    show Fin1 p e below s (rm0Q Z i0 i1 i2 i3 i4 i5 h0 n0) room_1.cells room_1.slots (T18.setTop (mkF m 163 #[.val (.int i0), .val (.int i1), .val (.int i2), .val (.int i3), .val (.int i4), .val (.int i5), .val (.int (2 : Int32)), .val (.int (0 : Int32)), .val (.ref ra), .val (.ref rb), .val (.ref rc), .val (.ref rv), .val (.ref b5), .val (.ref ra), .val (.ref ra)] [(.ref ra), (.ref rv), (.int (0 : Int32)), (.int (0 : Int32)), (.ref rv)]))
    refine own_st (fun wt wk => XS.aload X18.here hx rfl (hb hby at_163) rfl rfl wk) ?_
    show Fin1 p e below s (rm0Q Z i0 i1 i2 i3 i4 i5 h0 n0) room_1.cells room_1.slots (T18.setTop (mkF m 165 #[.val (.int i0), .val (.int i1), .val (.int i2), .val (.int i3), .val (.int i4), .val (.int i5), .val (.int (2 : Int32)), .val (.int (0 : Int32)), .val (.ref ra), .val (.ref rb), .val (.ref rc), .val (.ref rv), .val (.ref b5), .val (.ref ra), .val (.ref ra)] [(.ref rb), (.ref ra), (.ref rv), (.int (0 : Int32)), (.int (0 : Int32)), (.ref rv)]))
    refine own_st (fun wt wk => XS.aload X18.here hx rfl (hb hby at_165) rfl rfl wk) ?_
    show Fin1 p e below s (rm0Q Z i0 i1 i2 i3 i4 i5 h0 n0) room_1.cells room_1.slots (T18.setTop (mkF m 167 #[.val (.int i0), .val (.int i1), .val (.int i2), .val (.int i3), .val (.int i4), .val (.int i5), .val (.int (2 : Int32)), .val (.int (0 : Int32)), .val (.ref ra), .val (.ref rb), .val (.ref rc), .val (.ref rv), .val (.ref b5), .val (.ref ra), .val (.ref ra)] [(.ref rc), (.ref rb), (.ref ra), (.ref rv), (.int (0 : Int32)), (.int (0 : Int32)), (.ref rv)]))
    obtain ⟨v19, T19, h19, L19, X19, e19, hQ19, st19⟩ := own_static X18 hx hZ hown (hw _ (List.mem_of_getElem? (i := 60) rfl)) (hw _ (List.mem_of_getElem? (i := 61) rfl)) (hw _ (List.mem_of_getElem? (i := 62) rfl)) (hw _ (List.mem_of_getElem? (i := 63) rfl)) (by decide) (rmX l Z a0 hw (0 : Int32) (0 : Int32) rv ra rb rc rv h15 n0 Z0 (by simp [own_exp])) e18 (g := (mkF m 167 #[.val (.int i0), .val (.int i1), .val (.int i2), .val (.int i3), .val (.int i4), .val (.int i5), .val (.int (2 : Int32)), .val (.int (0 : Int32)), .val (.ref ra), .val (.ref rb), .val (.ref rc), .val (.ref rv), .val (.ref b5), .val (.ref ra), .val (.ref ra)] [(.ref rc), (.ref rb), (.ref ra), (.ref rv), (.int (0 : Int32)), (.int (0 : Int32)), (.ref rv)])) rfl (by rw [hml]; rfl) (argsL := [(.int (0 : Int32)), (.int (0 : Int32)), (.ref rv), (.ref ra), (.ref rb), (.ref rc)]) (rest := [(.ref rv)]) (lenOf pd_12 rfl) rfl (W := 1) (by show 2 * 0 + _ ≤ _; exact Nat.le_of_eq rfl) (hb hby at_167) (by decide) (by decide) (by decide) (by decide)
    obtain ⟨rfl, N19q, hh19⟩ := hQ19
    have N19 := Fr.app N18 N19q
    rw [hh19] at e19
    refine own_st st19 ?_
    show Fin1 p e below s (rm0Q Z i0 i1 i2 i3 i4 i5 h0 n0) room_1.cells room_1.slots (T19.setTop (mkF m 170 #[.val (.int i0), .val (.int i1), .val (.int i2), .val (.int i3), .val (.int i4), .val (.int i5), .val (.int (2 : Int32)), .val (.int (0 : Int32)), .val (.ref ra), .val (.ref rb), .val (.ref rc), .val (.ref rv), .val (.ref b5), .val (.ref ra), .val (.ref ra)] [(.ref rv), (.ref rv)]))
    refine own_st (fun wt wk => Jvm.RoadKit.acmp (g := (mkF m 170 #[.val (.int i0), .val (.int i1), .val (.int i2), .val (.int i3), .val (.int i4), .val (.int i5), .val (.int (2 : Int32)), .val (.int (0 : Int32)), .val (.ref ra), .val (.ref rb), .val (.ref rc), .val (.ref rv), .val (.ref b5), .val (.ref ra), .val (.ref ra)] [(.ref rv), (.ref rv)])) X19 hx rfl rfl rfl (pc0 := 170) (pc' := 175) (same := true) rfl (hb hby at_170) rfl (decide_eq_true rfl) (by decide) (by decide) wk) ?_
    show Fin1 p e below s (rm0Q Z i0 i1 i2 i3 i4 i5 h0 n0) room_1.cells room_1.slots (T19.setTop (mkF m 175 #[.val (.int i0), .val (.int i1), .val (.int i2), .val (.int i3), .val (.int i4), .val (.int i5), .val (.int (2 : Int32)), .val (.int (0 : Int32)), .val (.ref ra), .val (.ref rb), .val (.ref rc), .val (.ref rv), .val (.ref b5), .val (.ref ra), .val (.ref ra)] []))
    refine own_st (fun wt wk => XS.iload X19.here hx rfl (hb hby at_175) rfl wk) ?_
    show Fin1 p e below s (rm0Q Z i0 i1 i2 i3 i4 i5 h0 n0) room_1.cells room_1.slots (T19.setTop (mkF m 177 #[.val (.int i0), .val (.int i1), .val (.int i2), .val (.int i3), .val (.int i4), .val (.int i5), .val (.int (2 : Int32)), .val (.int (0 : Int32)), .val (.ref ra), .val (.ref rb), .val (.ref rc), .val (.ref rv), .val (.ref b5), .val (.ref ra), .val (.ref ra)] [(.int (2 : Int32))]))
    refine own_st (fun wt wk => XS.iconst X19.here hx rfl (hb hby at_177) wk) ?_
    show Fin1 p e below s (rm0Q Z i0 i1 i2 i3 i4 i5 h0 n0) room_1.cells room_1.slots (T19.setTop (mkF m 178 #[.val (.int i0), .val (.int i1), .val (.int i2), .val (.int i3), .val (.int i4), .val (.int i5), .val (.int (2 : Int32)), .val (.int (0 : Int32)), .val (.ref ra), .val (.ref rb), .val (.ref rc), .val (.ref rv), .val (.ref b5), .val (.ref ra), .val (.ref ra)] [(.int (1 : Int32)), (.int (2 : Int32))]))
    refine own_st (fun wt wk => XS.icmpNo X19.here hx rfl (hb hby at_178) rfl (tlt (by decide)).2.2.2 wk) ?_
    show Fin1 p e below s (rm0Q Z i0 i1 i2 i3 i4 i5 h0 n0) room_1.cells room_1.slots (T19.setTop (mkF m 181 #[.val (.int i0), .val (.int i1), .val (.int i2), .val (.int i3), .val (.int i4), .val (.int i5), .val (.int (2 : Int32)), .val (.int (0 : Int32)), .val (.ref ra), .val (.ref rb), .val (.ref rc), .val (.ref rv), .val (.ref b5), .val (.ref ra), .val (.ref ra)] []))
    refine own_st (fun wt wk => XS.aload X19.here hx rfl (hb hby at_181) rfl rfl wk) ?_
    show Fin1 p e below s (rm0Q Z i0 i1 i2 i3 i4 i5 h0 n0) room_1.cells room_1.slots (T19.setTop (mkF m 183 #[.val (.int i0), .val (.int i1), .val (.int i2), .val (.int i3), .val (.int i4), .val (.int i5), .val (.int (2 : Int32)), .val (.int (0 : Int32)), .val (.ref ra), .val (.ref rb), .val (.ref rc), .val (.ref rv), .val (.ref b5), .val (.ref ra), .val (.ref ra)] [(.ref b5)]))
    refine own_st (fun wt wk => XS.iconst X19.here hx rfl (hb hby at_183) wk) ?_
    show Fin1 p e below s (rm0Q Z i0 i1 i2 i3 i4 i5 h0 n0) room_1.cells room_1.slots (T19.setTop (mkF m 184 #[.val (.int i0), .val (.int i1), .val (.int i2), .val (.int i3), .val (.int i4), .val (.int i5), .val (.int (2 : Int32)), .val (.int (0 : Int32)), .val (.ref ra), .val (.ref rb), .val (.ref rc), .val (.ref rv), .val (.ref b5), .val (.ref ra), .val (.ref ra)] [(.int (1 : Int32)), (.ref b5)]))
    obtain ⟨v20, T20, h20, L20, X20, e20, hQ20, st20⟩ := own_virtual X19 hx hZ hown (hw _ (List.mem_of_getElem? (i := 59) rfl)) (hw _ (List.mem_of_getElem? (i := 48) rfl)) (hw _ (List.mem_of_getElem? (i := 50) rfl)) (hw _ (List.mem_of_getElem? (i := 49) rfl)) (hw _ (List.mem_of_getElem? (i := 51) rfl)) (hw _ (List.mem_of_getElem? (i := 10) rfl)) (by decide) (a := b5) E_b5 (rmG l Z a0 hw b5 (1 : Int32) t kt [(.ref rv), (.ref rb), .null, .null, .null, .null, .null, .null, .null, .null] (.ref rb) h15 n0 Z0 Fe V_t (by decide) rfl (Or.inr ⟨_, rfl⟩)) e19 (g := (mkF m 184 #[.val (.int i0), .val (.int i1), .val (.int i2), .val (.int i3), .val (.int i4), .val (.int i5), .val (.int (2 : Int32)), .val (.int (0 : Int32)), .val (.ref ra), .val (.ref rb), .val (.ref rc), .val (.ref rv), .val (.ref b5), .val (.ref ra), .val (.ref ra)] [(.int (1 : Int32)), (.ref b5)])) rfl (by rw [hml]; rfl) (argsL := [(.int (1 : Int32))]) (rest := []) (lenOf pd_6 rfl) rfl (W := 0) (by show 2 * 0 + _ ≤ _; exact Nat.le_of_eq rfl) (hb hby at_184) (by decide) (by decide) (by decide) (by decide)
    obtain ⟨rfl, N20q, hh20⟩ := hQ20
    have N20 := Fr.app N19 N20q
    rw [hh20] at e20
    refine own_st st20 ?_
    show Fin1 p e below s (rm0Q Z i0 i1 i2 i3 i4 i5 h0 n0) room_1.cells room_1.slots (T20.setTop (mkF m 187 #[.val (.int i0), .val (.int i1), .val (.int i2), .val (.int i3), .val (.int i4), .val (.int i5), .val (.int (2 : Int32)), .val (.int (0 : Int32)), .val (.ref ra), .val (.ref rb), .val (.ref rc), .val (.ref rv), .val (.ref b5), .val (.ref ra), .val (.ref ra)] [(.ref rb)]))
    refine own_st (fun wt wk => XS.iconst X20.here hx rfl (hb hby at_187) wk) ?_
    show Fin1 p e below s (rm0Q Z i0 i1 i2 i3 i4 i5 h0 n0) room_1.cells room_1.slots (T20.setTop (mkF m 188 #[.val (.int i0), .val (.int i1), .val (.int i2), .val (.int i3), .val (.int i4), .val (.int i5), .val (.int (2 : Int32)), .val (.int (0 : Int32)), .val (.ref ra), .val (.ref rb), .val (.ref rc), .val (.ref rv), .val (.ref b5), .val (.ref ra), .val (.ref ra)] [(.int (1 : Int32)), (.ref rb)]))
    refine own_st (fun wt wk => XS.iload X20.here hx rfl (hb hby at_188) rfl wk) ?_
    show Fin1 p e below s (rm0Q Z i0 i1 i2 i3 i4 i5 h0 n0) room_1.cells room_1.slots (T20.setTop (mkF m 190 #[.val (.int i0), .val (.int i1), .val (.int i2), .val (.int i3), .val (.int i4), .val (.int i5), .val (.int (2 : Int32)), .val (.int (0 : Int32)), .val (.ref ra), .val (.ref rb), .val (.ref rc), .val (.ref rv), .val (.ref b5), .val (.ref ra), .val (.ref ra)] [(.int (0 : Int32)), (.int (1 : Int32)), (.ref rb)]))
    refine own_st (fun wt wk => XS.aload X20.here hx rfl (hb hby at_190) rfl rfl wk) ?_
    show Fin1 p e below s (rm0Q Z i0 i1 i2 i3 i4 i5 h0 n0) room_1.cells room_1.slots (T20.setTop (mkF m 192 #[.val (.int i0), .val (.int i1), .val (.int i2), .val (.int i3), .val (.int i4), .val (.int i5), .val (.int (2 : Int32)), .val (.int (0 : Int32)), .val (.ref ra), .val (.ref rb), .val (.ref rc), .val (.ref rv), .val (.ref b5), .val (.ref ra), .val (.ref ra)] [(.ref rv), (.int (0 : Int32)), (.int (1 : Int32)), (.ref rb)]))
    refine own_st (fun wt wk => XS.aload X20.here hx rfl (hb hby at_192) rfl rfl wk) ?_
    show Fin1 p e below s (rm0Q Z i0 i1 i2 i3 i4 i5 h0 n0) room_1.cells room_1.slots (T20.setTop (mkF m 194 #[.val (.int i0), .val (.int i1), .val (.int i2), .val (.int i3), .val (.int i4), .val (.int i5), .val (.int (2 : Int32)), .val (.int (0 : Int32)), .val (.ref ra), .val (.ref rb), .val (.ref rc), .val (.ref rv), .val (.ref b5), .val (.ref ra), .val (.ref ra)] [(.ref ra), (.ref rv), (.int (0 : Int32)), (.int (1 : Int32)), (.ref rb)]))
    refine own_st (fun wt wk => XS.aload X20.here hx rfl (hb hby at_194) rfl rfl wk) ?_
    show Fin1 p e below s (rm0Q Z i0 i1 i2 i3 i4 i5 h0 n0) room_1.cells room_1.slots (T20.setTop (mkF m 196 #[.val (.int i0), .val (.int i1), .val (.int i2), .val (.int i3), .val (.int i4), .val (.int i5), .val (.int (2 : Int32)), .val (.int (0 : Int32)), .val (.ref ra), .val (.ref rb), .val (.ref rc), .val (.ref rv), .val (.ref b5), .val (.ref ra), .val (.ref ra)] [(.ref rb), (.ref ra), (.ref rv), (.int (0 : Int32)), (.int (1 : Int32)), (.ref rb)]))
    refine own_st (fun wt wk => XS.aload X20.here hx rfl (hb hby at_196) rfl rfl wk) ?_
    show Fin1 p e below s (rm0Q Z i0 i1 i2 i3 i4 i5 h0 n0) room_1.cells room_1.slots (T20.setTop (mkF m 198 #[.val (.int i0), .val (.int i1), .val (.int i2), .val (.int i3), .val (.int i4), .val (.int i5), .val (.int (2 : Int32)), .val (.int (0 : Int32)), .val (.ref ra), .val (.ref rb), .val (.ref rc), .val (.ref rv), .val (.ref b5), .val (.ref ra), .val (.ref ra)] [(.ref rc), (.ref rb), (.ref ra), (.ref rv), (.int (0 : Int32)), (.int (1 : Int32)), (.ref rb)]))
    obtain ⟨v21, T21, h21, L21, X21, e21, hQ21, st21⟩ := own_static X20 hx hZ hown (hw _ (List.mem_of_getElem? (i := 60) rfl)) (hw _ (List.mem_of_getElem? (i := 61) rfl)) (hw _ (List.mem_of_getElem? (i := 62) rfl)) (hw _ (List.mem_of_getElem? (i := 63) rfl)) (by decide) (rmX l Z a0 hw (1 : Int32) (0 : Int32) rv ra rb rc rb h15 n0 Z0 (by simp [own_exp])) e20 (g := (mkF m 198 #[.val (.int i0), .val (.int i1), .val (.int i2), .val (.int i3), .val (.int i4), .val (.int i5), .val (.int (2 : Int32)), .val (.int (0 : Int32)), .val (.ref ra), .val (.ref rb), .val (.ref rc), .val (.ref rv), .val (.ref b5), .val (.ref ra), .val (.ref ra)] [(.ref rc), (.ref rb), (.ref ra), (.ref rv), (.int (0 : Int32)), (.int (1 : Int32)), (.ref rb)])) rfl (by rw [hml]; rfl) (argsL := [(.int (1 : Int32)), (.int (0 : Int32)), (.ref rv), (.ref ra), (.ref rb), (.ref rc)]) (rest := [(.ref rb)]) (lenOf pd_12 rfl) rfl (W := 1) (by show 2 * 0 + _ ≤ _; exact Nat.le_of_eq rfl) (hb hby at_198) (by decide) (by decide) (by decide) (by decide)
    obtain ⟨rfl, N21q, hh21⟩ := hQ21
    have N21 := Fr.app N20 N21q
    rw [hh21] at e21
    refine own_st st21 ?_
    show Fin1 p e below s (rm0Q Z i0 i1 i2 i3 i4 i5 h0 n0) room_1.cells room_1.slots (T21.setTop (mkF m 201 #[.val (.int i0), .val (.int i1), .val (.int i2), .val (.int i3), .val (.int i4), .val (.int i5), .val (.int (2 : Int32)), .val (.int (0 : Int32)), .val (.ref ra), .val (.ref rb), .val (.ref rc), .val (.ref rv), .val (.ref b5), .val (.ref ra), .val (.ref ra)] [(.ref rb), (.ref rb)]))
    refine own_st (fun wt wk => Jvm.RoadKit.acmp (g := (mkF m 201 #[.val (.int i0), .val (.int i1), .val (.int i2), .val (.int i3), .val (.int i4), .val (.int i5), .val (.int (2 : Int32)), .val (.int (0 : Int32)), .val (.ref ra), .val (.ref rb), .val (.ref rc), .val (.ref rv), .val (.ref b5), .val (.ref ra), .val (.ref ra)] [(.ref rb), (.ref rb)])) X21 hx rfl rfl rfl (pc0 := 201) (pc' := 206) (same := true) rfl (hb hby at_201) rfl (decide_eq_true rfl) (by decide) (by decide) wk) ?_
    show Fin1 p e below s (rm0Q Z i0 i1 i2 i3 i4 i5 h0 n0) room_1.cells room_1.slots (T21.setTop (mkF m 206 #[.val (.int i0), .val (.int i1), .val (.int i2), .val (.int i3), .val (.int i4), .val (.int i5), .val (.int (2 : Int32)), .val (.int (0 : Int32)), .val (.ref ra), .val (.ref rb), .val (.ref rc), .val (.ref rv), .val (.ref b5), .val (.ref ra), .val (.ref ra)] []))
    refine own_st (fun wt wk => XS.iload X21.here hx rfl (hb hby at_206) rfl wk) ?_
    show Fin1 p e below s (rm0Q Z i0 i1 i2 i3 i4 i5 h0 n0) room_1.cells room_1.slots (T21.setTop (mkF m 208 #[.val (.int i0), .val (.int i1), .val (.int i2), .val (.int i3), .val (.int i4), .val (.int i5), .val (.int (2 : Int32)), .val (.int (0 : Int32)), .val (.ref ra), .val (.ref rb), .val (.ref rc), .val (.ref rv), .val (.ref b5), .val (.ref ra), .val (.ref ra)] [(.int (2 : Int32))]))
    refine own_st (fun wt wk => XS.iconst X21.here hx rfl (hb hby at_208) wk) ?_
    show Fin1 p e below s (rm0Q Z i0 i1 i2 i3 i4 i5 h0 n0) room_1.cells room_1.slots (T21.setTop (mkF m 209 #[.val (.int i0), .val (.int i1), .val (.int i2), .val (.int i3), .val (.int i4), .val (.int i5), .val (.int (2 : Int32)), .val (.int (0 : Int32)), .val (.ref ra), .val (.ref rb), .val (.ref rc), .val (.ref rv), .val (.ref b5), .val (.ref ra), .val (.ref ra)] [(.int (2 : Int32)), (.int (2 : Int32))]))
    refine own_st (fun wt wk => XS.icmpYes X21.here hx rfl (pc0 := 209) (pc' := 237) rfl (hb hby at_209) rfl (flt (by decide)).2.2.2 (by decide) (by decide) wk) ?_
    show Fin1 p e below s (rm0Q Z i0 i1 i2 i3 i4 i5 h0 n0) room_1.cells room_1.slots (T21.setTop (mkF m 237 #[.val (.int i0), .val (.int i1), .val (.int i2), .val (.int i3), .val (.int i4), .val (.int i5), .val (.int (2 : Int32)), .val (.int (0 : Int32)), .val (.ref ra), .val (.ref rb), .val (.ref rc), .val (.ref rv), .val (.ref b5), .val (.ref ra), .val (.ref ra)] []))
    refine own_st (fun wt wk => XS.aload X21.here hx rfl (hb hby at_237) rfl rfl wk) ?_
    show Fin1 p e below s (rm0Q Z i0 i1 i2 i3 i4 i5 h0 n0) room_1.cells room_1.slots (T21.setTop (mkF m 239 #[.val (.int i0), .val (.int i1), .val (.int i2), .val (.int i3), .val (.int i4), .val (.int i5), .val (.int (2 : Int32)), .val (.int (0 : Int32)), .val (.ref ra), .val (.ref rb), .val (.ref rc), .val (.ref rv), .val (.ref b5), .val (.ref ra), .val (.ref ra)] [(.ref b5)]))
    refine own_st (fun wt wk => XS.iload X21.here hx rfl (hb hby at_239) rfl wk) ?_
    show Fin1 p e below s (rm0Q Z i0 i1 i2 i3 i4 i5 h0 n0) room_1.cells room_1.slots (T21.setTop (mkF m 241 #[.val (.int i0), .val (.int i1), .val (.int i2), .val (.int i3), .val (.int i4), .val (.int i5), .val (.int (2 : Int32)), .val (.int (0 : Int32)), .val (.ref ra), .val (.ref rb), .val (.ref rc), .val (.ref rv), .val (.ref b5), .val (.ref ra), .val (.ref ra)] [(.int (2 : Int32)), (.ref b5)]))
    obtain ⟨v22, T22, h22, L22, X22, e22, hQ22, st22⟩ := own_virtual X21 hx hZ hown (hw _ (List.mem_of_getElem? (i := 59) rfl)) (hw _ (List.mem_of_getElem? (i := 48) rfl)) (hw _ (List.mem_of_getElem? (i := 50) rfl)) (hw _ (List.mem_of_getElem? (i := 49) rfl)) (hw _ (List.mem_of_getElem? (i := 51) rfl)) (hw _ (List.mem_of_getElem? (i := 10) rfl)) (by decide) (a := b5) E_b5 (rmG l Z a0 hw b5 (2 : Int32) t kt [(.ref rv), (.ref rb), .null, .null, .null, .null, .null, .null, .null, .null] .null h15 n0 Z0 Fe V_t (by decide) rfl (Or.inl rfl)) e21 (g := (mkF m 241 #[.val (.int i0), .val (.int i1), .val (.int i2), .val (.int i3), .val (.int i4), .val (.int i5), .val (.int (2 : Int32)), .val (.int (0 : Int32)), .val (.ref ra), .val (.ref rb), .val (.ref rc), .val (.ref rv), .val (.ref b5), .val (.ref ra), .val (.ref ra)] [(.int (2 : Int32)), (.ref b5)])) rfl (by rw [hml]; rfl) (argsL := [(.int (2 : Int32))]) (rest := []) (lenOf pd_6 rfl) rfl (W := 0) (by show 2 * 0 + _ ≤ _; exact Nat.le_of_eq rfl) (hb hby at_241) (by decide) (by decide) (by decide) (by decide)
    obtain ⟨rfl, N22q, hh22⟩ := hQ22
    have N22 := Fr.app N21 N22q
    rw [hh22] at e22
    refine own_st st22 ?_
    show Fin1 p e below s (rm0Q Z i0 i1 i2 i3 i4 i5 h0 n0) room_1.cells room_1.slots (T22.setTop (mkF m 244 #[.val (.int i0), .val (.int i1), .val (.int i2), .val (.int i3), .val (.int i4), .val (.int i5), .val (.int (2 : Int32)), .val (.int (0 : Int32)), .val (.ref ra), .val (.ref rb), .val (.ref rc), .val (.ref rv), .val (.ref b5), .val (.ref ra), .val (.ref ra)] [.null]))
    refine own_st (fun wt wk => XS.ifnullYes X22.here hx rfl (pc0 := 244) (pc' := 249) rfl (hb hby at_244) rfl (by decide) (by decide) wk) ?_
    show Fin1 p e below s (rm0Q Z i0 i1 i2 i3 i4 i5 h0 n0) room_1.cells room_1.slots (T22.setTop (mkF m 249 #[.val (.int i0), .val (.int i1), .val (.int i2), .val (.int i3), .val (.int i4), .val (.int i5), .val (.int (2 : Int32)), .val (.int (0 : Int32)), .val (.ref ra), .val (.ref rb), .val (.ref rc), .val (.ref rv), .val (.ref b5), .val (.ref ra), .val (.ref ra)] []))
    refine own_st (fun wt wk => XS.iconst X22.here hx rfl (hb hby at_249) wk) ?_
    show Fin1 p e below s (rm0Q Z i0 i1 i2 i3 i4 i5 h0 n0) room_1.cells room_1.slots (T22.setTop (mkF m 250 #[.val (.int i0), .val (.int i1), .val (.int i2), .val (.int i3), .val (.int i4), .val (.int i5), .val (.int (2 : Int32)), .val (.int (0 : Int32)), .val (.ref ra), .val (.ref rb), .val (.ref rc), .val (.ref rv), .val (.ref b5), .val (.ref ra), .val (.ref ra)] [(.int (1 : Int32))]))
    exact own_retZ X22 hx hlk hret (hb hby at_250) (z := (1 : Int32)) (by decide) (by rw [e22]; exact ⟨rfl, N22⟩) (by decide) (by decide)
  · show Fin1 p e below s (rm0Q Z i0 i1 i2 i3 i4 i5 h0 n0) room_1.cells room_1.slots (T7.setTop (mkF m 65 #[.val (.int i0), .val (.int i1), .val (.int i2), .val (.int i3), .val (.int i4), .val (.int i5), .val (.int (2 : Int32)), .val (.int (1 : Int32)), .val (.ref ra), .val (.ref rb), .val (.ref rc), .val (.ref rv), .val (.ref b5), .unset, .unset] [(.int (1 : Int32)), (.int (2 : Int32))]))
    refine own_st (fun wt wk => XS.icmpNo X7.here hx rfl (hb hby at_65) rfl (tlt (by decide)).2.2.2 wk) ?_
    show Fin1 p e below s (rm0Q Z i0 i1 i2 i3 i4 i5 h0 n0) room_1.cells room_1.slots (T7.setTop (mkF m 68 #[.val (.int i0), .val (.int i1), .val (.int i2), .val (.int i3), .val (.int i4), .val (.int i5), .val (.int (2 : Int32)), .val (.int (1 : Int32)), .val (.ref ra), .val (.ref rb), .val (.ref rc), .val (.ref rv), .val (.ref b5), .unset, .unset] []))
    refine own_st (fun wt wk => XS.aload X7.here hx rfl (hb hby at_68) rfl rfl wk) ?_
    show Fin1 p e below s (rm0Q Z i0 i1 i2 i3 i4 i5 h0 n0) room_1.cells room_1.slots (T7.setTop (mkF m 70 #[.val (.int i0), .val (.int i1), .val (.int i2), .val (.int i3), .val (.int i4), .val (.int i5), .val (.int (2 : Int32)), .val (.int (1 : Int32)), .val (.ref ra), .val (.ref rb), .val (.ref rc), .val (.ref rv), .val (.ref b5), .unset, .unset] [(.ref b5)]))
    refine own_st (fun wt wk => XS.iconst X7.here hx rfl (hb hby at_70) wk) ?_
    show Fin1 p e below s (rm0Q Z i0 i1 i2 i3 i4 i5 h0 n0) room_1.cells room_1.slots (T7.setTop (mkF m 71 #[.val (.int i0), .val (.int i1), .val (.int i2), .val (.int i3), .val (.int i4), .val (.int i5), .val (.int (2 : Int32)), .val (.int (1 : Int32)), .val (.ref ra), .val (.ref rb), .val (.ref rc), .val (.ref rv), .val (.ref b5), .unset, .unset] [(.int (1 : Int32)), (.ref b5)]))
    refine own_st (fun wt wk => XS.aload X7.here hx rfl (hb hby at_71) rfl rfl wk) ?_
    show Fin1 p e below s (rm0Q Z i0 i1 i2 i3 i4 i5 h0 n0) room_1.cells room_1.slots (T7.setTop (mkF m 73 #[.val (.int i0), .val (.int i1), .val (.int i2), .val (.int i3), .val (.int i4), .val (.int i5), .val (.int (2 : Int32)), .val (.int (1 : Int32)), .val (.ref ra), .val (.ref rb), .val (.ref rc), .val (.ref rv), .val (.ref b5), .unset, .unset] [(.ref rb), (.int (1 : Int32)), (.ref b5)]))
    obtain ⟨v23, T23, h23, L23, X23, e23, hQ23, st23⟩ := own_virtual X7 hx hZ hown (hw _ (List.mem_of_getElem? (i := 26) rfl)) (hw _ (List.mem_of_getElem? (i := 27) rfl)) (hw _ (List.mem_of_getElem? (i := 29) rfl)) (hw _ (List.mem_of_getElem? (i := 28) rfl)) (hw _ (List.mem_of_getElem? (i := 30) rfl)) (hw _ (List.mem_of_getElem? (i := 10) rfl)) (by decide) (a := b5) E_b5 (rmI1 l Z a0 hw b5 rb t kt ra h7 n0 Z0 g_b5 g_t E_b5 E_rb Fe Fs V_t hov ne_b5_t) e7 (g := (mkF m 73 #[.val (.int i0), .val (.int i1), .val (.int i2), .val (.int i3), .val (.int i4), .val (.int i5), .val (.int (2 : Int32)), .val (.int (1 : Int32)), .val (.ref ra), .val (.ref rb), .val (.ref rc), .val (.ref rv), .val (.ref b5), .unset, .unset] [(.ref rb), (.int (1 : Int32)), (.ref b5)])) rfl (by rw [hml]; rfl) (argsL := [(.int (1 : Int32)), (.ref rb)]) (rest := []) (lenOf pd_9 rfl) rfl (W := 0) (by show 2 * 0 + _ ≤ _; exact Nat.le_of_eq rfl) (hb hby at_73) (by decide) (by decide) (by decide) (by decide)
    obtain ⟨rfl, N23q, K23, Fe, Fs, V_t⟩ := hQ23
    have N23 := Fr.app N7 N23q
    have Z0 := Nat.le_trans Z0 K23.1
    have O := O.keep K23 (allS (P := fun x => n0 ≤ x) g_b5 (allS (P := fun x => n0 ≤ x) g_t all0))
    have E_ra := E_ra.keep K23
    have E_rb := E_rb.keep K23
    have E_rc := E_rc.keep K23
    have E_rv := E_rv.keep K23
    have E_b5 := E_b5.keep K23
    refine own_st st23 ?_
    show Fin1 p e below s (rm0Q Z i0 i1 i2 i3 i4 i5 h0 n0) room_1.cells room_1.slots (T23.setTop (mkF m 76 #[.val (.int i0), .val (.int i1), .val (.int i2), .val (.int i3), .val (.int i4), .val (.int i5), .val (.int (2 : Int32)), .val (.int (1 : Int32)), .val (.ref ra), .val (.ref rb), .val (.ref rc), .val (.ref rv), .val (.ref b5), .unset, .unset] []))
    refine own_st (fun wt wk => XS.iload X23.here hx rfl (hb hby at_76) rfl wk) ?_
    show Fin1 p e below s (rm0Q Z i0 i1 i2 i3 i4 i5 h0 n0) room_1.cells room_1.slots (T23.setTop (mkF m 78 #[.val (.int i0), .val (.int i1), .val (.int i2), .val (.int i3), .val (.int i4), .val (.int i5), .val (.int (2 : Int32)), .val (.int (1 : Int32)), .val (.ref ra), .val (.ref rb), .val (.ref rc), .val (.ref rv), .val (.ref b5), .unset, .unset] [(.int (2 : Int32))]))
    refine own_st (fun wt wk => XS.iconst X23.here hx rfl (hb hby at_78) wk) ?_
    show Fin1 p e below s (rm0Q Z i0 i1 i2 i3 i4 i5 h0 n0) room_1.cells room_1.slots (T23.setTop (mkF m 79 #[.val (.int i0), .val (.int i1), .val (.int i2), .val (.int i3), .val (.int i4), .val (.int i5), .val (.int (2 : Int32)), .val (.int (1 : Int32)), .val (.ref ra), .val (.ref rb), .val (.ref rc), .val (.ref rv), .val (.ref b5), .unset, .unset] [(.int (2 : Int32)), (.int (2 : Int32))]))
    refine own_st (fun wt wk => XS.icmpYes X23.here hx rfl (pc0 := 79) (pc' := 90) rfl (hb hby at_79) rfl (flt (by decide)).2.2.2 (by decide) (by decide) wk) ?_
    show Fin1 p e below s (rm0Q Z i0 i1 i2 i3 i4 i5 h0 n0) room_1.cells room_1.slots (T23.setTop (mkF m 90 #[.val (.int i0), .val (.int i1), .val (.int i2), .val (.int i3), .val (.int i4), .val (.int i5), .val (.int (2 : Int32)), .val (.int (1 : Int32)), .val (.ref ra), .val (.ref rb), .val (.ref rc), .val (.ref rv), .val (.ref b5), .unset, .unset] []))
    refine own_st (fun wt wk => XS.iload X23.here hx rfl (hb hby at_90) rfl wk) ?_
    show Fin1 p e below s (rm0Q Z i0 i1 i2 i3 i4 i5 h0 n0) room_1.cells room_1.slots (T23.setTop (mkF m 92 #[.val (.int i0), .val (.int i1), .val (.int i2), .val (.int i3), .val (.int i4), .val (.int i5), .val (.int (2 : Int32)), .val (.int (1 : Int32)), .val (.ref ra), .val (.ref rb), .val (.ref rc), .val (.ref rv), .val (.ref b5), .unset, .unset] [(.int (1 : Int32))]))
    refine own_st (fun wt wk => XS.ifYes X23.here hx rfl (pc0 := 92) (pc' := 100) rfl (hb hby at_92) rfl ((if0 _ _).trans (feq (by decide)).2) (by decide) (by decide) wk) ?_
    show Fin1 p e below s (rm0Q Z i0 i1 i2 i3 i4 i5 h0 n0) room_1.cells room_1.slots (T23.setTop (mkF m 100 #[.val (.int i0), .val (.int i1), .val (.int i2), .val (.int i3), .val (.int i4), .val (.int i5), .val (.int (2 : Int32)), .val (.int (1 : Int32)), .val (.ref ra), .val (.ref rb), .val (.ref rc), .val (.ref rv), .val (.ref b5), .unset, .unset] []))
    refine own_st (fun wt wk => XS.iload X23.here hx rfl (hb hby at_100) rfl wk) ?_
    show Fin1 p e below s (rm0Q Z i0 i1 i2 i3 i4 i5 h0 n0) room_1.cells room_1.slots (T23.setTop (mkF m 102 #[.val (.int i0), .val (.int i1), .val (.int i2), .val (.int i3), .val (.int i4), .val (.int i5), .val (.int (2 : Int32)), .val (.int (1 : Int32)), .val (.ref ra), .val (.ref rb), .val (.ref rc), .val (.ref rv), .val (.ref b5), .unset, .unset] [(.int (1 : Int32))]))
    refine own_st (fun wt wk => XS.iconst X23.here hx rfl (hb hby at_102) wk) ?_
    show Fin1 p e below s (rm0Q Z i0 i1 i2 i3 i4 i5 h0 n0) room_1.cells room_1.slots (T23.setTop (mkF m 103 #[.val (.int i0), .val (.int i1), .val (.int i2), .val (.int i3), .val (.int i4), .val (.int i5), .val (.int (2 : Int32)), .val (.int (1 : Int32)), .val (.ref ra), .val (.ref rb), .val (.ref rc), .val (.ref rv), .val (.ref b5), .unset, .unset] [(.int (1 : Int32)), (.int (1 : Int32))]))
    refine own_st (fun wt wk => XS.icmpNo X23.here hx rfl (hb hby at_103) rfl (teq (by decide)).2 wk) ?_
    show Fin1 p e below s (rm0Q Z i0 i1 i2 i3 i4 i5 h0 n0) room_1.cells room_1.slots (T23.setTop (mkF m 106 #[.val (.int i0), .val (.int i1), .val (.int i2), .val (.int i3), .val (.int i4), .val (.int i5), .val (.int (2 : Int32)), .val (.int (1 : Int32)), .val (.ref ra), .val (.ref rb), .val (.ref rc), .val (.ref rv), .val (.ref b5), .unset, .unset] []))
    refine own_st (fun wt wk => XS.aload X23.here hx rfl (hb hby at_106) rfl rfl wk) ?_
    show Fin1 p e below s (rm0Q Z i0 i1 i2 i3 i4 i5 h0 n0) room_1.cells room_1.slots (T23.setTop (mkF m 108 #[.val (.int i0), .val (.int i1), .val (.int i2), .val (.int i3), .val (.int i4), .val (.int i5), .val (.int (2 : Int32)), .val (.int (1 : Int32)), .val (.ref ra), .val (.ref rb), .val (.ref rc), .val (.ref rv), .val (.ref b5), .unset, .unset] [(.ref rb)]))
    refine own_st (fun wt wk => XS.goto X23.here hx rfl (pc0 := 108) (pc' := 113) rfl (hb hby at_108) (by decide) (by decide) wk) ?_
    show Fin1 p e below s (rm0Q Z i0 i1 i2 i3 i4 i5 h0 n0) room_1.cells room_1.slots (T23.setTop (mkF m 113 #[.val (.int i0), .val (.int i1), .val (.int i2), .val (.int i3), .val (.int i4), .val (.int i5), .val (.int (2 : Int32)), .val (.int (1 : Int32)), .val (.ref ra), .val (.ref rb), .val (.ref rc), .val (.ref rv), .val (.ref b5), .unset, .unset] [(.ref rb)]))
    refine own_st (fun wt wk => XS.astore X23.here hx rfl (hb hby at_113) rfl rfl (l' := #[.val (.int i0), .val (.int i1), .val (.int i2), .val (.int i3), .val (.int i4), .val (.int i5), .val (.int (2 : Int32)), .val (.int (1 : Int32)), .val (.ref ra), .val (.ref rb), .val (.ref rc), .val (.ref rv), .val (.ref b5), .val (.ref rb), .unset]) rfl wk) ?_
    show Fin1 p e below s (rm0Q Z i0 i1 i2 i3 i4 i5 h0 n0) room_1.cells room_1.slots (T23.setTop (mkF m 115 #[.val (.int i0), .val (.int i1), .val (.int i2), .val (.int i3), .val (.int i4), .val (.int i5), .val (.int (2 : Int32)), .val (.int (1 : Int32)), .val (.ref ra), .val (.ref rb), .val (.ref rc), .val (.ref rv), .val (.ref b5), .val (.ref rb), .unset] []))
    refine own_st (fun wt wk => XS.aload X23.here hx rfl (hb hby at_115) rfl rfl wk) ?_
    show Fin1 p e below s (rm0Q Z i0 i1 i2 i3 i4 i5 h0 n0) room_1.cells room_1.slots (T23.setTop (mkF m 117 #[.val (.int i0), .val (.int i1), .val (.int i2), .val (.int i3), .val (.int i4), .val (.int i5), .val (.int (2 : Int32)), .val (.int (1 : Int32)), .val (.ref ra), .val (.ref rb), .val (.ref rc), .val (.ref rv), .val (.ref b5), .val (.ref rb), .unset] [(.ref b5)]))
    refine own_st (fun wt wk => XS.iload X23.here hx rfl (hb hby at_117) rfl wk) ?_
    show Fin1 p e below s (rm0Q Z i0 i1 i2 i3 i4 i5 h0 n0) room_1.cells room_1.slots (T23.setTop (mkF m 119 #[.val (.int i0), .val (.int i1), .val (.int i2), .val (.int i3), .val (.int i4), .val (.int i5), .val (.int (2 : Int32)), .val (.int (1 : Int32)), .val (.ref ra), .val (.ref rb), .val (.ref rc), .val (.ref rv), .val (.ref b5), .val (.ref rb), .unset] [(.int (1 : Int32)), (.ref b5)]))
    refine own_st (fun wt wk => XS.aload X23.here hx rfl (hb hby at_119) rfl rfl wk) ?_
    show Fin1 p e below s (rm0Q Z i0 i1 i2 i3 i4 i5 h0 n0) room_1.cells room_1.slots (T23.setTop (mkF m 121 #[.val (.int i0), .val (.int i1), .val (.int i2), .val (.int i3), .val (.int i4), .val (.int i5), .val (.int (2 : Int32)), .val (.int (1 : Int32)), .val (.ref ra), .val (.ref rb), .val (.ref rc), .val (.ref rv), .val (.ref b5), .val (.ref rb), .unset] [(.ref rv), (.int (1 : Int32)), (.ref b5)]))
    obtain ⟨v24, T24, h24, L24, X24, e24, hQ24, st24⟩ := own_virtual X23 hx hZ hown (hw _ (List.mem_of_getElem? (i := 42) rfl)) (hw _ (List.mem_of_getElem? (i := 43) rfl)) (hw _ (List.mem_of_getElem? (i := 45) rfl)) (hw _ (List.mem_of_getElem? (i := 44) rfl)) (hw _ (List.mem_of_getElem? (i := 46) rfl)) (hw _ (List.mem_of_getElem? (i := 10) rfl)) (by decide) (a := b5) E_b5 (rmT l Z a0 hw b5 (1 : Int32) rv t kt [(.ref ra), (.ref rb), .null, .null, .null, .null, .null, .null, .null, .null] 1 rb h23 n0 Z0 g_t E_b5 E_rv Fe V_t hov ne_b5_t (by decide) rfl rfl (by simp)) e23 (g := (mkF m 121 #[.val (.int i0), .val (.int i1), .val (.int i2), .val (.int i3), .val (.int i4), .val (.int i5), .val (.int (2 : Int32)), .val (.int (1 : Int32)), .val (.ref ra), .val (.ref rb), .val (.ref rc), .val (.ref rv), .val (.ref b5), .val (.ref rb), .unset] [(.ref rv), (.int (1 : Int32)), (.ref b5)])) rfl (by rw [hml]; rfl) (argsL := [(.int (1 : Int32)), (.ref rv)]) (rest := []) (lenOf pd_10 rfl) rfl (W := 0) (by show 2 * 0 + _ ≤ _; exact Nat.le_of_eq rfl) (hb hby at_121) (by decide) (by decide) (by decide) (by decide)
    obtain ⟨rfl, N24q, K24, V_t⟩ := hQ24
    have N24 := Fr.app N23 N24q
    have Z0 := Nat.le_trans Z0 K24.1
    have O := O.keep K24 (allS (P := fun x => n0 ≤ x) g_t all0)
    have E_ra := E_ra.keep K24
    have E_rb := E_rb.keep K24
    have E_rc := E_rc.keep K24
    have E_rv := E_rv.keep K24
    have E_b5 := E_b5.keep K24
    have Fe := Fe.keep K24 (ninS ne_b5_t nin0)
    have Fs := Fs.keep K24 (ninS ne_b5_t nin0)
    refine own_st st24 ?_
    show Fin1 p e below s (rm0Q Z i0 i1 i2 i3 i4 i5 h0 n0) room_1.cells room_1.slots (T24.setTop (mkF m 124 #[.val (.int i0), .val (.int i1), .val (.int i2), .val (.int i3), .val (.int i4), .val (.int i5), .val (.int (2 : Int32)), .val (.int (1 : Int32)), .val (.ref ra), .val (.ref rb), .val (.ref rc), .val (.ref rv), .val (.ref b5), .val (.ref rb), .unset] [(.ref rb)]))
    obtain ⟨T25, X25, e25, st25⟩ := castY X24 hx hZ hown (hw _ (List.mem_of_getElem? (i := 52) rfl)) e24 (Ins.self E_rb) (g := (mkF m 124 #[.val (.int i0), .val (.int i1), .val (.int i2), .val (.int i3), .val (.int i4), .val (.int i5), .val (.int (2 : Int32)), .val (.int (1 : Int32)), .val (.ref ra), .val (.ref rb), .val (.ref rc), .val (.ref rv), .val (.ref b5), .val (.ref rb), .unset] [(.ref rb)])) rfl rfl (hb hby at_124)
    refine own_st st25 ?_
    show Fin1 p e below s (rm0Q Z i0 i1 i2 i3 i4 i5 h0 n0) room_1.cells room_1.slots (T25.setTop (mkF m 127 #[.val (.int i0), .val (.int i1), .val (.int i2), .val (.int i3), .val (.int i4), .val (.int i5), .val (.int (2 : Int32)), .val (.int (1 : Int32)), .val (.ref ra), .val (.ref rb), .val (.ref rc), .val (.ref rv), .val (.ref b5), .val (.ref rb), .unset] [(.ref rb)]))
    refine own_st (fun wt wk => XS.astore X25.here hx rfl (hb hby at_127) rfl rfl (l' := #[.val (.int i0), .val (.int i1), .val (.int i2), .val (.int i3), .val (.int i4), .val (.int i5), .val (.int (2 : Int32)), .val (.int (1 : Int32)), .val (.ref ra), .val (.ref rb), .val (.ref rc), .val (.ref rv), .val (.ref b5), .val (.ref rb), .val (.ref rb)]) rfl wk) ?_
    show Fin1 p e below s (rm0Q Z i0 i1 i2 i3 i4 i5 h0 n0) room_1.cells room_1.slots (T25.setTop (mkF m 129 #[.val (.int i0), .val (.int i1), .val (.int i2), .val (.int i3), .val (.int i4), .val (.int i5), .val (.int (2 : Int32)), .val (.int (1 : Int32)), .val (.ref ra), .val (.ref rb), .val (.ref rc), .val (.ref rv), .val (.ref b5), .val (.ref rb), .val (.ref rb)] []))
    refine own_st (fun wt wk => XS.aload X25.here hx rfl (hb hby at_129) rfl rfl wk) ?_
    show Fin1 p e below s (rm0Q Z i0 i1 i2 i3 i4 i5 h0 n0) room_1.cells room_1.slots (T25.setTop (mkF m 131 #[.val (.int i0), .val (.int i1), .val (.int i2), .val (.int i3), .val (.int i4), .val (.int i5), .val (.int (2 : Int32)), .val (.int (1 : Int32)), .val (.ref ra), .val (.ref rb), .val (.ref rc), .val (.ref rv), .val (.ref b5), .val (.ref rb), .val (.ref rb)] [(.ref rb)]))
    refine own_st (fun wt wk => XS.aload X25.here hx rfl (hb hby at_131) rfl rfl wk) ?_
    show Fin1 p e below s (rm0Q Z i0 i1 i2 i3 i4 i5 h0 n0) room_1.cells room_1.slots (T25.setTop (mkF m 133 #[.val (.int i0), .val (.int i1), .val (.int i2), .val (.int i3), .val (.int i4), .val (.int i5), .val (.int (2 : Int32)), .val (.int (1 : Int32)), .val (.ref ra), .val (.ref rb), .val (.ref rc), .val (.ref rv), .val (.ref b5), .val (.ref rb), .val (.ref rb)] [(.ref rb), (.ref rb)]))
    refine own_st (fun wt wk => Jvm.RoadKit.acmp (g := (mkF m 133 #[.val (.int i0), .val (.int i1), .val (.int i2), .val (.int i3), .val (.int i4), .val (.int i5), .val (.int (2 : Int32)), .val (.int (1 : Int32)), .val (.ref ra), .val (.ref rb), .val (.ref rc), .val (.ref rv), .val (.ref b5), .val (.ref rb), .val (.ref rb)] [(.ref rb), (.ref rb)])) X25 hx rfl rfl rfl (pc0 := 133) (pc' := 138) (same := true) rfl (hb hby at_133) rfl (decide_eq_true rfl) (by decide) (by decide) wk) ?_
    show Fin1 p e below s (rm0Q Z i0 i1 i2 i3 i4 i5 h0 n0) room_1.cells room_1.slots (T25.setTop (mkF m 138 #[.val (.int i0), .val (.int i1), .val (.int i2), .val (.int i3), .val (.int i4), .val (.int i5), .val (.int (2 : Int32)), .val (.int (1 : Int32)), .val (.ref ra), .val (.ref rb), .val (.ref rc), .val (.ref rv), .val (.ref b5), .val (.ref rb), .val (.ref rb)] []))
    refine own_st (fun wt wk => XS.aload X25.here hx rfl (hb hby at_138) rfl rfl wk) ?_
    show Fin1 p e below s (rm0Q Z i0 i1 i2 i3 i4 i5 h0 n0) room_1.cells room_1.slots (T25.setTop (mkF m 140 #[.val (.int i0), .val (.int i1), .val (.int i2), .val (.int i3), .val (.int i4), .val (.int i5), .val (.int (2 : Int32)), .val (.int (1 : Int32)), .val (.ref ra), .val (.ref rb), .val (.ref rc), .val (.ref rv), .val (.ref b5), .val (.ref rb), .val (.ref rb)] [(.ref b5)]))
    obtain ⟨v26, T26, h26, L26, X26, e26, hQ26, st26⟩ := own_virtual X25 hx hZ hown (hw _ (List.mem_of_getElem? (i := 54) rfl)) (hw _ (List.mem_of_getElem? (i := 55) rfl)) (hw _ (List.mem_of_getElem? (i := 57) rfl)) (hw _ (List.mem_of_getElem? (i := 56) rfl)) (hw _ (List.mem_of_getElem? (i := 58) rfl)) (hw _ (List.mem_of_getElem? (i := 10) rfl)) (by decide) (a := b5) E_b5 (rmZ l Z a0 hw b5 (2 : Int32) h24 n0 Z0 Fs) e25 (g := (mkF m 140 #[.val (.int i0), .val (.int i1), .val (.int i2), .val (.int i3), .val (.int i4), .val (.int i5), .val (.int (2 : Int32)), .val (.int (1 : Int32)), .val (.ref ra), .val (.ref rb), .val (.ref rc), .val (.ref rv), .val (.ref b5), .val (.ref rb), .val (.ref rb)] [(.ref b5)])) rfl (by rw [hml]; rfl) (argsL := []) (rest := []) (lenOf pd_11 rfl) rfl (W := 0) (by show 2 * 0 + _ ≤ _; exact Nat.le_of_eq rfl) (hb hby at_140) (by decide) (by decide) (by decide) (by decide)
    obtain ⟨rfl, N26q, hh26⟩ := hQ26
    have N26 := Fr.app N24 N26q
    rw [hh26] at e26
    refine own_st st26 ?_
    show Fin1 p e below s (rm0Q Z i0 i1 i2 i3 i4 i5 h0 n0) room_1.cells room_1.slots (T26.setTop (mkF m 143 #[.val (.int i0), .val (.int i1), .val (.int i2), .val (.int i3), .val (.int i4), .val (.int i5), .val (.int (2 : Int32)), .val (.int (1 : Int32)), .val (.ref ra), .val (.ref rb), .val (.ref rc), .val (.ref rv), .val (.ref b5), .val (.ref rb), .val (.ref rb)] [(.int (2 : Int32))]))
    refine own_st (fun wt wk => XS.iload X26.here hx rfl (hb hby at_143) rfl wk) ?_
    show Fin1 p e below s (rm0Q Z i0 i1 i2 i3 i4 i5 h0 n0) room_1.cells room_1.slots (T26.setTop (mkF m 145 #[.val (.int i0), .val (.int i1), .val (.int i2), .val (.int i3), .val (.int i4), .val (.int i5), .val (.int (2 : Int32)), .val (.int (1 : Int32)), .val (.ref ra), .val (.ref rb), .val (.ref rc), .val (.ref rv), .val (.ref b5), .val (.ref rb), .val (.ref rb)] [(.int (2 : Int32)), (.int (2 : Int32))]))
    refine own_st (fun wt wk => XS.icmpYes X26.here hx rfl (pc0 := 145) (pc' := 150) rfl (hb hby at_145) rfl (teq (by decide)).1 (by decide) (by decide) wk) ?_
    show Fin1 p e below s (rm0Q Z i0 i1 i2 i3 i4 i5 h0 n0) room_1.cells room_1.slots (T26.setTop (mkF m 150 #[.val (.int i0), .val (.int i1), .val (.int i2), .val (.int i3), .val (.int i4), .val (.int i5), .val (.int (2 : Int32)), .val (.int (1 : Int32)), .val (.ref ra), .val (.ref rb), .val (.ref rc), .val (.ref rv), .val (.ref b5), .val (.ref rb), .val (.ref rb)] []))
    refine own_st (fun wt wk => XS.aload X26.here hx rfl (hb hby at_150) rfl rfl wk) ?_
    show Fin1 p e below s (rm0Q Z i0 i1 i2 i3 i4 i5 h0 n0) room_1.cells room_1.slots (T26.setTop (mkF m 152 #[.val (.int i0), .val (.int i1), .val (.int i2), .val (.int i3), .val (.int i4), .val (.int i5), .val (.int (2 : Int32)), .val (.int (1 : Int32)), .val (.ref ra), .val (.ref rb), .val (.ref rc), .val (.ref rv), .val (.ref b5), .val (.ref rb), .val (.ref rb)] [(.ref b5)]))
    refine own_st (fun wt wk => XS.iconst X26.here hx rfl (hb hby at_152) wk) ?_
    show Fin1 p e below s (rm0Q Z i0 i1 i2 i3 i4 i5 h0 n0) room_1.cells room_1.slots (T26.setTop (mkF m 153 #[.val (.int i0), .val (.int i1), .val (.int i2), .val (.int i3), .val (.int i4), .val (.int i5), .val (.int (2 : Int32)), .val (.int (1 : Int32)), .val (.ref ra), .val (.ref rb), .val (.ref rc), .val (.ref rv), .val (.ref b5), .val (.ref rb), .val (.ref rb)] [(.int (0 : Int32)), (.ref b5)]))
    obtain ⟨v27, T27, h27, L27, X27, e27, hQ27, st27⟩ := own_virtual X26 hx hZ hown (hw _ (List.mem_of_getElem? (i := 59) rfl)) (hw _ (List.mem_of_getElem? (i := 48) rfl)) (hw _ (List.mem_of_getElem? (i := 50) rfl)) (hw _ (List.mem_of_getElem? (i := 49) rfl)) (hw _ (List.mem_of_getElem? (i := 51) rfl)) (hw _ (List.mem_of_getElem? (i := 10) rfl)) (by decide) (a := b5) E_b5 (rmG l Z a0 hw b5 (0 : Int32) t kt [(.ref ra), (.ref rv), .null, .null, .null, .null, .null, .null, .null, .null] (.ref ra) h24 n0 Z0 Fe V_t (by decide) rfl (Or.inr ⟨_, rfl⟩)) e26 (g := (mkF m 153 #[.val (.int i0), .val (.int i1), .val (.int i2), .val (.int i3), .val (.int i4), .val (.int i5), .val (.int (2 : Int32)), .val (.int (1 : Int32)), .val (.ref ra), .val (.ref rb), .val (.ref rc), .val (.ref rv), .val (.ref b5), .val (.ref rb), .val (.ref rb)] [(.int (0 : Int32)), (.ref b5)])) rfl (by rw [hml]; rfl) (argsL := [(.int (0 : Int32))]) (rest := []) (lenOf pd_6 rfl) rfl (W := 0) (by show 2 * 0 + _ ≤ _; exact Nat.le_of_eq rfl) (hb hby at_153) (by decide) (by decide) (by decide) (by decide)
    obtain ⟨rfl, N27q, hh27⟩ := hQ27
    have N27 := Fr.app N26 N27q
    rw [hh27] at e27
    refine own_st st27 ?_
    show Fin1 p e below s (rm0Q Z i0 i1 i2 i3 i4 i5 h0 n0) room_1.cells room_1.slots (T27.setTop (mkF m 156 #[.val (.int i0), .val (.int i1), .val (.int i2), .val (.int i3), .val (.int i4), .val (.int i5), .val (.int (2 : Int32)), .val (.int (1 : Int32)), .val (.ref ra), .val (.ref rb), .val (.ref rc), .val (.ref rv), .val (.ref b5), .val (.ref rb), .val (.ref rb)] [(.ref ra)]))
    refine own_st (fun wt wk => XS.iconst X27.here hx rfl (hb hby at_156) wk) ?_
    show Fin1 p e below s (rm0Q Z i0 i1 i2 i3 i4 i5 h0 n0) room_1.cells room_1.slots (T27.setTop (mkF m 157 #[.val (.int i0), .val (.int i1), .val (.int i2), .val (.int i3), .val (.int i4), .val (.int i5), .val (.int (2 : Int32)), .val (.int (1 : Int32)), .val (.ref ra), .val (.ref rb), .val (.ref rc), .val (.ref rv), .val (.ref b5), .val (.ref rb), .val (.ref rb)] [(.int (0 : Int32)), (.ref ra)]))
    refine own_st (fun wt wk => XS.iload X27.here hx rfl (hb hby at_157) rfl wk) ?_
    show Fin1 p e below s (rm0Q Z i0 i1 i2 i3 i4 i5 h0 n0) room_1.cells room_1.slots (T27.setTop (mkF m 159 #[.val (.int i0), .val (.int i1), .val (.int i2), .val (.int i3), .val (.int i4), .val (.int i5), .val (.int (2 : Int32)), .val (.int (1 : Int32)), .val (.ref ra), .val (.ref rb), .val (.ref rc), .val (.ref rv), .val (.ref b5), .val (.ref rb), .val (.ref rb)] [(.int (1 : Int32)), (.int (0 : Int32)), (.ref ra)]))
    refine own_st (fun wt wk => XS.aload X27.here hx rfl (hb hby at_159) rfl rfl wk) ?_
    show Fin1 p e below s (rm0Q Z i0 i1 i2 i3 i4 i5 h0 n0) room_1.cells room_1.slots (T27.setTop (mkF m 161 #[.val (.int i0), .val (.int i1), .val (.int i2), .val (.int i3), .val (.int i4), .val (.int i5), .val (.int (2 : Int32)), .val (.int (1 : Int32)), .val (.ref ra), .val (.ref rb), .val (.ref rc), .val (.ref rv), .val (.ref b5), .val (.ref rb), .val (.ref rb)] [(.ref rv), (.int (1 : Int32)), (.int (0 : Int32)), (.ref ra)]))
    refine own_st (fun wt wk => XS.aload X27.here hx rfl (hb hby at_161) rfl rfl wk) ?_
    show Fin1 p e below s (rm0Q Z i0 i1 i2 i3 i4 i5 h0 n0) room_1.cells room_1.slots (T27.setTop (mkF m 163 #[.val (.int i0), .val (.int i1), .val (.int i2), .val (.int i3), .val (.int i4), .val (.int i5), .val (.int (2 : Int32)), .val (.int (1 : Int32)), .val (.ref ra), .val (.ref rb), .val (.ref rc), .val (.ref rv), .val (.ref b5), .val (.ref rb), .val (.ref rb)] [(.ref ra), (.ref rv), (.int (1 : Int32)), (.int (0 : Int32)), (.ref ra)]))
    refine own_st (fun wt wk => XS.aload X27.here hx rfl (hb hby at_163) rfl rfl wk) ?_
    show Fin1 p e below s (rm0Q Z i0 i1 i2 i3 i4 i5 h0 n0) room_1.cells room_1.slots (T27.setTop (mkF m 165 #[.val (.int i0), .val (.int i1), .val (.int i2), .val (.int i3), .val (.int i4), .val (.int i5), .val (.int (2 : Int32)), .val (.int (1 : Int32)), .val (.ref ra), .val (.ref rb), .val (.ref rc), .val (.ref rv), .val (.ref b5), .val (.ref rb), .val (.ref rb)] [(.ref rb), (.ref ra), (.ref rv), (.int (1 : Int32)), (.int (0 : Int32)), (.ref ra)]))
    refine own_st (fun wt wk => XS.aload X27.here hx rfl (hb hby at_165) rfl rfl wk) ?_
    show Fin1 p e below s (rm0Q Z i0 i1 i2 i3 i4 i5 h0 n0) room_1.cells room_1.slots (T27.setTop (mkF m 167 #[.val (.int i0), .val (.int i1), .val (.int i2), .val (.int i3), .val (.int i4), .val (.int i5), .val (.int (2 : Int32)), .val (.int (1 : Int32)), .val (.ref ra), .val (.ref rb), .val (.ref rc), .val (.ref rv), .val (.ref b5), .val (.ref rb), .val (.ref rb)] [(.ref rc), (.ref rb), (.ref ra), (.ref rv), (.int (1 : Int32)), (.int (0 : Int32)), (.ref ra)]))
    obtain ⟨v28, T28, h28, L28, X28, e28, hQ28, st28⟩ := own_static X27 hx hZ hown (hw _ (List.mem_of_getElem? (i := 60) rfl)) (hw _ (List.mem_of_getElem? (i := 61) rfl)) (hw _ (List.mem_of_getElem? (i := 62) rfl)) (hw _ (List.mem_of_getElem? (i := 63) rfl)) (by decide) (rmX l Z a0 hw (0 : Int32) (1 : Int32) rv ra rb rc ra h24 n0 Z0 (by simp [own_exp])) e27 (g := (mkF m 167 #[.val (.int i0), .val (.int i1), .val (.int i2), .val (.int i3), .val (.int i4), .val (.int i5), .val (.int (2 : Int32)), .val (.int (1 : Int32)), .val (.ref ra), .val (.ref rb), .val (.ref rc), .val (.ref rv), .val (.ref b5), .val (.ref rb), .val (.ref rb)] [(.ref rc), (.ref rb), (.ref ra), (.ref rv), (.int (1 : Int32)), (.int (0 : Int32)), (.ref ra)])) rfl (by rw [hml]; rfl) (argsL := [(.int (0 : Int32)), (.int (1 : Int32)), (.ref rv), (.ref ra), (.ref rb), (.ref rc)]) (rest := [(.ref ra)]) (lenOf pd_12 rfl) rfl (W := 1) (by show 2 * 0 + _ ≤ _; exact Nat.le_of_eq rfl) (hb hby at_167) (by decide) (by decide) (by decide) (by decide)
    obtain ⟨rfl, N28q, hh28⟩ := hQ28
    have N28 := Fr.app N27 N28q
    rw [hh28] at e28
    refine own_st st28 ?_
    show Fin1 p e below s (rm0Q Z i0 i1 i2 i3 i4 i5 h0 n0) room_1.cells room_1.slots (T28.setTop (mkF m 170 #[.val (.int i0), .val (.int i1), .val (.int i2), .val (.int i3), .val (.int i4), .val (.int i5), .val (.int (2 : Int32)), .val (.int (1 : Int32)), .val (.ref ra), .val (.ref rb), .val (.ref rc), .val (.ref rv), .val (.ref b5), .val (.ref rb), .val (.ref rb)] [(.ref ra), (.ref ra)]))
    refine own_st (fun wt wk => Jvm.RoadKit.acmp (g := (mkF m 170 #[.val (.int i0), .val (.int i1), .val (.int i2), .val (.int i3), .val (.int i4), .val (.int i5), .val (.int (2 : Int32)), .val (.int (1 : Int32)), .val (.ref ra), .val (.ref rb), .val (.ref rc), .val (.ref rv), .val (.ref b5), .val (.ref rb), .val (.ref rb)] [(.ref ra), (.ref ra)])) X28 hx rfl rfl rfl (pc0 := 170) (pc' := 175) (same := true) rfl (hb hby at_170) rfl (decide_eq_true rfl) (by decide) (by decide) wk) ?_
    show Fin1 p e below s (rm0Q Z i0 i1 i2 i3 i4 i5 h0 n0) room_1.cells room_1.slots (T28.setTop (mkF m 175 #[.val (.int i0), .val (.int i1), .val (.int i2), .val (.int i3), .val (.int i4), .val (.int i5), .val (.int (2 : Int32)), .val (.int (1 : Int32)), .val (.ref ra), .val (.ref rb), .val (.ref rc), .val (.ref rv), .val (.ref b5), .val (.ref rb), .val (.ref rb)] []))
    refine own_st (fun wt wk => XS.iload X28.here hx rfl (hb hby at_175) rfl wk) ?_
    show Fin1 p e below s (rm0Q Z i0 i1 i2 i3 i4 i5 h0 n0) room_1.cells room_1.slots (T28.setTop (mkF m 177 #[.val (.int i0), .val (.int i1), .val (.int i2), .val (.int i3), .val (.int i4), .val (.int i5), .val (.int (2 : Int32)), .val (.int (1 : Int32)), .val (.ref ra), .val (.ref rb), .val (.ref rc), .val (.ref rv), .val (.ref b5), .val (.ref rb), .val (.ref rb)] [(.int (2 : Int32))]))
    refine own_st (fun wt wk => XS.iconst X28.here hx rfl (hb hby at_177) wk) ?_
    show Fin1 p e below s (rm0Q Z i0 i1 i2 i3 i4 i5 h0 n0) room_1.cells room_1.slots (T28.setTop (mkF m 178 #[.val (.int i0), .val (.int i1), .val (.int i2), .val (.int i3), .val (.int i4), .val (.int i5), .val (.int (2 : Int32)), .val (.int (1 : Int32)), .val (.ref ra), .val (.ref rb), .val (.ref rc), .val (.ref rv), .val (.ref b5), .val (.ref rb), .val (.ref rb)] [(.int (1 : Int32)), (.int (2 : Int32))]))
    refine own_st (fun wt wk => XS.icmpNo X28.here hx rfl (hb hby at_178) rfl (tlt (by decide)).2.2.2 wk) ?_
    show Fin1 p e below s (rm0Q Z i0 i1 i2 i3 i4 i5 h0 n0) room_1.cells room_1.slots (T28.setTop (mkF m 181 #[.val (.int i0), .val (.int i1), .val (.int i2), .val (.int i3), .val (.int i4), .val (.int i5), .val (.int (2 : Int32)), .val (.int (1 : Int32)), .val (.ref ra), .val (.ref rb), .val (.ref rc), .val (.ref rv), .val (.ref b5), .val (.ref rb), .val (.ref rb)] []))
    refine own_st (fun wt wk => XS.aload X28.here hx rfl (hb hby at_181) rfl rfl wk) ?_
    show Fin1 p e below s (rm0Q Z i0 i1 i2 i3 i4 i5 h0 n0) room_1.cells room_1.slots (T28.setTop (mkF m 183 #[.val (.int i0), .val (.int i1), .val (.int i2), .val (.int i3), .val (.int i4), .val (.int i5), .val (.int (2 : Int32)), .val (.int (1 : Int32)), .val (.ref ra), .val (.ref rb), .val (.ref rc), .val (.ref rv), .val (.ref b5), .val (.ref rb), .val (.ref rb)] [(.ref b5)]))
    refine own_st (fun wt wk => XS.iconst X28.here hx rfl (hb hby at_183) wk) ?_
    show Fin1 p e below s (rm0Q Z i0 i1 i2 i3 i4 i5 h0 n0) room_1.cells room_1.slots (T28.setTop (mkF m 184 #[.val (.int i0), .val (.int i1), .val (.int i2), .val (.int i3), .val (.int i4), .val (.int i5), .val (.int (2 : Int32)), .val (.int (1 : Int32)), .val (.ref ra), .val (.ref rb), .val (.ref rc), .val (.ref rv), .val (.ref b5), .val (.ref rb), .val (.ref rb)] [(.int (1 : Int32)), (.ref b5)]))
    obtain ⟨v29, T29, h29, L29, X29, e29, hQ29, st29⟩ := own_virtual X28 hx hZ hown (hw _ (List.mem_of_getElem? (i := 59) rfl)) (hw _ (List.mem_of_getElem? (i := 48) rfl)) (hw _ (List.mem_of_getElem? (i := 50) rfl)) (hw _ (List.mem_of_getElem? (i := 49) rfl)) (hw _ (List.mem_of_getElem? (i := 51) rfl)) (hw _ (List.mem_of_getElem? (i := 10) rfl)) (by decide) (a := b5) E_b5 (rmG l Z a0 hw b5 (1 : Int32) t kt [(.ref ra), (.ref rv), .null, .null, .null, .null, .null, .null, .null, .null] (.ref rv) h24 n0 Z0 Fe V_t (by decide) rfl (Or.inr ⟨_, rfl⟩)) e28 (g := (mkF m 184 #[.val (.int i0), .val (.int i1), .val (.int i2), .val (.int i3), .val (.int i4), .val (.int i5), .val (.int (2 : Int32)), .val (.int (1 : Int32)), .val (.ref ra), .val (.ref rb), .val (.ref rc), .val (.ref rv), .val (.ref b5), .val (.ref rb), .val (.ref rb)] [(.int (1 : Int32)), (.ref b5)])) rfl (by rw [hml]; rfl) (argsL := [(.int (1 : Int32))]) (rest := []) (lenOf pd_6 rfl) rfl (W := 0) (by show 2 * 0 + _ ≤ _; exact Nat.le_of_eq rfl) (hb hby at_184) (by decide) (by decide) (by decide) (by decide)
    obtain ⟨rfl, N29q, hh29⟩ := hQ29
    have N29 := Fr.app N28 N29q
    rw [hh29] at e29
    refine own_st st29 ?_
    show Fin1 p e below s (rm0Q Z i0 i1 i2 i3 i4 i5 h0 n0) room_1.cells room_1.slots (T29.setTop (mkF m 187 #[.val (.int i0), .val (.int i1), .val (.int i2), .val (.int i3), .val (.int i4), .val (.int i5), .val (.int (2 : Int32)), .val (.int (1 : Int32)), .val (.ref ra), .val (.ref rb), .val (.ref rc), .val (.ref rv), .val (.ref b5), .val (.ref rb), .val (.ref rb)] [(.ref rv)]))
    refine own_st (fun wt wk => XS.iconst X29.here hx rfl (hb hby at_187) wk) ?_
    show Fin1 p e below s (rm0Q Z i0 i1 i2 i3 i4 i5 h0 n0) room_1.cells room_1.slots (T29.setTop (mkF m 188 #[.val (.int i0), .val (.int i1), .val (.int i2), .val (.int i3), .val (.int i4), .val (.int i5), .val (.int (2 : Int32)), .val (.int (1 : Int32)), .val (.ref ra), .val (.ref rb), .val (.ref rc), .val (.ref rv), .val (.ref b5), .val (.ref rb), .val (.ref rb)] [(.int (1 : Int32)), (.ref rv)]))
    refine own_st (fun wt wk => XS.iload X29.here hx rfl (hb hby at_188) rfl wk) ?_
    show Fin1 p e below s (rm0Q Z i0 i1 i2 i3 i4 i5 h0 n0) room_1.cells room_1.slots (T29.setTop (mkF m 190 #[.val (.int i0), .val (.int i1), .val (.int i2), .val (.int i3), .val (.int i4), .val (.int i5), .val (.int (2 : Int32)), .val (.int (1 : Int32)), .val (.ref ra), .val (.ref rb), .val (.ref rc), .val (.ref rv), .val (.ref b5), .val (.ref rb), .val (.ref rb)] [(.int (1 : Int32)), (.int (1 : Int32)), (.ref rv)]))
    refine own_st (fun wt wk => XS.aload X29.here hx rfl (hb hby at_190) rfl rfl wk) ?_
    show Fin1 p e below s (rm0Q Z i0 i1 i2 i3 i4 i5 h0 n0) room_1.cells room_1.slots (T29.setTop (mkF m 192 #[.val (.int i0), .val (.int i1), .val (.int i2), .val (.int i3), .val (.int i4), .val (.int i5), .val (.int (2 : Int32)), .val (.int (1 : Int32)), .val (.ref ra), .val (.ref rb), .val (.ref rc), .val (.ref rv), .val (.ref b5), .val (.ref rb), .val (.ref rb)] [(.ref rv), (.int (1 : Int32)), (.int (1 : Int32)), (.ref rv)]))
    refine own_st (fun wt wk => XS.aload X29.here hx rfl (hb hby at_192) rfl rfl wk) ?_
    show Fin1 p e below s (rm0Q Z i0 i1 i2 i3 i4 i5 h0 n0) room_1.cells room_1.slots (T29.setTop (mkF m 194 #[.val (.int i0), .val (.int i1), .val (.int i2), .val (.int i3), .val (.int i4), .val (.int i5), .val (.int (2 : Int32)), .val (.int (1 : Int32)), .val (.ref ra), .val (.ref rb), .val (.ref rc), .val (.ref rv), .val (.ref b5), .val (.ref rb), .val (.ref rb)] [(.ref ra), (.ref rv), (.int (1 : Int32)), (.int (1 : Int32)), (.ref rv)]))
    refine own_st (fun wt wk => XS.aload X29.here hx rfl (hb hby at_194) rfl rfl wk) ?_
    show Fin1 p e below s (rm0Q Z i0 i1 i2 i3 i4 i5 h0 n0) room_1.cells room_1.slots (T29.setTop (mkF m 196 #[.val (.int i0), .val (.int i1), .val (.int i2), .val (.int i3), .val (.int i4), .val (.int i5), .val (.int (2 : Int32)), .val (.int (1 : Int32)), .val (.ref ra), .val (.ref rb), .val (.ref rc), .val (.ref rv), .val (.ref b5), .val (.ref rb), .val (.ref rb)] [(.ref rb), (.ref ra), (.ref rv), (.int (1 : Int32)), (.int (1 : Int32)), (.ref rv)]))
    refine own_st (fun wt wk => XS.aload X29.here hx rfl (hb hby at_196) rfl rfl wk) ?_
    show Fin1 p e below s (rm0Q Z i0 i1 i2 i3 i4 i5 h0 n0) room_1.cells room_1.slots (T29.setTop (mkF m 198 #[.val (.int i0), .val (.int i1), .val (.int i2), .val (.int i3), .val (.int i4), .val (.int i5), .val (.int (2 : Int32)), .val (.int (1 : Int32)), .val (.ref ra), .val (.ref rb), .val (.ref rc), .val (.ref rv), .val (.ref b5), .val (.ref rb), .val (.ref rb)] [(.ref rc), (.ref rb), (.ref ra), (.ref rv), (.int (1 : Int32)), (.int (1 : Int32)), (.ref rv)]))
    obtain ⟨v30, T30, h30, L30, X30, e30, hQ30, st30⟩ := own_static X29 hx hZ hown (hw _ (List.mem_of_getElem? (i := 60) rfl)) (hw _ (List.mem_of_getElem? (i := 61) rfl)) (hw _ (List.mem_of_getElem? (i := 62) rfl)) (hw _ (List.mem_of_getElem? (i := 63) rfl)) (by decide) (rmX l Z a0 hw (1 : Int32) (1 : Int32) rv ra rb rc rv h24 n0 Z0 (by simp [own_exp])) e29 (g := (mkF m 198 #[.val (.int i0), .val (.int i1), .val (.int i2), .val (.int i3), .val (.int i4), .val (.int i5), .val (.int (2 : Int32)), .val (.int (1 : Int32)), .val (.ref ra), .val (.ref rb), .val (.ref rc), .val (.ref rv), .val (.ref b5), .val (.ref rb), .val (.ref rb)] [(.ref rc), (.ref rb), (.ref ra), (.ref rv), (.int (1 : Int32)), (.int (1 : Int32)), (.ref rv)])) rfl (by rw [hml]; rfl) (argsL := [(.int (1 : Int32)), (.int (1 : Int32)), (.ref rv), (.ref ra), (.ref rb), (.ref rc)]) (rest := [(.ref rv)]) (lenOf pd_12 rfl) rfl (W := 1) (by show 2 * 0 + _ ≤ _; exact Nat.le_of_eq rfl) (hb hby at_198) (by decide) (by decide) (by decide) (by decide)
    obtain ⟨rfl, N30q, hh30⟩ := hQ30
    have N30 := Fr.app N29 N30q
    rw [hh30] at e30
    refine own_st st30 ?_
    show Fin1 p e below s (rm0Q Z i0 i1 i2 i3 i4 i5 h0 n0) room_1.cells room_1.slots (T30.setTop (mkF m 201 #[.val (.int i0), .val (.int i1), .val (.int i2), .val (.int i3), .val (.int i4), .val (.int i5), .val (.int (2 : Int32)), .val (.int (1 : Int32)), .val (.ref ra), .val (.ref rb), .val (.ref rc), .val (.ref rv), .val (.ref b5), .val (.ref rb), .val (.ref rb)] [(.ref rv), (.ref rv)]))
    refine own_st (fun wt wk => Jvm.RoadKit.acmp (g := (mkF m 201 #[.val (.int i0), .val (.int i1), .val (.int i2), .val (.int i3), .val (.int i4), .val (.int i5), .val (.int (2 : Int32)), .val (.int (1 : Int32)), .val (.ref ra), .val (.ref rb), .val (.ref rc), .val (.ref rv), .val (.ref b5), .val (.ref rb), .val (.ref rb)] [(.ref rv), (.ref rv)])) X30 hx rfl rfl rfl (pc0 := 201) (pc' := 206) (same := true) rfl (hb hby at_201) rfl (decide_eq_true rfl) (by decide) (by decide) wk) ?_
    show Fin1 p e below s (rm0Q Z i0 i1 i2 i3 i4 i5 h0 n0) room_1.cells room_1.slots (T30.setTop (mkF m 206 #[.val (.int i0), .val (.int i1), .val (.int i2), .val (.int i3), .val (.int i4), .val (.int i5), .val (.int (2 : Int32)), .val (.int (1 : Int32)), .val (.ref ra), .val (.ref rb), .val (.ref rc), .val (.ref rv), .val (.ref b5), .val (.ref rb), .val (.ref rb)] []))
    refine own_st (fun wt wk => XS.iload X30.here hx rfl (hb hby at_206) rfl wk) ?_
    show Fin1 p e below s (rm0Q Z i0 i1 i2 i3 i4 i5 h0 n0) room_1.cells room_1.slots (T30.setTop (mkF m 208 #[.val (.int i0), .val (.int i1), .val (.int i2), .val (.int i3), .val (.int i4), .val (.int i5), .val (.int (2 : Int32)), .val (.int (1 : Int32)), .val (.ref ra), .val (.ref rb), .val (.ref rc), .val (.ref rv), .val (.ref b5), .val (.ref rb), .val (.ref rb)] [(.int (2 : Int32))]))
    refine own_st (fun wt wk => XS.iconst X30.here hx rfl (hb hby at_208) wk) ?_
    show Fin1 p e below s (rm0Q Z i0 i1 i2 i3 i4 i5 h0 n0) room_1.cells room_1.slots (T30.setTop (mkF m 209 #[.val (.int i0), .val (.int i1), .val (.int i2), .val (.int i3), .val (.int i4), .val (.int i5), .val (.int (2 : Int32)), .val (.int (1 : Int32)), .val (.ref ra), .val (.ref rb), .val (.ref rc), .val (.ref rv), .val (.ref b5), .val (.ref rb), .val (.ref rb)] [(.int (2 : Int32)), (.int (2 : Int32))]))
    refine own_st (fun wt wk => XS.icmpYes X30.here hx rfl (pc0 := 209) (pc' := 237) rfl (hb hby at_209) rfl (flt (by decide)).2.2.2 (by decide) (by decide) wk) ?_
    show Fin1 p e below s (rm0Q Z i0 i1 i2 i3 i4 i5 h0 n0) room_1.cells room_1.slots (T30.setTop (mkF m 237 #[.val (.int i0), .val (.int i1), .val (.int i2), .val (.int i3), .val (.int i4), .val (.int i5), .val (.int (2 : Int32)), .val (.int (1 : Int32)), .val (.ref ra), .val (.ref rb), .val (.ref rc), .val (.ref rv), .val (.ref b5), .val (.ref rb), .val (.ref rb)] []))
    refine own_st (fun wt wk => XS.aload X30.here hx rfl (hb hby at_237) rfl rfl wk) ?_
    show Fin1 p e below s (rm0Q Z i0 i1 i2 i3 i4 i5 h0 n0) room_1.cells room_1.slots (T30.setTop (mkF m 239 #[.val (.int i0), .val (.int i1), .val (.int i2), .val (.int i3), .val (.int i4), .val (.int i5), .val (.int (2 : Int32)), .val (.int (1 : Int32)), .val (.ref ra), .val (.ref rb), .val (.ref rc), .val (.ref rv), .val (.ref b5), .val (.ref rb), .val (.ref rb)] [(.ref b5)]))
    refine own_st (fun wt wk => XS.iload X30.here hx rfl (hb hby at_239) rfl wk) ?_
    show Fin1 p e below s (rm0Q Z i0 i1 i2 i3 i4 i5 h0 n0) room_1.cells room_1.slots (T30.setTop (mkF m 241 #[.val (.int i0), .val (.int i1), .val (.int i2), .val (.int i3), .val (.int i4), .val (.int i5), .val (.int (2 : Int32)), .val (.int (1 : Int32)), .val (.ref ra), .val (.ref rb), .val (.ref rc), .val (.ref rv), .val (.ref b5), .val (.ref rb), .val (.ref rb)] [(.int (2 : Int32)), (.ref b5)]))
    obtain ⟨v31, T31, h31, L31, X31, e31, hQ31, st31⟩ := own_virtual X30 hx hZ hown (hw _ (List.mem_of_getElem? (i := 59) rfl)) (hw _ (List.mem_of_getElem? (i := 48) rfl)) (hw _ (List.mem_of_getElem? (i := 50) rfl)) (hw _ (List.mem_of_getElem? (i := 49) rfl)) (hw _ (List.mem_of_getElem? (i := 51) rfl)) (hw _ (List.mem_of_getElem? (i := 10) rfl)) (by decide) (a := b5) E_b5 (rmG l Z a0 hw b5 (2 : Int32) t kt [(.ref ra), (.ref rv), .null, .null, .null, .null, .null, .null, .null, .null] .null h24 n0 Z0 Fe V_t (by decide) rfl (Or.inl rfl)) e30 (g := (mkF m 241 #[.val (.int i0), .val (.int i1), .val (.int i2), .val (.int i3), .val (.int i4), .val (.int i5), .val (.int (2 : Int32)), .val (.int (1 : Int32)), .val (.ref ra), .val (.ref rb), .val (.ref rc), .val (.ref rv), .val (.ref b5), .val (.ref rb), .val (.ref rb)] [(.int (2 : Int32)), (.ref b5)])) rfl (by rw [hml]; rfl) (argsL := [(.int (2 : Int32))]) (rest := []) (lenOf pd_6 rfl) rfl (W := 0) (by show 2 * 0 + _ ≤ _; exact Nat.le_of_eq rfl) (hb hby at_241) (by decide) (by decide) (by decide) (by decide)
    obtain ⟨rfl, N31q, hh31⟩ := hQ31
    have N31 := Fr.app N30 N31q
    rw [hh31] at e31
    refine own_st st31 ?_
    show Fin1 p e below s (rm0Q Z i0 i1 i2 i3 i4 i5 h0 n0) room_1.cells room_1.slots (T31.setTop (mkF m 244 #[.val (.int i0), .val (.int i1), .val (.int i2), .val (.int i3), .val (.int i4), .val (.int i5), .val (.int (2 : Int32)), .val (.int (1 : Int32)), .val (.ref ra), .val (.ref rb), .val (.ref rc), .val (.ref rv), .val (.ref b5), .val (.ref rb), .val (.ref rb)] [.null]))
    refine own_st (fun wt wk => XS.ifnullYes X31.here hx rfl (pc0 := 244) (pc' := 249) rfl (hb hby at_244) rfl (by decide) (by decide) wk) ?_
    show Fin1 p e below s (rm0Q Z i0 i1 i2 i3 i4 i5 h0 n0) room_1.cells room_1.slots (T31.setTop (mkF m 249 #[.val (.int i0), .val (.int i1), .val (.int i2), .val (.int i3), .val (.int i4), .val (.int i5), .val (.int (2 : Int32)), .val (.int (1 : Int32)), .val (.ref ra), .val (.ref rb), .val (.ref rc), .val (.ref rv), .val (.ref b5), .val (.ref rb), .val (.ref rb)] []))
    refine own_st (fun wt wk => XS.iconst X31.here hx rfl (hb hby at_249) wk) ?_
    show Fin1 p e below s (rm0Q Z i0 i1 i2 i3 i4 i5 h0 n0) room_1.cells room_1.slots (T31.setTop (mkF m 250 #[.val (.int i0), .val (.int i1), .val (.int i2), .val (.int i3), .val (.int i4), .val (.int i5), .val (.int (2 : Int32)), .val (.int (1 : Int32)), .val (.ref ra), .val (.ref rb), .val (.ref rc), .val (.ref rv), .val (.ref b5), .val (.ref rb), .val (.ref rb)] [(.int (1 : Int32))]))
    exact own_retZ X31 hx hlk hret (hb hby at_250) (z := (1 : Int32)) (by decide) (by rw [e31]; exact ⟨rfl, N31⟩) (by decide) (by decide)
  · show Fin1 p e below s (rm0Q Z i0 i1 i2 i3 i4 i5 h0 n0) room_1.cells room_1.slots (T7.setTop (mkF m 65 #[.val (.int i0), .val (.int i1), .val (.int i2), .val (.int i3), .val (.int i4), .val (.int i5), .val (.int (3 : Int32)), .val (.int (0 : Int32)), .val (.ref ra), .val (.ref rb), .val (.ref rc), .val (.ref rv), .val (.ref b5), .unset, .unset] [(.int (1 : Int32)), (.int (3 : Int32))]))
    refine own_st (fun wt wk => XS.icmpNo X7.here hx rfl (hb hby at_65) rfl (tlt (by decide)).2.2.2 wk) ?_
    show Fin1 p e below s (rm0Q Z i0 i1 i2 i3 i4 i5 h0 n0) room_1.cells room_1.slots (T7.setTop (mkF m 68 #[.val (.int i0), .val (.int i1), .val (.int i2), .val (.int i3), .val (.int i4), .val (.int i5), .val (.int (3 : Int32)), .val (.int (0 : Int32)), .val (.ref ra), .val (.ref rb), .val (.ref rc), .val (.ref rv), .val (.ref b5), .unset, .unset] []))
    refine own_st (fun wt wk => XS.aload X7.here hx rfl (hb hby at_68) rfl rfl wk) ?_
    show Fin1 p e below s (rm0Q Z i0 i1 i2 i3 i4 i5 h0 n0) room_1.cells room_1.slots (T7.setTop (mkF m 70 #[.val (.int i0), .val (.int i1), .val (.int i2), .val (.int i3), .val (.int i4), .val (.int i5), .val (.int (3 : Int32)), .val (.int (0 : Int32)), .val (.ref ra), .val (.ref rb), .val (.ref rc), .val (.ref rv), .val (.ref b5), .unset, .unset] [(.ref b5)]))
    refine own_st (fun wt wk => XS.iconst X7.here hx rfl (hb hby at_70) wk) ?_
    show Fin1 p e below s (rm0Q Z i0 i1 i2 i3 i4 i5 h0 n0) room_1.cells room_1.slots (T7.setTop (mkF m 71 #[.val (.int i0), .val (.int i1), .val (.int i2), .val (.int i3), .val (.int i4), .val (.int i5), .val (.int (3 : Int32)), .val (.int (0 : Int32)), .val (.ref ra), .val (.ref rb), .val (.ref rc), .val (.ref rv), .val (.ref b5), .unset, .unset] [(.int (1 : Int32)), (.ref b5)]))
    refine own_st (fun wt wk => XS.aload X7.here hx rfl (hb hby at_71) rfl rfl wk) ?_
    show Fin1 p e below s (rm0Q Z i0 i1 i2 i3 i4 i5 h0 n0) room_1.cells room_1.slots (T7.setTop (mkF m 73 #[.val (.int i0), .val (.int i1), .val (.int i2), .val (.int i3), .val (.int i4), .val (.int i5), .val (.int (3 : Int32)), .val (.int (0 : Int32)), .val (.ref ra), .val (.ref rb), .val (.ref rc), .val (.ref rv), .val (.ref b5), .unset, .unset] [(.ref rb), (.int (1 : Int32)), (.ref b5)]))
    obtain ⟨v32, T32, h32, L32, X32, e32, hQ32, st32⟩ := own_virtual X7 hx hZ hown (hw _ (List.mem_of_getElem? (i := 26) rfl)) (hw _ (List.mem_of_getElem? (i := 27) rfl)) (hw _ (List.mem_of_getElem? (i := 29) rfl)) (hw _ (List.mem_of_getElem? (i := 28) rfl)) (hw _ (List.mem_of_getElem? (i := 30) rfl)) (hw _ (List.mem_of_getElem? (i := 10) rfl)) (by decide) (a := b5) E_b5 (rmI1 l Z a0 hw b5 rb t kt ra h7 n0 Z0 g_b5 g_t E_b5 E_rb Fe Fs V_t hov ne_b5_t) e7 (g := (mkF m 73 #[.val (.int i0), .val (.int i1), .val (.int i2), .val (.int i3), .val (.int i4), .val (.int i5), .val (.int (3 : Int32)), .val (.int (0 : Int32)), .val (.ref ra), .val (.ref rb), .val (.ref rc), .val (.ref rv), .val (.ref b5), .unset, .unset] [(.ref rb), (.int (1 : Int32)), (.ref b5)])) rfl (by rw [hml]; rfl) (argsL := [(.int (1 : Int32)), (.ref rb)]) (rest := []) (lenOf pd_9 rfl) rfl (W := 0) (by show 2 * 0 + _ ≤ _; exact Nat.le_of_eq rfl) (hb hby at_73) (by decide) (by decide) (by decide) (by decide)
    obtain ⟨rfl, N32q, K32, Fe, Fs, V_t⟩ := hQ32
    have N32 := Fr.app N7 N32q
    have Z0 := Nat.le_trans Z0 K32.1
    have O := O.keep K32 (allS (P := fun x => n0 ≤ x) g_b5 (allS (P := fun x => n0 ≤ x) g_t all0))
    have E_ra := E_ra.keep K32
    have E_rb := E_rb.keep K32
    have E_rc := E_rc.keep K32
    have E_rv := E_rv.keep K32
    have E_b5 := E_b5.keep K32
    refine own_st st32 ?_
    show Fin1 p e below s (rm0Q Z i0 i1 i2 i3 i4 i5 h0 n0) room_1.cells room_1.slots (T32.setTop (mkF m 76 #[.val (.int i0), .val (.int i1), .val (.int i2), .val (.int i3), .val (.int i4), .val (.int i5), .val (.int (3 : Int32)), .val (.int (0 : Int32)), .val (.ref ra), .val (.ref rb), .val (.ref rc), .val (.ref rv), .val (.ref b5), .unset, .unset] []))
    refine own_st (fun wt wk => XS.iload X32.here hx rfl (hb hby at_76) rfl wk) ?_
    show Fin1 p e below s (rm0Q Z i0 i1 i2 i3 i4 i5 h0 n0) room_1.cells room_1.slots (T32.setTop (mkF m 78 #[.val (.int i0), .val (.int i1), .val (.int i2), .val (.int i3), .val (.int i4), .val (.int i5), .val (.int (3 : Int32)), .val (.int (0 : Int32)), .val (.ref ra), .val (.ref rb), .val (.ref rc), .val (.ref rv), .val (.ref b5), .unset, .unset] [(.int (3 : Int32))]))
    refine own_st (fun wt wk => XS.iconst X32.here hx rfl (hb hby at_78) wk) ?_
    show Fin1 p e below s (rm0Q Z i0 i1 i2 i3 i4 i5 h0 n0) room_1.cells room_1.slots (T32.setTop (mkF m 79 #[.val (.int i0), .val (.int i1), .val (.int i2), .val (.int i3), .val (.int i4), .val (.int i5), .val (.int (3 : Int32)), .val (.int (0 : Int32)), .val (.ref ra), .val (.ref rb), .val (.ref rc), .val (.ref rv), .val (.ref b5), .unset, .unset] [(.int (2 : Int32)), (.int (3 : Int32))]))
    refine own_st (fun wt wk => XS.icmpNo X32.here hx rfl (hb hby at_79) rfl (tlt (by decide)).2.2.2 wk) ?_
    show Fin1 p e below s (rm0Q Z i0 i1 i2 i3 i4 i5 h0 n0) room_1.cells room_1.slots (T32.setTop (mkF m 82 #[.val (.int i0), .val (.int i1), .val (.int i2), .val (.int i3), .val (.int i4), .val (.int i5), .val (.int (3 : Int32)), .val (.int (0 : Int32)), .val (.ref ra), .val (.ref rb), .val (.ref rc), .val (.ref rv), .val (.ref b5), .unset, .unset] []))
    refine own_st (fun wt wk => XS.aload X32.here hx rfl (hb hby at_82) rfl rfl wk) ?_
    show Fin1 p e below s (rm0Q Z i0 i1 i2 i3 i4 i5 h0 n0) room_1.cells room_1.slots (T32.setTop (mkF m 84 #[.val (.int i0), .val (.int i1), .val (.int i2), .val (.int i3), .val (.int i4), .val (.int i5), .val (.int (3 : Int32)), .val (.int (0 : Int32)), .val (.ref ra), .val (.ref rb), .val (.ref rc), .val (.ref rv), .val (.ref b5), .unset, .unset] [(.ref b5)]))
    refine own_st (fun wt wk => XS.iconst X32.here hx rfl (hb hby at_84) wk) ?_
    show Fin1 p e below s (rm0Q Z i0 i1 i2 i3 i4 i5 h0 n0) room_1.cells room_1.slots (T32.setTop (mkF m 85 #[.val (.int i0), .val (.int i1), .val (.int i2), .val (.int i3), .val (.int i4), .val (.int i5), .val (.int (3 : Int32)), .val (.int (0 : Int32)), .val (.ref ra), .val (.ref rb), .val (.ref rc), .val (.ref rv), .val (.ref b5), .unset, .unset] [(.int (2 : Int32)), (.ref b5)]))
    refine own_st (fun wt wk => XS.aload X32.here hx rfl (hb hby at_85) rfl rfl wk) ?_
    show Fin1 p e below s (rm0Q Z i0 i1 i2 i3 i4 i5 h0 n0) room_1.cells room_1.slots (T32.setTop (mkF m 87 #[.val (.int i0), .val (.int i1), .val (.int i2), .val (.int i3), .val (.int i4), .val (.int i5), .val (.int (3 : Int32)), .val (.int (0 : Int32)), .val (.ref ra), .val (.ref rb), .val (.ref rc), .val (.ref rv), .val (.ref b5), .unset, .unset] [(.ref rc), (.int (2 : Int32)), (.ref b5)]))
    obtain ⟨v33, T33, h33, L33, X33, e33, hQ33, st33⟩ := own_virtual X32 hx hZ hown (hw _ (List.mem_of_getElem? (i := 26) rfl)) (hw _ (List.mem_of_getElem? (i := 27) rfl)) (hw _ (List.mem_of_getElem? (i := 29) rfl)) (hw _ (List.mem_of_getElem? (i := 28) rfl)) (hw _ (List.mem_of_getElem? (i := 30) rfl)) (hw _ (List.mem_of_getElem? (i := 10) rfl)) (by decide) (a := b5) E_b5 (rmI2 l Z a0 hw b5 rc t kt ra rb h32 n0 Z0 g_b5 g_t E_b5 E_rc Fe Fs V_t hov ne_b5_t) e32 (g := (mkF m 87 #[.val (.int i0), .val (.int i1), .val (.int i2), .val (.int i3), .val (.int i4), .val (.int i5), .val (.int (3 : Int32)), .val (.int (0 : Int32)), .val (.ref ra), .val (.ref rb), .val (.ref rc), .val (.ref rv), .val (.ref b5), .unset, .unset] [(.ref rc), (.int (2 : Int32)), (.ref b5)])) rfl (by rw [hml]; rfl) (argsL := [(.int (2 : Int32)), (.ref rc)]) (rest := []) (lenOf pd_9 rfl) rfl (W := 0) (by show 2 * 0 + _ ≤ _; exact Nat.le_of_eq rfl) (hb hby at_87) (by decide) (by decide) (by decide) (by decide)
    obtain ⟨rfl, N33q, K33, Fe, Fs, V_t⟩ := hQ33
    have N33 := Fr.app N32 N33q
    have Z0 := Nat.le_trans Z0 K33.1
    have O := O.keep K33 (allS (P := fun x => n0 ≤ x) g_b5 (allS (P := fun x => n0 ≤ x) g_t all0))
    have E_ra := E_ra.keep K33
    have E_rb := E_rb.keep K33
    have E_rc := E_rc.keep K33
    have E_rv := E_rv.keep K33
    have E_b5 := E_b5.keep K33
    refine own_st st33 ?_
    show Fin1 p e below s (rm0Q Z i0 i1 i2 i3 i4 i5 h0 n0) room_1.cells room_1.slots (T33.setTop (mkF m 90 #[.val (.int i0), .val (.int i1), .val (.int i2), .val (.int i3), .val (.int i4), .val (.int i5), .val (.int (3 : Int32)), .val (.int (0 : Int32)), .val (.ref ra), .val (.ref rb), .val (.ref rc), .val (.ref rv), .val (.ref b5), .unset, .unset] []))
    refine own_st (fun wt wk => XS.iload X33.here hx rfl (hb hby at_90) rfl wk) ?_
    show Fin1 p e below s (rm0Q Z i0 i1 i2 i3 i4 i5 h0 n0) room_1.cells room_1.slots (T33.setTop (mkF m 92 #[.val (.int i0), .val (.int i1), .val (.int i2), .val (.int i3), .val (.int i4), .val (.int i5), .val (.int (3 : Int32)), .val (.int (0 : Int32)), .val (.ref ra), .val (.ref rb), .val (.ref rc), .val (.ref rv), .val (.ref b5), .unset, .unset] [(.int (0 : Int32))]))
    refine own_st (fun wt wk => XS.ifNo X33.here hx rfl (hb hby at_92) rfl ((if0 _ _).trans (teq (by decide)).2) wk) ?_
    show Fin1 p e below s (rm0Q Z i0 i1 i2 i3 i4 i5 h0 n0) room_1.cells room_1.slots (T33.setTop (mkF m 95 #[.val (.int i0), .val (.int i1), .val (.int i2), .val (.int i3), .val (.int i4), .val (.int i5), .val (.int (3 : Int32)), .val (.int (0 : Int32)), .val (.ref ra), .val (.ref rb), .val (.ref rc), .val (.ref rv), .val (.ref b5), .unset, .unset] []))
    refine own_st (fun wt wk => XS.aload X33.here hx rfl (hb hby at_95) rfl rfl wk) ?_
    show Fin1 p e below s (rm0Q Z i0 i1 i2 i3 i4 i5 h0 n0) room_1.cells room_1.slots (T33.setTop (mkF m 97 #[.val (.int i0), .val (.int i1), .val (.int i2), .val (.int i3), .val (.int i4), .val (.int i5), .val (.int (3 : Int32)), .val (.int (0 : Int32)), .val (.ref ra), .val (.ref rb), .val (.ref rc), .val (.ref rv), .val (.ref b5), .unset, .unset] [(.ref ra)]))
    refine own_st (fun wt wk => XS.goto X33.here hx rfl (pc0 := 97) (pc' := 113) rfl (hb hby at_97) (by decide) (by decide) wk) ?_
    show Fin1 p e below s (rm0Q Z i0 i1 i2 i3 i4 i5 h0 n0) room_1.cells room_1.slots (T33.setTop (mkF m 113 #[.val (.int i0), .val (.int i1), .val (.int i2), .val (.int i3), .val (.int i4), .val (.int i5), .val (.int (3 : Int32)), .val (.int (0 : Int32)), .val (.ref ra), .val (.ref rb), .val (.ref rc), .val (.ref rv), .val (.ref b5), .unset, .unset] [(.ref ra)]))
    refine own_st (fun wt wk => XS.astore X33.here hx rfl (hb hby at_113) rfl rfl (l' := #[.val (.int i0), .val (.int i1), .val (.int i2), .val (.int i3), .val (.int i4), .val (.int i5), .val (.int (3 : Int32)), .val (.int (0 : Int32)), .val (.ref ra), .val (.ref rb), .val (.ref rc), .val (.ref rv), .val (.ref b5), .val (.ref ra), .unset]) rfl wk) ?_
    show Fin1 p e below s (rm0Q Z i0 i1 i2 i3 i4 i5 h0 n0) room_1.cells room_1.slots (T33.setTop (mkF m 115 #[.val (.int i0), .val (.int i1), .val (.int i2), .val (.int i3), .val (.int i4), .val (.int i5), .val (.int (3 : Int32)), .val (.int (0 : Int32)), .val (.ref ra), .val (.ref rb), .val (.ref rc), .val (.ref rv), .val (.ref b5), .val (.ref ra), .unset] []))
    refine own_st (fun wt wk => XS.aload X33.here hx rfl (hb hby at_115) rfl rfl wk) ?_
    show Fin1 p e below s (rm0Q Z i0 i1 i2 i3 i4 i5 h0 n0) room_1.cells room_1.slots (T33.setTop (mkF m 117 #[.val (.int i0), .val (.int i1), .val (.int i2), .val (.int i3), .val (.int i4), .val (.int i5), .val (.int (3 : Int32)), .val (.int (0 : Int32)), .val (.ref ra), .val (.ref rb), .val (.ref rc), .val (.ref rv), .val (.ref b5), .val (.ref ra), .unset] [(.ref b5)]))
    refine own_st (fun wt wk => XS.iload X33.here hx rfl (hb hby at_117) rfl wk) ?_
    show Fin1 p e below s (rm0Q Z i0 i1 i2 i3 i4 i5 h0 n0) room_1.cells room_1.slots (T33.setTop (mkF m 119 #[.val (.int i0), .val (.int i1), .val (.int i2), .val (.int i3), .val (.int i4), .val (.int i5), .val (.int (3 : Int32)), .val (.int (0 : Int32)), .val (.ref ra), .val (.ref rb), .val (.ref rc), .val (.ref rv), .val (.ref b5), .val (.ref ra), .unset] [(.int (0 : Int32)), (.ref b5)]))
    refine own_st (fun wt wk => XS.aload X33.here hx rfl (hb hby at_119) rfl rfl wk) ?_
    show Fin1 p e below s (rm0Q Z i0 i1 i2 i3 i4 i5 h0 n0) room_1.cells room_1.slots (T33.setTop (mkF m 121 #[.val (.int i0), .val (.int i1), .val (.int i2), .val (.int i3), .val (.int i4), .val (.int i5), .val (.int (3 : Int32)), .val (.int (0 : Int32)), .val (.ref ra), .val (.ref rb), .val (.ref rc), .val (.ref rv), .val (.ref b5), .val (.ref ra), .unset] [(.ref rv), (.int (0 : Int32)), (.ref b5)]))
    obtain ⟨v34, T34, h34, L34, X34, e34, hQ34, st34⟩ := own_virtual X33 hx hZ hown (hw _ (List.mem_of_getElem? (i := 42) rfl)) (hw _ (List.mem_of_getElem? (i := 43) rfl)) (hw _ (List.mem_of_getElem? (i := 45) rfl)) (hw _ (List.mem_of_getElem? (i := 44) rfl)) (hw _ (List.mem_of_getElem? (i := 46) rfl)) (hw _ (List.mem_of_getElem? (i := 10) rfl)) (by decide) (a := b5) E_b5 (rmT l Z a0 hw b5 (0 : Int32) rv t kt [(.ref ra), (.ref rb), (.ref rc), .null, .null, .null, .null, .null, .null, .null] 0 ra h33 n0 Z0 g_t E_b5 E_rv Fe V_t hov ne_b5_t (by decide) rfl rfl (by simp)) e33 (g := (mkF m 121 #[.val (.int i0), .val (.int i1), .val (.int i2), .val (.int i3), .val (.int i4), .val (.int i5), .val (.int (3 : Int32)), .val (.int (0 : Int32)), .val (.ref ra), .val (.ref rb), .val (.ref rc), .val (.ref rv), .val (.ref b5), .val (.ref ra), .unset] [(.ref rv), (.int (0 : Int32)), (.ref b5)])) rfl (by rw [hml]; rfl) (argsL := [(.int (0 : Int32)), (.ref rv)]) (rest := []) (lenOf pd_10 rfl) rfl (W := 0) (by show 2 * 0 + _ ≤ _; exact Nat.le_of_eq rfl) (hb hby at_121) (by decide) (by decide) (by decide) (by decide)
    obtain ⟨rfl, N34q, K34, V_t⟩ := hQ34
    have N34 := Fr.app N33 N34q
    have Z0 := Nat.le_trans Z0 K34.1
    have O := O.keep K34 (allS (P := fun x => n0 ≤ x) g_t all0)
    have E_ra := E_ra.keep K34
    have E_rb := E_rb.keep K34
    have E_rc := E_rc.keep K34
    have E_rv := E_rv.keep K34
    have E_b5 := E_b5.keep K34
    have Fe := Fe.keep K34 (ninS ne_b5_t nin0)
    have Fs := Fs.keep K34 (ninS ne_b5_t nin0)
    refine own_st st34 ?_
    show Fin1 p e below s (rm0Q Z i0 i1 i2 i3 i4 i5 h0 n0) room_1.cells room_1.slots (T34.setTop (mkF m 124 #[.val (.int i0), .val (.int i1), .val (.int i2), .val (.int i3), .val (.int i4), .val (.int i5), .val (.int (3 : Int32)), .val (.int (0 : Int32)), .val (.ref ra), .val (.ref rb), .val (.ref rc), .val (.ref rv), .val (.ref b5), .val (.ref ra), .unset] [(.ref ra)]))
    obtain ⟨T35, X35, e35, st35⟩ := castY X34 hx hZ hown (hw _ (List.mem_of_getElem? (i := 52) rfl)) e34 (Ins.self E_ra) (g := (mkF m 124 #[.val (.int i0), .val (.int i1), .val (.int i2), .val (.int i3), .val (.int i4), .val (.int i5), .val (.int (3 : Int32)), .val (.int (0 : Int32)), .val (.ref ra), .val (.ref rb), .val (.ref rc), .val (.ref rv), .val (.ref b5), .val (.ref ra), .unset] [(.ref ra)])) rfl rfl (hb hby at_124)
    refine own_st st35 ?_
    show Fin1 p e below s (rm0Q Z i0 i1 i2 i3 i4 i5 h0 n0) room_1.cells room_1.slots (T35.setTop (mkF m 127 #[.val (.int i0), .val (.int i1), .val (.int i2), .val (.int i3), .val (.int i4), .val (.int i5), .val (.int (3 : Int32)), .val (.int (0 : Int32)), .val (.ref ra), .val (.ref rb), .val (.ref rc), .val (.ref rv), .val (.ref b5), .val (.ref ra), .unset] [(.ref ra)]))
    refine own_st (fun wt wk => XS.astore X35.here hx rfl (hb hby at_127) rfl rfl (l' := #[.val (.int i0), .val (.int i1), .val (.int i2), .val (.int i3), .val (.int i4), .val (.int i5), .val (.int (3 : Int32)), .val (.int (0 : Int32)), .val (.ref ra), .val (.ref rb), .val (.ref rc), .val (.ref rv), .val (.ref b5), .val (.ref ra), .val (.ref ra)]) rfl wk) ?_
    show Fin1 p e below s (rm0Q Z i0 i1 i2 i3 i4 i5 h0 n0) room_1.cells room_1.slots (T35.setTop (mkF m 129 #[.val (.int i0), .val (.int i1), .val (.int i2), .val (.int i3), .val (.int i4), .val (.int i5), .val (.int (3 : Int32)), .val (.int (0 : Int32)), .val (.ref ra), .val (.ref rb), .val (.ref rc), .val (.ref rv), .val (.ref b5), .val (.ref ra), .val (.ref ra)] []))
    refine own_st (fun wt wk => XS.aload X35.here hx rfl (hb hby at_129) rfl rfl wk) ?_
    show Fin1 p e below s (rm0Q Z i0 i1 i2 i3 i4 i5 h0 n0) room_1.cells room_1.slots (T35.setTop (mkF m 131 #[.val (.int i0), .val (.int i1), .val (.int i2), .val (.int i3), .val (.int i4), .val (.int i5), .val (.int (3 : Int32)), .val (.int (0 : Int32)), .val (.ref ra), .val (.ref rb), .val (.ref rc), .val (.ref rv), .val (.ref b5), .val (.ref ra), .val (.ref ra)] [(.ref ra)]))
    refine own_st (fun wt wk => XS.aload X35.here hx rfl (hb hby at_131) rfl rfl wk) ?_
    show Fin1 p e below s (rm0Q Z i0 i1 i2 i3 i4 i5 h0 n0) room_1.cells room_1.slots (T35.setTop (mkF m 133 #[.val (.int i0), .val (.int i1), .val (.int i2), .val (.int i3), .val (.int i4), .val (.int i5), .val (.int (3 : Int32)), .val (.int (0 : Int32)), .val (.ref ra), .val (.ref rb), .val (.ref rc), .val (.ref rv), .val (.ref b5), .val (.ref ra), .val (.ref ra)] [(.ref ra), (.ref ra)]))
    refine own_st (fun wt wk => Jvm.RoadKit.acmp (g := (mkF m 133 #[.val (.int i0), .val (.int i1), .val (.int i2), .val (.int i3), .val (.int i4), .val (.int i5), .val (.int (3 : Int32)), .val (.int (0 : Int32)), .val (.ref ra), .val (.ref rb), .val (.ref rc), .val (.ref rv), .val (.ref b5), .val (.ref ra), .val (.ref ra)] [(.ref ra), (.ref ra)])) X35 hx rfl rfl rfl (pc0 := 133) (pc' := 138) (same := true) rfl (hb hby at_133) rfl (decide_eq_true rfl) (by decide) (by decide) wk) ?_
    show Fin1 p e below s (rm0Q Z i0 i1 i2 i3 i4 i5 h0 n0) room_1.cells room_1.slots (T35.setTop (mkF m 138 #[.val (.int i0), .val (.int i1), .val (.int i2), .val (.int i3), .val (.int i4), .val (.int i5), .val (.int (3 : Int32)), .val (.int (0 : Int32)), .val (.ref ra), .val (.ref rb), .val (.ref rc), .val (.ref rv), .val (.ref b5), .val (.ref ra), .val (.ref ra)] []))
    refine own_st (fun wt wk => XS.aload X35.here hx rfl (hb hby at_138) rfl rfl wk) ?_
    show Fin1 p e below s (rm0Q Z i0 i1 i2 i3 i4 i5 h0 n0) room_1.cells room_1.slots (T35.setTop (mkF m 140 #[.val (.int i0), .val (.int i1), .val (.int i2), .val (.int i3), .val (.int i4), .val (.int i5), .val (.int (3 : Int32)), .val (.int (0 : Int32)), .val (.ref ra), .val (.ref rb), .val (.ref rc), .val (.ref rv), .val (.ref b5), .val (.ref ra), .val (.ref ra)] [(.ref b5)]))
    obtain ⟨v36, T36, h36, L36, X36, e36, hQ36, st36⟩ := own_virtual X35 hx hZ hown (hw _ (List.mem_of_getElem? (i := 54) rfl)) (hw _ (List.mem_of_getElem? (i := 55) rfl)) (hw _ (List.mem_of_getElem? (i := 57) rfl)) (hw _ (List.mem_of_getElem? (i := 56) rfl)) (hw _ (List.mem_of_getElem? (i := 58) rfl)) (hw _ (List.mem_of_getElem? (i := 10) rfl)) (by decide) (a := b5) E_b5 (rmZ l Z a0 hw b5 (3 : Int32) h34 n0 Z0 Fs) e35 (g := (mkF m 140 #[.val (.int i0), .val (.int i1), .val (.int i2), .val (.int i3), .val (.int i4), .val (.int i5), .val (.int (3 : Int32)), .val (.int (0 : Int32)), .val (.ref ra), .val (.ref rb), .val (.ref rc), .val (.ref rv), .val (.ref b5), .val (.ref ra), .val (.ref ra)] [(.ref b5)])) rfl (by rw [hml]; rfl) (argsL := []) (rest := []) (lenOf pd_11 rfl) rfl (W := 0) (by show 2 * 0 + _ ≤ _; exact Nat.le_of_eq rfl) (hb hby at_140) (by decide) (by decide) (by decide) (by decide)
    obtain ⟨rfl, N36q, hh36⟩ := hQ36
    have N36 := Fr.app N34 N36q
    rw [hh36] at e36
    refine own_st st36 ?_
    show Fin1 p e below s (rm0Q Z i0 i1 i2 i3 i4 i5 h0 n0) room_1.cells room_1.slots (T36.setTop (mkF m 143 #[.val (.int i0), .val (.int i1), .val (.int i2), .val (.int i3), .val (.int i4), .val (.int i5), .val (.int (3 : Int32)), .val (.int (0 : Int32)), .val (.ref ra), .val (.ref rb), .val (.ref rc), .val (.ref rv), .val (.ref b5), .val (.ref ra), .val (.ref ra)] [(.int (3 : Int32))]))
    refine own_st (fun wt wk => XS.iload X36.here hx rfl (hb hby at_143) rfl wk) ?_
    show Fin1 p e below s (rm0Q Z i0 i1 i2 i3 i4 i5 h0 n0) room_1.cells room_1.slots (T36.setTop (mkF m 145 #[.val (.int i0), .val (.int i1), .val (.int i2), .val (.int i3), .val (.int i4), .val (.int i5), .val (.int (3 : Int32)), .val (.int (0 : Int32)), .val (.ref ra), .val (.ref rb), .val (.ref rc), .val (.ref rv), .val (.ref b5), .val (.ref ra), .val (.ref ra)] [(.int (3 : Int32)), (.int (3 : Int32))]))
    refine own_st (fun wt wk => XS.icmpYes X36.here hx rfl (pc0 := 145) (pc' := 150) rfl (hb hby at_145) rfl (teq (by decide)).1 (by decide) (by decide) wk) ?_
    show Fin1 p e below s (rm0Q Z i0 i1 i2 i3 i4 i5 h0 n0) room_1.cells room_1.slots (T36.setTop (mkF m 150 #[.val (.int i0), .val (.int i1), .val (.int i2), .val (.int i3), .val (.int i4), .val (.int i5), .val (.int (3 : Int32)), .val (.int (0 : Int32)), .val (.ref ra), .val (.ref rb), .val (.ref rc), .val (.ref rv), .val (.ref b5), .val (.ref ra), .val (.ref ra)] []))
    refine own_st (fun wt wk => XS.aload X36.here hx rfl (hb hby at_150) rfl rfl wk) ?_
    show Fin1 p e below s (rm0Q Z i0 i1 i2 i3 i4 i5 h0 n0) room_1.cells room_1.slots (T36.setTop (mkF m 152 #[.val (.int i0), .val (.int i1), .val (.int i2), .val (.int i3), .val (.int i4), .val (.int i5), .val (.int (3 : Int32)), .val (.int (0 : Int32)), .val (.ref ra), .val (.ref rb), .val (.ref rc), .val (.ref rv), .val (.ref b5), .val (.ref ra), .val (.ref ra)] [(.ref b5)]))
    refine own_st (fun wt wk => XS.iconst X36.here hx rfl (hb hby at_152) wk) ?_
    show Fin1 p e below s (rm0Q Z i0 i1 i2 i3 i4 i5 h0 n0) room_1.cells room_1.slots (T36.setTop (mkF m 153 #[.val (.int i0), .val (.int i1), .val (.int i2), .val (.int i3), .val (.int i4), .val (.int i5), .val (.int (3 : Int32)), .val (.int (0 : Int32)), .val (.ref ra), .val (.ref rb), .val (.ref rc), .val (.ref rv), .val (.ref b5), .val (.ref ra), .val (.ref ra)] [(.int (0 : Int32)), (.ref b5)]))
    obtain ⟨v37, T37, h37, L37, X37, e37, hQ37, st37⟩ := own_virtual X36 hx hZ hown (hw _ (List.mem_of_getElem? (i := 59) rfl)) (hw _ (List.mem_of_getElem? (i := 48) rfl)) (hw _ (List.mem_of_getElem? (i := 50) rfl)) (hw _ (List.mem_of_getElem? (i := 49) rfl)) (hw _ (List.mem_of_getElem? (i := 51) rfl)) (hw _ (List.mem_of_getElem? (i := 10) rfl)) (by decide) (a := b5) E_b5 (rmG l Z a0 hw b5 (0 : Int32) t kt [(.ref rv), (.ref rb), (.ref rc), .null, .null, .null, .null, .null, .null, .null] (.ref rv) h34 n0 Z0 Fe V_t (by decide) rfl (Or.inr ⟨_, rfl⟩)) e36 (g := (mkF m 153 #[.val (.int i0), .val (.int i1), .val (.int i2), .val (.int i3), .val (.int i4), .val (.int i5), .val (.int (3 : Int32)), .val (.int (0 : Int32)), .val (.ref ra), .val (.ref rb), .val (.ref rc), .val (.ref rv), .val (.ref b5), .val (.ref ra), .val (.ref ra)] [(.int (0 : Int32)), (.ref b5)])) rfl (by rw [hml]; rfl) (argsL := [(.int (0 : Int32))]) (rest := []) (lenOf pd_6 rfl) rfl (W := 0) (by show 2 * 0 + _ ≤ _; exact Nat.le_of_eq rfl) (hb hby at_153) (by decide) (by decide) (by decide) (by decide)
    obtain ⟨rfl, N37q, hh37⟩ := hQ37
    have N37 := Fr.app N36 N37q
    rw [hh37] at e37
    refine own_st st37 ?_
    show Fin1 p e below s (rm0Q Z i0 i1 i2 i3 i4 i5 h0 n0) room_1.cells room_1.slots (T37.setTop (mkF m 156 #[.val (.int i0), .val (.int i1), .val (.int i2), .val (.int i3), .val (.int i4), .val (.int i5), .val (.int (3 : Int32)), .val (.int (0 : Int32)), .val (.ref ra), .val (.ref rb), .val (.ref rc), .val (.ref rv), .val (.ref b5), .val (.ref ra), .val (.ref ra)] [(.ref rv)]))
    refine own_st (fun wt wk => XS.iconst X37.here hx rfl (hb hby at_156) wk) ?_
    show Fin1 p e below s (rm0Q Z i0 i1 i2 i3 i4 i5 h0 n0) room_1.cells room_1.slots (T37.setTop (mkF m 157 #[.val (.int i0), .val (.int i1), .val (.int i2), .val (.int i3), .val (.int i4), .val (.int i5), .val (.int (3 : Int32)), .val (.int (0 : Int32)), .val (.ref ra), .val (.ref rb), .val (.ref rc), .val (.ref rv), .val (.ref b5), .val (.ref ra), .val (.ref ra)] [(.int (0 : Int32)), (.ref rv)]))
    refine own_st (fun wt wk => XS.iload X37.here hx rfl (hb hby at_157) rfl wk) ?_
    show Fin1 p e below s (rm0Q Z i0 i1 i2 i3 i4 i5 h0 n0) room_1.cells room_1.slots (T37.setTop (mkF m 159 #[.val (.int i0), .val (.int i1), .val (.int i2), .val (.int i3), .val (.int i4), .val (.int i5), .val (.int (3 : Int32)), .val (.int (0 : Int32)), .val (.ref ra), .val (.ref rb), .val (.ref rc), .val (.ref rv), .val (.ref b5), .val (.ref ra), .val (.ref ra)] [(.int (0 : Int32)), (.int (0 : Int32)), (.ref rv)]))
    refine own_st (fun wt wk => XS.aload X37.here hx rfl (hb hby at_159) rfl rfl wk) ?_
    show Fin1 p e below s (rm0Q Z i0 i1 i2 i3 i4 i5 h0 n0) room_1.cells room_1.slots (T37.setTop (mkF m 161 #[.val (.int i0), .val (.int i1), .val (.int i2), .val (.int i3), .val (.int i4), .val (.int i5), .val (.int (3 : Int32)), .val (.int (0 : Int32)), .val (.ref ra), .val (.ref rb), .val (.ref rc), .val (.ref rv), .val (.ref b5), .val (.ref ra), .val (.ref ra)] [(.ref rv), (.int (0 : Int32)), (.int (0 : Int32)), (.ref rv)]))
    refine own_st (fun wt wk => XS.aload X37.here hx rfl (hb hby at_161) rfl rfl wk) ?_
    show Fin1 p e below s (rm0Q Z i0 i1 i2 i3 i4 i5 h0 n0) room_1.cells room_1.slots (T37.setTop (mkF m 163 #[.val (.int i0), .val (.int i1), .val (.int i2), .val (.int i3), .val (.int i4), .val (.int i5), .val (.int (3 : Int32)), .val (.int (0 : Int32)), .val (.ref ra), .val (.ref rb), .val (.ref rc), .val (.ref rv), .val (.ref b5), .val (.ref ra), .val (.ref ra)] [(.ref ra), (.ref rv), (.int (0 : Int32)), (.int (0 : Int32)), (.ref rv)]))
    refine own_st (fun wt wk => XS.aload X37.here hx rfl (hb hby at_163) rfl rfl wk) ?_
    show Fin1 p e below s (rm0Q Z i0 i1 i2 i3 i4 i5 h0 n0) room_1.cells room_1.slots (T37.setTop (mkF m 165 #[.val (.int i0), .val (.int i1), .val (.int i2), .val (.int i3), .val (.int i4), .val (.int i5), .val (.int (3 : Int32)), .val (.int (0 : Int32)), .val (.ref ra), .val (.ref rb), .val (.ref rc), .val (.ref rv), .val (.ref b5), .val (.ref ra), .val (.ref ra)] [(.ref rb), (.ref ra), (.ref rv), (.int (0 : Int32)), (.int (0 : Int32)), (.ref rv)]))
    refine own_st (fun wt wk => XS.aload X37.here hx rfl (hb hby at_165) rfl rfl wk) ?_
    show Fin1 p e below s (rm0Q Z i0 i1 i2 i3 i4 i5 h0 n0) room_1.cells room_1.slots (T37.setTop (mkF m 167 #[.val (.int i0), .val (.int i1), .val (.int i2), .val (.int i3), .val (.int i4), .val (.int i5), .val (.int (3 : Int32)), .val (.int (0 : Int32)), .val (.ref ra), .val (.ref rb), .val (.ref rc), .val (.ref rv), .val (.ref b5), .val (.ref ra), .val (.ref ra)] [(.ref rc), (.ref rb), (.ref ra), (.ref rv), (.int (0 : Int32)), (.int (0 : Int32)), (.ref rv)]))
    obtain ⟨v38, T38, h38, L38, X38, e38, hQ38, st38⟩ := own_static X37 hx hZ hown (hw _ (List.mem_of_getElem? (i := 60) rfl)) (hw _ (List.mem_of_getElem? (i := 61) rfl)) (hw _ (List.mem_of_getElem? (i := 62) rfl)) (hw _ (List.mem_of_getElem? (i := 63) rfl)) (by decide) (rmX l Z a0 hw (0 : Int32) (0 : Int32) rv ra rb rc rv h34 n0 Z0 (by simp [own_exp])) e37 (g := (mkF m 167 #[.val (.int i0), .val (.int i1), .val (.int i2), .val (.int i3), .val (.int i4), .val (.int i5), .val (.int (3 : Int32)), .val (.int (0 : Int32)), .val (.ref ra), .val (.ref rb), .val (.ref rc), .val (.ref rv), .val (.ref b5), .val (.ref ra), .val (.ref ra)] [(.ref rc), (.ref rb), (.ref ra), (.ref rv), (.int (0 : Int32)), (.int (0 : Int32)), (.ref rv)])) rfl (by rw [hml]; rfl) (argsL := [(.int (0 : Int32)), (.int (0 : Int32)), (.ref rv), (.ref ra), (.ref rb), (.ref rc)]) (rest := [(.ref rv)]) (lenOf pd_12 rfl) rfl (W := 1) (by show 2 * 0 + _ ≤ _; exact Nat.le_of_eq rfl) (hb hby at_167) (by decide) (by decide) (by decide) (by decide)
    obtain ⟨rfl, N38q, hh38⟩ := hQ38
    have N38 := Fr.app N37 N38q
    rw [hh38] at e38
    refine own_st st38 ?_
    show Fin1 p e below s (rm0Q Z i0 i1 i2 i3 i4 i5 h0 n0) room_1.cells room_1.slots (T38.setTop (mkF m 170 #[.val (.int i0), .val (.int i1), .val (.int i2), .val (.int i3), .val (.int i4), .val (.int i5), .val (.int (3 : Int32)), .val (.int (0 : Int32)), .val (.ref ra), .val (.ref rb), .val (.ref rc), .val (.ref rv), .val (.ref b5), .val (.ref ra), .val (.ref ra)] [(.ref rv), (.ref rv)]))
    refine own_st (fun wt wk => Jvm.RoadKit.acmp (g := (mkF m 170 #[.val (.int i0), .val (.int i1), .val (.int i2), .val (.int i3), .val (.int i4), .val (.int i5), .val (.int (3 : Int32)), .val (.int (0 : Int32)), .val (.ref ra), .val (.ref rb), .val (.ref rc), .val (.ref rv), .val (.ref b5), .val (.ref ra), .val (.ref ra)] [(.ref rv), (.ref rv)])) X38 hx rfl rfl rfl (pc0 := 170) (pc' := 175) (same := true) rfl (hb hby at_170) rfl (decide_eq_true rfl) (by decide) (by decide) wk) ?_
    show Fin1 p e below s (rm0Q Z i0 i1 i2 i3 i4 i5 h0 n0) room_1.cells room_1.slots (T38.setTop (mkF m 175 #[.val (.int i0), .val (.int i1), .val (.int i2), .val (.int i3), .val (.int i4), .val (.int i5), .val (.int (3 : Int32)), .val (.int (0 : Int32)), .val (.ref ra), .val (.ref rb), .val (.ref rc), .val (.ref rv), .val (.ref b5), .val (.ref ra), .val (.ref ra)] []))
    refine own_st (fun wt wk => XS.iload X38.here hx rfl (hb hby at_175) rfl wk) ?_
    show Fin1 p e below s (rm0Q Z i0 i1 i2 i3 i4 i5 h0 n0) room_1.cells room_1.slots (T38.setTop (mkF m 177 #[.val (.int i0), .val (.int i1), .val (.int i2), .val (.int i3), .val (.int i4), .val (.int i5), .val (.int (3 : Int32)), .val (.int (0 : Int32)), .val (.ref ra), .val (.ref rb), .val (.ref rc), .val (.ref rv), .val (.ref b5), .val (.ref ra), .val (.ref ra)] [(.int (3 : Int32))]))
    refine own_st (fun wt wk => XS.iconst X38.here hx rfl (hb hby at_177) wk) ?_
    show Fin1 p e below s (rm0Q Z i0 i1 i2 i3 i4 i5 h0 n0) room_1.cells room_1.slots (T38.setTop (mkF m 178 #[.val (.int i0), .val (.int i1), .val (.int i2), .val (.int i3), .val (.int i4), .val (.int i5), .val (.int (3 : Int32)), .val (.int (0 : Int32)), .val (.ref ra), .val (.ref rb), .val (.ref rc), .val (.ref rv), .val (.ref b5), .val (.ref ra), .val (.ref ra)] [(.int (1 : Int32)), (.int (3 : Int32))]))
    refine own_st (fun wt wk => XS.icmpNo X38.here hx rfl (hb hby at_178) rfl (tlt (by decide)).2.2.2 wk) ?_
    show Fin1 p e below s (rm0Q Z i0 i1 i2 i3 i4 i5 h0 n0) room_1.cells room_1.slots (T38.setTop (mkF m 181 #[.val (.int i0), .val (.int i1), .val (.int i2), .val (.int i3), .val (.int i4), .val (.int i5), .val (.int (3 : Int32)), .val (.int (0 : Int32)), .val (.ref ra), .val (.ref rb), .val (.ref rc), .val (.ref rv), .val (.ref b5), .val (.ref ra), .val (.ref ra)] []))
    refine own_st (fun wt wk => XS.aload X38.here hx rfl (hb hby at_181) rfl rfl wk) ?_
    show Fin1 p e below s (rm0Q Z i0 i1 i2 i3 i4 i5 h0 n0) room_1.cells room_1.slots (T38.setTop (mkF m 183 #[.val (.int i0), .val (.int i1), .val (.int i2), .val (.int i3), .val (.int i4), .val (.int i5), .val (.int (3 : Int32)), .val (.int (0 : Int32)), .val (.ref ra), .val (.ref rb), .val (.ref rc), .val (.ref rv), .val (.ref b5), .val (.ref ra), .val (.ref ra)] [(.ref b5)]))
    refine own_st (fun wt wk => XS.iconst X38.here hx rfl (hb hby at_183) wk) ?_
    show Fin1 p e below s (rm0Q Z i0 i1 i2 i3 i4 i5 h0 n0) room_1.cells room_1.slots (T38.setTop (mkF m 184 #[.val (.int i0), .val (.int i1), .val (.int i2), .val (.int i3), .val (.int i4), .val (.int i5), .val (.int (3 : Int32)), .val (.int (0 : Int32)), .val (.ref ra), .val (.ref rb), .val (.ref rc), .val (.ref rv), .val (.ref b5), .val (.ref ra), .val (.ref ra)] [(.int (1 : Int32)), (.ref b5)]))
    obtain ⟨v39, T39, h39, L39, X39, e39, hQ39, st39⟩ := own_virtual X38 hx hZ hown (hw _ (List.mem_of_getElem? (i := 59) rfl)) (hw _ (List.mem_of_getElem? (i := 48) rfl)) (hw _ (List.mem_of_getElem? (i := 50) rfl)) (hw _ (List.mem_of_getElem? (i := 49) rfl)) (hw _ (List.mem_of_getElem? (i := 51) rfl)) (hw _ (List.mem_of_getElem? (i := 10) rfl)) (by decide) (a := b5) E_b5 (rmG l Z a0 hw b5 (1 : Int32) t kt [(.ref rv), (.ref rb), (.ref rc), .null, .null, .null, .null, .null, .null, .null] (.ref rb) h34 n0 Z0 Fe V_t (by decide) rfl (Or.inr ⟨_, rfl⟩)) e38 (g := (mkF m 184 #[.val (.int i0), .val (.int i1), .val (.int i2), .val (.int i3), .val (.int i4), .val (.int i5), .val (.int (3 : Int32)), .val (.int (0 : Int32)), .val (.ref ra), .val (.ref rb), .val (.ref rc), .val (.ref rv), .val (.ref b5), .val (.ref ra), .val (.ref ra)] [(.int (1 : Int32)), (.ref b5)])) rfl (by rw [hml]; rfl) (argsL := [(.int (1 : Int32))]) (rest := []) (lenOf pd_6 rfl) rfl (W := 0) (by show 2 * 0 + _ ≤ _; exact Nat.le_of_eq rfl) (hb hby at_184) (by decide) (by decide) (by decide) (by decide)
    obtain ⟨rfl, N39q, hh39⟩ := hQ39
    have N39 := Fr.app N38 N39q
    rw [hh39] at e39
    refine own_st st39 ?_
    show Fin1 p e below s (rm0Q Z i0 i1 i2 i3 i4 i5 h0 n0) room_1.cells room_1.slots (T39.setTop (mkF m 187 #[.val (.int i0), .val (.int i1), .val (.int i2), .val (.int i3), .val (.int i4), .val (.int i5), .val (.int (3 : Int32)), .val (.int (0 : Int32)), .val (.ref ra), .val (.ref rb), .val (.ref rc), .val (.ref rv), .val (.ref b5), .val (.ref ra), .val (.ref ra)] [(.ref rb)]))
    refine own_st (fun wt wk => XS.iconst X39.here hx rfl (hb hby at_187) wk) ?_
    show Fin1 p e below s (rm0Q Z i0 i1 i2 i3 i4 i5 h0 n0) room_1.cells room_1.slots (T39.setTop (mkF m 188 #[.val (.int i0), .val (.int i1), .val (.int i2), .val (.int i3), .val (.int i4), .val (.int i5), .val (.int (3 : Int32)), .val (.int (0 : Int32)), .val (.ref ra), .val (.ref rb), .val (.ref rc), .val (.ref rv), .val (.ref b5), .val (.ref ra), .val (.ref ra)] [(.int (1 : Int32)), (.ref rb)]))
    refine own_st (fun wt wk => XS.iload X39.here hx rfl (hb hby at_188) rfl wk) ?_
    show Fin1 p e below s (rm0Q Z i0 i1 i2 i3 i4 i5 h0 n0) room_1.cells room_1.slots (T39.setTop (mkF m 190 #[.val (.int i0), .val (.int i1), .val (.int i2), .val (.int i3), .val (.int i4), .val (.int i5), .val (.int (3 : Int32)), .val (.int (0 : Int32)), .val (.ref ra), .val (.ref rb), .val (.ref rc), .val (.ref rv), .val (.ref b5), .val (.ref ra), .val (.ref ra)] [(.int (0 : Int32)), (.int (1 : Int32)), (.ref rb)]))
    refine own_st (fun wt wk => XS.aload X39.here hx rfl (hb hby at_190) rfl rfl wk) ?_
    show Fin1 p e below s (rm0Q Z i0 i1 i2 i3 i4 i5 h0 n0) room_1.cells room_1.slots (T39.setTop (mkF m 192 #[.val (.int i0), .val (.int i1), .val (.int i2), .val (.int i3), .val (.int i4), .val (.int i5), .val (.int (3 : Int32)), .val (.int (0 : Int32)), .val (.ref ra), .val (.ref rb), .val (.ref rc), .val (.ref rv), .val (.ref b5), .val (.ref ra), .val (.ref ra)] [(.ref rv), (.int (0 : Int32)), (.int (1 : Int32)), (.ref rb)]))
    refine own_st (fun wt wk => XS.aload X39.here hx rfl (hb hby at_192) rfl rfl wk) ?_
    show Fin1 p e below s (rm0Q Z i0 i1 i2 i3 i4 i5 h0 n0) room_1.cells room_1.slots (T39.setTop (mkF m 194 #[.val (.int i0), .val (.int i1), .val (.int i2), .val (.int i3), .val (.int i4), .val (.int i5), .val (.int (3 : Int32)), .val (.int (0 : Int32)), .val (.ref ra), .val (.ref rb), .val (.ref rc), .val (.ref rv), .val (.ref b5), .val (.ref ra), .val (.ref ra)] [(.ref ra), (.ref rv), (.int (0 : Int32)), (.int (1 : Int32)), (.ref rb)]))
    refine own_st (fun wt wk => XS.aload X39.here hx rfl (hb hby at_194) rfl rfl wk) ?_
    show Fin1 p e below s (rm0Q Z i0 i1 i2 i3 i4 i5 h0 n0) room_1.cells room_1.slots (T39.setTop (mkF m 196 #[.val (.int i0), .val (.int i1), .val (.int i2), .val (.int i3), .val (.int i4), .val (.int i5), .val (.int (3 : Int32)), .val (.int (0 : Int32)), .val (.ref ra), .val (.ref rb), .val (.ref rc), .val (.ref rv), .val (.ref b5), .val (.ref ra), .val (.ref ra)] [(.ref rb), (.ref ra), (.ref rv), (.int (0 : Int32)), (.int (1 : Int32)), (.ref rb)]))
    refine own_st (fun wt wk => XS.aload X39.here hx rfl (hb hby at_196) rfl rfl wk) ?_
    show Fin1 p e below s (rm0Q Z i0 i1 i2 i3 i4 i5 h0 n0) room_1.cells room_1.slots (T39.setTop (mkF m 198 #[.val (.int i0), .val (.int i1), .val (.int i2), .val (.int i3), .val (.int i4), .val (.int i5), .val (.int (3 : Int32)), .val (.int (0 : Int32)), .val (.ref ra), .val (.ref rb), .val (.ref rc), .val (.ref rv), .val (.ref b5), .val (.ref ra), .val (.ref ra)] [(.ref rc), (.ref rb), (.ref ra), (.ref rv), (.int (0 : Int32)), (.int (1 : Int32)), (.ref rb)]))
    obtain ⟨v40, T40, h40, L40, X40, e40, hQ40, st40⟩ := own_static X39 hx hZ hown (hw _ (List.mem_of_getElem? (i := 60) rfl)) (hw _ (List.mem_of_getElem? (i := 61) rfl)) (hw _ (List.mem_of_getElem? (i := 62) rfl)) (hw _ (List.mem_of_getElem? (i := 63) rfl)) (by decide) (rmX l Z a0 hw (1 : Int32) (0 : Int32) rv ra rb rc rb h34 n0 Z0 (by simp [own_exp])) e39 (g := (mkF m 198 #[.val (.int i0), .val (.int i1), .val (.int i2), .val (.int i3), .val (.int i4), .val (.int i5), .val (.int (3 : Int32)), .val (.int (0 : Int32)), .val (.ref ra), .val (.ref rb), .val (.ref rc), .val (.ref rv), .val (.ref b5), .val (.ref ra), .val (.ref ra)] [(.ref rc), (.ref rb), (.ref ra), (.ref rv), (.int (0 : Int32)), (.int (1 : Int32)), (.ref rb)])) rfl (by rw [hml]; rfl) (argsL := [(.int (1 : Int32)), (.int (0 : Int32)), (.ref rv), (.ref ra), (.ref rb), (.ref rc)]) (rest := [(.ref rb)]) (lenOf pd_12 rfl) rfl (W := 1) (by show 2 * 0 + _ ≤ _; exact Nat.le_of_eq rfl) (hb hby at_198) (by decide) (by decide) (by decide) (by decide)
    obtain ⟨rfl, N40q, hh40⟩ := hQ40
    have N40 := Fr.app N39 N40q
    rw [hh40] at e40
    refine own_st st40 ?_
    show Fin1 p e below s (rm0Q Z i0 i1 i2 i3 i4 i5 h0 n0) room_1.cells room_1.slots (T40.setTop (mkF m 201 #[.val (.int i0), .val (.int i1), .val (.int i2), .val (.int i3), .val (.int i4), .val (.int i5), .val (.int (3 : Int32)), .val (.int (0 : Int32)), .val (.ref ra), .val (.ref rb), .val (.ref rc), .val (.ref rv), .val (.ref b5), .val (.ref ra), .val (.ref ra)] [(.ref rb), (.ref rb)]))
    refine own_st (fun wt wk => Jvm.RoadKit.acmp (g := (mkF m 201 #[.val (.int i0), .val (.int i1), .val (.int i2), .val (.int i3), .val (.int i4), .val (.int i5), .val (.int (3 : Int32)), .val (.int (0 : Int32)), .val (.ref ra), .val (.ref rb), .val (.ref rc), .val (.ref rv), .val (.ref b5), .val (.ref ra), .val (.ref ra)] [(.ref rb), (.ref rb)])) X40 hx rfl rfl rfl (pc0 := 201) (pc' := 206) (same := true) rfl (hb hby at_201) rfl (decide_eq_true rfl) (by decide) (by decide) wk) ?_
    show Fin1 p e below s (rm0Q Z i0 i1 i2 i3 i4 i5 h0 n0) room_1.cells room_1.slots (T40.setTop (mkF m 206 #[.val (.int i0), .val (.int i1), .val (.int i2), .val (.int i3), .val (.int i4), .val (.int i5), .val (.int (3 : Int32)), .val (.int (0 : Int32)), .val (.ref ra), .val (.ref rb), .val (.ref rc), .val (.ref rv), .val (.ref b5), .val (.ref ra), .val (.ref ra)] []))
    refine own_st (fun wt wk => XS.iload X40.here hx rfl (hb hby at_206) rfl wk) ?_
    show Fin1 p e below s (rm0Q Z i0 i1 i2 i3 i4 i5 h0 n0) room_1.cells room_1.slots (T40.setTop (mkF m 208 #[.val (.int i0), .val (.int i1), .val (.int i2), .val (.int i3), .val (.int i4), .val (.int i5), .val (.int (3 : Int32)), .val (.int (0 : Int32)), .val (.ref ra), .val (.ref rb), .val (.ref rc), .val (.ref rv), .val (.ref b5), .val (.ref ra), .val (.ref ra)] [(.int (3 : Int32))]))
    refine own_st (fun wt wk => XS.iconst X40.here hx rfl (hb hby at_208) wk) ?_
    show Fin1 p e below s (rm0Q Z i0 i1 i2 i3 i4 i5 h0 n0) room_1.cells room_1.slots (T40.setTop (mkF m 209 #[.val (.int i0), .val (.int i1), .val (.int i2), .val (.int i3), .val (.int i4), .val (.int i5), .val (.int (3 : Int32)), .val (.int (0 : Int32)), .val (.ref ra), .val (.ref rb), .val (.ref rc), .val (.ref rv), .val (.ref b5), .val (.ref ra), .val (.ref ra)] [(.int (2 : Int32)), (.int (3 : Int32))]))
    refine own_st (fun wt wk => XS.icmpNo X40.here hx rfl (hb hby at_209) rfl (tlt (by decide)).2.2.2 wk) ?_
    show Fin1 p e below s (rm0Q Z i0 i1 i2 i3 i4 i5 h0 n0) room_1.cells room_1.slots (T40.setTop (mkF m 212 #[.val (.int i0), .val (.int i1), .val (.int i2), .val (.int i3), .val (.int i4), .val (.int i5), .val (.int (3 : Int32)), .val (.int (0 : Int32)), .val (.ref ra), .val (.ref rb), .val (.ref rc), .val (.ref rv), .val (.ref b5), .val (.ref ra), .val (.ref ra)] []))
    refine own_st (fun wt wk => XS.aload X40.here hx rfl (hb hby at_212) rfl rfl wk) ?_
    show Fin1 p e below s (rm0Q Z i0 i1 i2 i3 i4 i5 h0 n0) room_1.cells room_1.slots (T40.setTop (mkF m 214 #[.val (.int i0), .val (.int i1), .val (.int i2), .val (.int i3), .val (.int i4), .val (.int i5), .val (.int (3 : Int32)), .val (.int (0 : Int32)), .val (.ref ra), .val (.ref rb), .val (.ref rc), .val (.ref rv), .val (.ref b5), .val (.ref ra), .val (.ref ra)] [(.ref b5)]))
    refine own_st (fun wt wk => XS.iconst X40.here hx rfl (hb hby at_214) wk) ?_
    show Fin1 p e below s (rm0Q Z i0 i1 i2 i3 i4 i5 h0 n0) room_1.cells room_1.slots (T40.setTop (mkF m 215 #[.val (.int i0), .val (.int i1), .val (.int i2), .val (.int i3), .val (.int i4), .val (.int i5), .val (.int (3 : Int32)), .val (.int (0 : Int32)), .val (.ref ra), .val (.ref rb), .val (.ref rc), .val (.ref rv), .val (.ref b5), .val (.ref ra), .val (.ref ra)] [(.int (2 : Int32)), (.ref b5)]))
    obtain ⟨v41, T41, h41, L41, X41, e41, hQ41, st41⟩ := own_virtual X40 hx hZ hown (hw _ (List.mem_of_getElem? (i := 59) rfl)) (hw _ (List.mem_of_getElem? (i := 48) rfl)) (hw _ (List.mem_of_getElem? (i := 50) rfl)) (hw _ (List.mem_of_getElem? (i := 49) rfl)) (hw _ (List.mem_of_getElem? (i := 51) rfl)) (hw _ (List.mem_of_getElem? (i := 10) rfl)) (by decide) (a := b5) E_b5 (rmG l Z a0 hw b5 (2 : Int32) t kt [(.ref rv), (.ref rb), (.ref rc), .null, .null, .null, .null, .null, .null, .null] (.ref rc) h34 n0 Z0 Fe V_t (by decide) rfl (Or.inr ⟨_, rfl⟩)) e40 (g := (mkF m 215 #[.val (.int i0), .val (.int i1), .val (.int i2), .val (.int i3), .val (.int i4), .val (.int i5), .val (.int (3 : Int32)), .val (.int (0 : Int32)), .val (.ref ra), .val (.ref rb), .val (.ref rc), .val (.ref rv), .val (.ref b5), .val (.ref ra), .val (.ref ra)] [(.int (2 : Int32)), (.ref b5)])) rfl (by rw [hml]; rfl) (argsL := [(.int (2 : Int32))]) (rest := []) (lenOf pd_6 rfl) rfl (W := 0) (by show 2 * 0 + _ ≤ _; exact Nat.le_of_eq rfl) (hb hby at_215) (by decide) (by decide) (by decide) (by decide)
    obtain ⟨rfl, N41q, hh41⟩ := hQ41
    have N41 := Fr.app N40 N41q
    rw [hh41] at e41
    refine own_st st41 ?_
    show Fin1 p e below s (rm0Q Z i0 i1 i2 i3 i4 i5 h0 n0) room_1.cells room_1.slots (T41.setTop (mkF m 218 #[.val (.int i0), .val (.int i1), .val (.int i2), .val (.int i3), .val (.int i4), .val (.int i5), .val (.int (3 : Int32)), .val (.int (0 : Int32)), .val (.ref ra), .val (.ref rb), .val (.ref rc), .val (.ref rv), .val (.ref b5), .val (.ref ra), .val (.ref ra)] [(.ref rc)]))
    refine own_st (fun wt wk => XS.iconst X41.here hx rfl (hb hby at_218) wk) ?_
    show Fin1 p e below s (rm0Q Z i0 i1 i2 i3 i4 i5 h0 n0) room_1.cells room_1.slots (T41.setTop (mkF m 219 #[.val (.int i0), .val (.int i1), .val (.int i2), .val (.int i3), .val (.int i4), .val (.int i5), .val (.int (3 : Int32)), .val (.int (0 : Int32)), .val (.ref ra), .val (.ref rb), .val (.ref rc), .val (.ref rv), .val (.ref b5), .val (.ref ra), .val (.ref ra)] [(.int (2 : Int32)), (.ref rc)]))
    refine own_st (fun wt wk => XS.iload X41.here hx rfl (hb hby at_219) rfl wk) ?_
    show Fin1 p e below s (rm0Q Z i0 i1 i2 i3 i4 i5 h0 n0) room_1.cells room_1.slots (T41.setTop (mkF m 221 #[.val (.int i0), .val (.int i1), .val (.int i2), .val (.int i3), .val (.int i4), .val (.int i5), .val (.int (3 : Int32)), .val (.int (0 : Int32)), .val (.ref ra), .val (.ref rb), .val (.ref rc), .val (.ref rv), .val (.ref b5), .val (.ref ra), .val (.ref ra)] [(.int (0 : Int32)), (.int (2 : Int32)), (.ref rc)]))
    refine own_st (fun wt wk => XS.aload X41.here hx rfl (hb hby at_221) rfl rfl wk) ?_
    show Fin1 p e below s (rm0Q Z i0 i1 i2 i3 i4 i5 h0 n0) room_1.cells room_1.slots (T41.setTop (mkF m 223 #[.val (.int i0), .val (.int i1), .val (.int i2), .val (.int i3), .val (.int i4), .val (.int i5), .val (.int (3 : Int32)), .val (.int (0 : Int32)), .val (.ref ra), .val (.ref rb), .val (.ref rc), .val (.ref rv), .val (.ref b5), .val (.ref ra), .val (.ref ra)] [(.ref rv), (.int (0 : Int32)), (.int (2 : Int32)), (.ref rc)]))
    refine own_st (fun wt wk => XS.aload X41.here hx rfl (hb hby at_223) rfl rfl wk) ?_
    show Fin1 p e below s (rm0Q Z i0 i1 i2 i3 i4 i5 h0 n0) room_1.cells room_1.slots (T41.setTop (mkF m 225 #[.val (.int i0), .val (.int i1), .val (.int i2), .val (.int i3), .val (.int i4), .val (.int i5), .val (.int (3 : Int32)), .val (.int (0 : Int32)), .val (.ref ra), .val (.ref rb), .val (.ref rc), .val (.ref rv), .val (.ref b5), .val (.ref ra), .val (.ref ra)] [(.ref ra), (.ref rv), (.int (0 : Int32)), (.int (2 : Int32)), (.ref rc)]))
    refine own_st (fun wt wk => XS.aload X41.here hx rfl (hb hby at_225) rfl rfl wk) ?_
    show Fin1 p e below s (rm0Q Z i0 i1 i2 i3 i4 i5 h0 n0) room_1.cells room_1.slots (T41.setTop (mkF m 227 #[.val (.int i0), .val (.int i1), .val (.int i2), .val (.int i3), .val (.int i4), .val (.int i5), .val (.int (3 : Int32)), .val (.int (0 : Int32)), .val (.ref ra), .val (.ref rb), .val (.ref rc), .val (.ref rv), .val (.ref b5), .val (.ref ra), .val (.ref ra)] [(.ref rb), (.ref ra), (.ref rv), (.int (0 : Int32)), (.int (2 : Int32)), (.ref rc)]))
    refine own_st (fun wt wk => XS.aload X41.here hx rfl (hb hby at_227) rfl rfl wk) ?_
    show Fin1 p e below s (rm0Q Z i0 i1 i2 i3 i4 i5 h0 n0) room_1.cells room_1.slots (T41.setTop (mkF m 229 #[.val (.int i0), .val (.int i1), .val (.int i2), .val (.int i3), .val (.int i4), .val (.int i5), .val (.int (3 : Int32)), .val (.int (0 : Int32)), .val (.ref ra), .val (.ref rb), .val (.ref rc), .val (.ref rv), .val (.ref b5), .val (.ref ra), .val (.ref ra)] [(.ref rc), (.ref rb), (.ref ra), (.ref rv), (.int (0 : Int32)), (.int (2 : Int32)), (.ref rc)]))
    obtain ⟨v42, T42, h42, L42, X42, e42, hQ42, st42⟩ := own_static X41 hx hZ hown (hw _ (List.mem_of_getElem? (i := 60) rfl)) (hw _ (List.mem_of_getElem? (i := 61) rfl)) (hw _ (List.mem_of_getElem? (i := 62) rfl)) (hw _ (List.mem_of_getElem? (i := 63) rfl)) (by decide) (rmX l Z a0 hw (2 : Int32) (0 : Int32) rv ra rb rc rc h34 n0 Z0 (by simp [own_exp])) e41 (g := (mkF m 229 #[.val (.int i0), .val (.int i1), .val (.int i2), .val (.int i3), .val (.int i4), .val (.int i5), .val (.int (3 : Int32)), .val (.int (0 : Int32)), .val (.ref ra), .val (.ref rb), .val (.ref rc), .val (.ref rv), .val (.ref b5), .val (.ref ra), .val (.ref ra)] [(.ref rc), (.ref rb), (.ref ra), (.ref rv), (.int (0 : Int32)), (.int (2 : Int32)), (.ref rc)])) rfl (by rw [hml]; rfl) (argsL := [(.int (2 : Int32)), (.int (0 : Int32)), (.ref rv), (.ref ra), (.ref rb), (.ref rc)]) (rest := [(.ref rc)]) (lenOf pd_12 rfl) rfl (W := 1) (by show 2 * 0 + _ ≤ _; exact Nat.le_of_eq rfl) (hb hby at_229) (by decide) (by decide) (by decide) (by decide)
    obtain ⟨rfl, N42q, hh42⟩ := hQ42
    have N42 := Fr.app N41 N42q
    rw [hh42] at e42
    refine own_st st42 ?_
    show Fin1 p e below s (rm0Q Z i0 i1 i2 i3 i4 i5 h0 n0) room_1.cells room_1.slots (T42.setTop (mkF m 232 #[.val (.int i0), .val (.int i1), .val (.int i2), .val (.int i3), .val (.int i4), .val (.int i5), .val (.int (3 : Int32)), .val (.int (0 : Int32)), .val (.ref ra), .val (.ref rb), .val (.ref rc), .val (.ref rv), .val (.ref b5), .val (.ref ra), .val (.ref ra)] [(.ref rc), (.ref rc)]))
    refine own_st (fun wt wk => Jvm.RoadKit.acmp (g := (mkF m 232 #[.val (.int i0), .val (.int i1), .val (.int i2), .val (.int i3), .val (.int i4), .val (.int i5), .val (.int (3 : Int32)), .val (.int (0 : Int32)), .val (.ref ra), .val (.ref rb), .val (.ref rc), .val (.ref rv), .val (.ref b5), .val (.ref ra), .val (.ref ra)] [(.ref rc), (.ref rc)])) X42 hx rfl rfl rfl (pc0 := 232) (pc' := 237) (same := true) rfl (hb hby at_232) rfl (decide_eq_true rfl) (by decide) (by decide) wk) ?_
    show Fin1 p e below s (rm0Q Z i0 i1 i2 i3 i4 i5 h0 n0) room_1.cells room_1.slots (T42.setTop (mkF m 237 #[.val (.int i0), .val (.int i1), .val (.int i2), .val (.int i3), .val (.int i4), .val (.int i5), .val (.int (3 : Int32)), .val (.int (0 : Int32)), .val (.ref ra), .val (.ref rb), .val (.ref rc), .val (.ref rv), .val (.ref b5), .val (.ref ra), .val (.ref ra)] []))
    refine own_st (fun wt wk => XS.aload X42.here hx rfl (hb hby at_237) rfl rfl wk) ?_
    show Fin1 p e below s (rm0Q Z i0 i1 i2 i3 i4 i5 h0 n0) room_1.cells room_1.slots (T42.setTop (mkF m 239 #[.val (.int i0), .val (.int i1), .val (.int i2), .val (.int i3), .val (.int i4), .val (.int i5), .val (.int (3 : Int32)), .val (.int (0 : Int32)), .val (.ref ra), .val (.ref rb), .val (.ref rc), .val (.ref rv), .val (.ref b5), .val (.ref ra), .val (.ref ra)] [(.ref b5)]))
    refine own_st (fun wt wk => XS.iload X42.here hx rfl (hb hby at_239) rfl wk) ?_
    show Fin1 p e below s (rm0Q Z i0 i1 i2 i3 i4 i5 h0 n0) room_1.cells room_1.slots (T42.setTop (mkF m 241 #[.val (.int i0), .val (.int i1), .val (.int i2), .val (.int i3), .val (.int i4), .val (.int i5), .val (.int (3 : Int32)), .val (.int (0 : Int32)), .val (.ref ra), .val (.ref rb), .val (.ref rc), .val (.ref rv), .val (.ref b5), .val (.ref ra), .val (.ref ra)] [(.int (3 : Int32)), (.ref b5)]))
    obtain ⟨v43, T43, h43, L43, X43, e43, hQ43, st43⟩ := own_virtual X42 hx hZ hown (hw _ (List.mem_of_getElem? (i := 59) rfl)) (hw _ (List.mem_of_getElem? (i := 48) rfl)) (hw _ (List.mem_of_getElem? (i := 50) rfl)) (hw _ (List.mem_of_getElem? (i := 49) rfl)) (hw _ (List.mem_of_getElem? (i := 51) rfl)) (hw _ (List.mem_of_getElem? (i := 10) rfl)) (by decide) (a := b5) E_b5 (rmG l Z a0 hw b5 (3 : Int32) t kt [(.ref rv), (.ref rb), (.ref rc), .null, .null, .null, .null, .null, .null, .null] .null h34 n0 Z0 Fe V_t (by decide) rfl (Or.inl rfl)) e42 (g := (mkF m 241 #[.val (.int i0), .val (.int i1), .val (.int i2), .val (.int i3), .val (.int i4), .val (.int i5), .val (.int (3 : Int32)), .val (.int (0 : Int32)), .val (.ref ra), .val (.ref rb), .val (.ref rc), .val (.ref rv), .val (.ref b5), .val (.ref ra), .val (.ref ra)] [(.int (3 : Int32)), (.ref b5)])) rfl (by rw [hml]; rfl) (argsL := [(.int (3 : Int32))]) (rest := []) (lenOf pd_6 rfl) rfl (W := 0) (by show 2 * 0 + _ ≤ _; exact Nat.le_of_eq rfl) (hb hby at_241) (by decide) (by decide) (by decide) (by decide)
    obtain ⟨rfl, N43q, hh43⟩ := hQ43
    have N43 := Fr.app N42 N43q
    rw [hh43] at e43
    refine own_st st43 ?_
    show Fin1 p e below s (rm0Q Z i0 i1 i2 i3 i4 i5 h0 n0) room_1.cells room_1.slots (T43.setTop (mkF m 244 #[.val (.int i0), .val (.int i1), .val (.int i2), .val (.int i3), .val (.int i4), .val (.int i5), .val (.int (3 : Int32)), .val (.int (0 : Int32)), .val (.ref ra), .val (.ref rb), .val (.ref rc), .val (.ref rv), .val (.ref b5), .val (.ref ra), .val (.ref ra)] [.null]))
    refine own_st (fun wt wk => XS.ifnullYes X43.here hx rfl (pc0 := 244) (pc' := 249) rfl (hb hby at_244) rfl (by decide) (by decide) wk) ?_
    show Fin1 p e below s (rm0Q Z i0 i1 i2 i3 i4 i5 h0 n0) room_1.cells room_1.slots (T43.setTop (mkF m 249 #[.val (.int i0), .val (.int i1), .val (.int i2), .val (.int i3), .val (.int i4), .val (.int i5), .val (.int (3 : Int32)), .val (.int (0 : Int32)), .val (.ref ra), .val (.ref rb), .val (.ref rc), .val (.ref rv), .val (.ref b5), .val (.ref ra), .val (.ref ra)] []))
    refine own_st (fun wt wk => XS.iconst X43.here hx rfl (hb hby at_249) wk) ?_
    show Fin1 p e below s (rm0Q Z i0 i1 i2 i3 i4 i5 h0 n0) room_1.cells room_1.slots (T43.setTop (mkF m 250 #[.val (.int i0), .val (.int i1), .val (.int i2), .val (.int i3), .val (.int i4), .val (.int i5), .val (.int (3 : Int32)), .val (.int (0 : Int32)), .val (.ref ra), .val (.ref rb), .val (.ref rc), .val (.ref rv), .val (.ref b5), .val (.ref ra), .val (.ref ra)] [(.int (1 : Int32))]))
    exact own_retZ X43 hx hlk hret (hb hby at_250) (z := (1 : Int32)) (by decide) (by rw [e43]; exact ⟨rfl, N43⟩) (by decide) (by decide)
  · show Fin1 p e below s (rm0Q Z i0 i1 i2 i3 i4 i5 h0 n0) room_1.cells room_1.slots (T7.setTop (mkF m 65 #[.val (.int i0), .val (.int i1), .val (.int i2), .val (.int i3), .val (.int i4), .val (.int i5), .val (.int (3 : Int32)), .val (.int (1 : Int32)), .val (.ref ra), .val (.ref rb), .val (.ref rc), .val (.ref rv), .val (.ref b5), .unset, .unset] [(.int (1 : Int32)), (.int (3 : Int32))]))
    refine own_st (fun wt wk => XS.icmpNo X7.here hx rfl (hb hby at_65) rfl (tlt (by decide)).2.2.2 wk) ?_
    show Fin1 p e below s (rm0Q Z i0 i1 i2 i3 i4 i5 h0 n0) room_1.cells room_1.slots (T7.setTop (mkF m 68 #[.val (.int i0), .val (.int i1), .val (.int i2), .val (.int i3), .val (.int i4), .val (.int i5), .val (.int (3 : Int32)), .val (.int (1 : Int32)), .val (.ref ra), .val (.ref rb), .val (.ref rc), .val (.ref rv), .val (.ref b5), .unset, .unset] []))
    refine own_st (fun wt wk => XS.aload X7.here hx rfl (hb hby at_68) rfl rfl wk) ?_
    show Fin1 p e below s (rm0Q Z i0 i1 i2 i3 i4 i5 h0 n0) room_1.cells room_1.slots (T7.setTop (mkF m 70 #[.val (.int i0), .val (.int i1), .val (.int i2), .val (.int i3), .val (.int i4), .val (.int i5), .val (.int (3 : Int32)), .val (.int (1 : Int32)), .val (.ref ra), .val (.ref rb), .val (.ref rc), .val (.ref rv), .val (.ref b5), .unset, .unset] [(.ref b5)]))
    refine own_st (fun wt wk => XS.iconst X7.here hx rfl (hb hby at_70) wk) ?_
    show Fin1 p e below s (rm0Q Z i0 i1 i2 i3 i4 i5 h0 n0) room_1.cells room_1.slots (T7.setTop (mkF m 71 #[.val (.int i0), .val (.int i1), .val (.int i2), .val (.int i3), .val (.int i4), .val (.int i5), .val (.int (3 : Int32)), .val (.int (1 : Int32)), .val (.ref ra), .val (.ref rb), .val (.ref rc), .val (.ref rv), .val (.ref b5), .unset, .unset] [(.int (1 : Int32)), (.ref b5)]))
    refine own_st (fun wt wk => XS.aload X7.here hx rfl (hb hby at_71) rfl rfl wk) ?_
    show Fin1 p e below s (rm0Q Z i0 i1 i2 i3 i4 i5 h0 n0) room_1.cells room_1.slots (T7.setTop (mkF m 73 #[.val (.int i0), .val (.int i1), .val (.int i2), .val (.int i3), .val (.int i4), .val (.int i5), .val (.int (3 : Int32)), .val (.int (1 : Int32)), .val (.ref ra), .val (.ref rb), .val (.ref rc), .val (.ref rv), .val (.ref b5), .unset, .unset] [(.ref rb), (.int (1 : Int32)), (.ref b5)]))
    obtain ⟨v44, T44, h44, L44, X44, e44, hQ44, st44⟩ := own_virtual X7 hx hZ hown (hw _ (List.mem_of_getElem? (i := 26) rfl)) (hw _ (List.mem_of_getElem? (i := 27) rfl)) (hw _ (List.mem_of_getElem? (i := 29) rfl)) (hw _ (List.mem_of_getElem? (i := 28) rfl)) (hw _ (List.mem_of_getElem? (i := 30) rfl)) (hw _ (List.mem_of_getElem? (i := 10) rfl)) (by decide) (a := b5) E_b5 (rmI1 l Z a0 hw b5 rb t kt ra h7 n0 Z0 g_b5 g_t E_b5 E_rb Fe Fs V_t hov ne_b5_t) e7 (g := (mkF m 73 #[.val (.int i0), .val (.int i1), .val (.int i2), .val (.int i3), .val (.int i4), .val (.int i5), .val (.int (3 : Int32)), .val (.int (1 : Int32)), .val (.ref ra), .val (.ref rb), .val (.ref rc), .val (.ref rv), .val (.ref b5), .unset, .unset] [(.ref rb), (.int (1 : Int32)), (.ref b5)])) rfl (by rw [hml]; rfl) (argsL := [(.int (1 : Int32)), (.ref rb)]) (rest := []) (lenOf pd_9 rfl) rfl (W := 0) (by show 2 * 0 + _ ≤ _; exact Nat.le_of_eq rfl) (hb hby at_73) (by decide) (by decide) (by decide) (by decide)
    obtain ⟨rfl, N44q, K44, Fe, Fs, V_t⟩ := hQ44
    have N44 := Fr.app N7 N44q
    have Z0 := Nat.le_trans Z0 K44.1
    have O := O.keep K44 (allS (P := fun x => n0 ≤ x) g_b5 (allS (P := fun x => n0 ≤ x) g_t all0))
    have E_ra := E_ra.keep K44
    have E_rb := E_rb.keep K44
    have E_rc := E_rc.keep K44
    have E_rv := E_rv.keep K44
    have E_b5 := E_b5.keep K44
    refine own_st st44 ?_
    show Fin1 p e below s (rm0Q Z i0 i1 i2 i3 i4 i5 h0 n0) room_1.cells room_1.slots (T44.setTop (mkF m 76 #[.val (.int i0), .val (.int i1), .val (.int i2), .val (.int i3), .val (.int i4), .val (.int i5), .val (.int (3 : Int32)), .val (.int (1 : Int32)), .val (.ref ra), .val (.ref rb), .val (.ref rc), .val (.ref rv), .val (.ref b5), .unset, .unset] []))
    refine own_st (fun wt wk => XS.iload X44.here hx rfl (hb hby at_76) rfl wk) ?_
    show Fin1 p e below s (rm0Q Z i0 i1 i2 i3 i4 i5 h0 n0) room_1.cells room_1.slots (T44.setTop (mkF m 78 #[.val (.int i0), .val (.int i1), .val (.int i2), .val (.int i3), .val (.int i4), .val (.int i5), .val (.int (3 : Int32)), .val (.int (1 : Int32)), .val (.ref ra), .val (.ref rb), .val (.ref rc), .val (.ref rv), .val (.ref b5), .unset, .unset] [(.int (3 : Int32))]))
    refine own_st (fun wt wk => XS.iconst X44.here hx rfl (hb hby at_78) wk) ?_
    show Fin1 p e below s (rm0Q Z i0 i1 i2 i3 i4 i5 h0 n0) room_1.cells room_1.slots (T44.setTop (mkF m 79 #[.val (.int i0), .val (.int i1), .val (.int i2), .val (.int i3), .val (.int i4), .val (.int i5), .val (.int (3 : Int32)), .val (.int (1 : Int32)), .val (.ref ra), .val (.ref rb), .val (.ref rc), .val (.ref rv), .val (.ref b5), .unset, .unset] [(.int (2 : Int32)), (.int (3 : Int32))]))
    refine own_st (fun wt wk => XS.icmpNo X44.here hx rfl (hb hby at_79) rfl (tlt (by decide)).2.2.2 wk) ?_
    show Fin1 p e below s (rm0Q Z i0 i1 i2 i3 i4 i5 h0 n0) room_1.cells room_1.slots (T44.setTop (mkF m 82 #[.val (.int i0), .val (.int i1), .val (.int i2), .val (.int i3), .val (.int i4), .val (.int i5), .val (.int (3 : Int32)), .val (.int (1 : Int32)), .val (.ref ra), .val (.ref rb), .val (.ref rc), .val (.ref rv), .val (.ref b5), .unset, .unset] []))
    refine own_st (fun wt wk => XS.aload X44.here hx rfl (hb hby at_82) rfl rfl wk) ?_
    show Fin1 p e below s (rm0Q Z i0 i1 i2 i3 i4 i5 h0 n0) room_1.cells room_1.slots (T44.setTop (mkF m 84 #[.val (.int i0), .val (.int i1), .val (.int i2), .val (.int i3), .val (.int i4), .val (.int i5), .val (.int (3 : Int32)), .val (.int (1 : Int32)), .val (.ref ra), .val (.ref rb), .val (.ref rc), .val (.ref rv), .val (.ref b5), .unset, .unset] [(.ref b5)]))
    refine own_st (fun wt wk => XS.iconst X44.here hx rfl (hb hby at_84) wk) ?_
    show Fin1 p e below s (rm0Q Z i0 i1 i2 i3 i4 i5 h0 n0) room_1.cells room_1.slots (T44.setTop (mkF m 85 #[.val (.int i0), .val (.int i1), .val (.int i2), .val (.int i3), .val (.int i4), .val (.int i5), .val (.int (3 : Int32)), .val (.int (1 : Int32)), .val (.ref ra), .val (.ref rb), .val (.ref rc), .val (.ref rv), .val (.ref b5), .unset, .unset] [(.int (2 : Int32)), (.ref b5)]))
    refine own_st (fun wt wk => XS.aload X44.here hx rfl (hb hby at_85) rfl rfl wk) ?_
    show Fin1 p e below s (rm0Q Z i0 i1 i2 i3 i4 i5 h0 n0) room_1.cells room_1.slots (T44.setTop (mkF m 87 #[.val (.int i0), .val (.int i1), .val (.int i2), .val (.int i3), .val (.int i4), .val (.int i5), .val (.int (3 : Int32)), .val (.int (1 : Int32)), .val (.ref ra), .val (.ref rb), .val (.ref rc), .val (.ref rv), .val (.ref b5), .unset, .unset] [(.ref rc), (.int (2 : Int32)), (.ref b5)]))
    obtain ⟨v45, T45, h45, L45, X45, e45, hQ45, st45⟩ := own_virtual X44 hx hZ hown (hw _ (List.mem_of_getElem? (i := 26) rfl)) (hw _ (List.mem_of_getElem? (i := 27) rfl)) (hw _ (List.mem_of_getElem? (i := 29) rfl)) (hw _ (List.mem_of_getElem? (i := 28) rfl)) (hw _ (List.mem_of_getElem? (i := 30) rfl)) (hw _ (List.mem_of_getElem? (i := 10) rfl)) (by decide) (a := b5) E_b5 (rmI2 l Z a0 hw b5 rc t kt ra rb h44 n0 Z0 g_b5 g_t E_b5 E_rc Fe Fs V_t hov ne_b5_t) e44 (g := (mkF m 87 #[.val (.int i0), .val (.int i1), .val (.int i2), .val (.int i3), .val (.int i4), .val (.int i5), .val (.int (3 : Int32)), .val (.int (1 : Int32)), .val (.ref ra), .val (.ref rb), .val (.ref rc), .val (.ref rv), .val (.ref b5), .unset, .unset] [(.ref rc), (.int (2 : Int32)), (.ref b5)])) rfl (by rw [hml]; rfl) (argsL := [(.int (2 : Int32)), (.ref rc)]) (rest := []) (lenOf pd_9 rfl) rfl (W := 0) (by show 2 * 0 + _ ≤ _; exact Nat.le_of_eq rfl) (hb hby at_87) (by decide) (by decide) (by decide) (by decide)
    obtain ⟨rfl, N45q, K45, Fe, Fs, V_t⟩ := hQ45
    have N45 := Fr.app N44 N45q
    have Z0 := Nat.le_trans Z0 K45.1
    have O := O.keep K45 (allS (P := fun x => n0 ≤ x) g_b5 (allS (P := fun x => n0 ≤ x) g_t all0))
    have E_ra := E_ra.keep K45
    have E_rb := E_rb.keep K45
    have E_rc := E_rc.keep K45
    have E_rv := E_rv.keep K45
    have E_b5 := E_b5.keep K45
    refine own_st st45 ?_
    show Fin1 p e below s (rm0Q Z i0 i1 i2 i3 i4 i5 h0 n0) room_1.cells room_1.slots (T45.setTop (mkF m 90 #[.val (.int i0), .val (.int i1), .val (.int i2), .val (.int i3), .val (.int i4), .val (.int i5), .val (.int (3 : Int32)), .val (.int (1 : Int32)), .val (.ref ra), .val (.ref rb), .val (.ref rc), .val (.ref rv), .val (.ref b5), .unset, .unset] []))
    refine own_st (fun wt wk => XS.iload X45.here hx rfl (hb hby at_90) rfl wk) ?_
    show Fin1 p e below s (rm0Q Z i0 i1 i2 i3 i4 i5 h0 n0) room_1.cells room_1.slots (T45.setTop (mkF m 92 #[.val (.int i0), .val (.int i1), .val (.int i2), .val (.int i3), .val (.int i4), .val (.int i5), .val (.int (3 : Int32)), .val (.int (1 : Int32)), .val (.ref ra), .val (.ref rb), .val (.ref rc), .val (.ref rv), .val (.ref b5), .unset, .unset] [(.int (1 : Int32))]))
    refine own_st (fun wt wk => XS.ifYes X45.here hx rfl (pc0 := 92) (pc' := 100) rfl (hb hby at_92) rfl ((if0 _ _).trans (feq (by decide)).2) (by decide) (by decide) wk) ?_
    show Fin1 p e below s (rm0Q Z i0 i1 i2 i3 i4 i5 h0 n0) room_1.cells room_1.slots (T45.setTop (mkF m 100 #[.val (.int i0), .val (.int i1), .val (.int i2), .val (.int i3), .val (.int i4), .val (.int i5), .val (.int (3 : Int32)), .val (.int (1 : Int32)), .val (.ref ra), .val (.ref rb), .val (.ref rc), .val (.ref rv), .val (.ref b5), .unset, .unset] []))
    refine own_st (fun wt wk => XS.iload X45.here hx rfl (hb hby at_100) rfl wk) ?_
    show Fin1 p e below s (rm0Q Z i0 i1 i2 i3 i4 i5 h0 n0) room_1.cells room_1.slots (T45.setTop (mkF m 102 #[.val (.int i0), .val (.int i1), .val (.int i2), .val (.int i3), .val (.int i4), .val (.int i5), .val (.int (3 : Int32)), .val (.int (1 : Int32)), .val (.ref ra), .val (.ref rb), .val (.ref rc), .val (.ref rv), .val (.ref b5), .unset, .unset] [(.int (1 : Int32))]))
    refine own_st (fun wt wk => XS.iconst X45.here hx rfl (hb hby at_102) wk) ?_
    show Fin1 p e below s (rm0Q Z i0 i1 i2 i3 i4 i5 h0 n0) room_1.cells room_1.slots (T45.setTop (mkF m 103 #[.val (.int i0), .val (.int i1), .val (.int i2), .val (.int i3), .val (.int i4), .val (.int i5), .val (.int (3 : Int32)), .val (.int (1 : Int32)), .val (.ref ra), .val (.ref rb), .val (.ref rc), .val (.ref rv), .val (.ref b5), .unset, .unset] [(.int (1 : Int32)), (.int (1 : Int32))]))
    refine own_st (fun wt wk => XS.icmpNo X45.here hx rfl (hb hby at_103) rfl (teq (by decide)).2 wk) ?_
    show Fin1 p e below s (rm0Q Z i0 i1 i2 i3 i4 i5 h0 n0) room_1.cells room_1.slots (T45.setTop (mkF m 106 #[.val (.int i0), .val (.int i1), .val (.int i2), .val (.int i3), .val (.int i4), .val (.int i5), .val (.int (3 : Int32)), .val (.int (1 : Int32)), .val (.ref ra), .val (.ref rb), .val (.ref rc), .val (.ref rv), .val (.ref b5), .unset, .unset] []))
    refine own_st (fun wt wk => XS.aload X45.here hx rfl (hb hby at_106) rfl rfl wk) ?_
    show Fin1 p e below s (rm0Q Z i0 i1 i2 i3 i4 i5 h0 n0) room_1.cells room_1.slots (T45.setTop (mkF m 108 #[.val (.int i0), .val (.int i1), .val (.int i2), .val (.int i3), .val (.int i4), .val (.int i5), .val (.int (3 : Int32)), .val (.int (1 : Int32)), .val (.ref ra), .val (.ref rb), .val (.ref rc), .val (.ref rv), .val (.ref b5), .unset, .unset] [(.ref rb)]))
    refine own_st (fun wt wk => XS.goto X45.here hx rfl (pc0 := 108) (pc' := 113) rfl (hb hby at_108) (by decide) (by decide) wk) ?_
    show Fin1 p e below s (rm0Q Z i0 i1 i2 i3 i4 i5 h0 n0) room_1.cells room_1.slots (T45.setTop (mkF m 113 #[.val (.int i0), .val (.int i1), .val (.int i2), .val (.int i3), .val (.int i4), .val (.int i5), .val (.int (3 : Int32)), .val (.int (1 : Int32)), .val (.ref ra), .val (.ref rb), .val (.ref rc), .val (.ref rv), .val (.ref b5), .unset, .unset] [(.ref rb)]))
    refine own_st (fun wt wk => XS.astore X45.here hx rfl (hb hby at_113) rfl rfl (l' := #[.val (.int i0), .val (.int i1), .val (.int i2), .val (.int i3), .val (.int i4), .val (.int i5), .val (.int (3 : Int32)), .val (.int (1 : Int32)), .val (.ref ra), .val (.ref rb), .val (.ref rc), .val (.ref rv), .val (.ref b5), .val (.ref rb), .unset]) rfl wk) ?_
    show Fin1 p e below s (rm0Q Z i0 i1 i2 i3 i4 i5 h0 n0) room_1.cells room_1.slots (T45.setTop (mkF m 115 #[.val (.int i0), .val (.int i1), .val (.int i2), .val (.int i3), .val (.int i4), .val (.int i5), .val (.int (3 : Int32)), .val (.int (1 : Int32)), .val (.ref ra), .val (.ref rb), .val (.ref rc), .val (.ref rv), .val (.ref b5), .val (.ref rb), .unset] []))
    refine own_st (fun wt wk => XS.aload X45.here hx rfl (hb hby at_115) rfl rfl wk) ?_
    show Fin1 p e below s (rm0Q Z i0 i1 i2 i3 i4 i5 h0 n0) room_1.cells room_1.slots (T45.setTop (mkF m 117 #[.val (.int i0), .val (.int i1), .val (.int i2), .val (.int i3), .val (.int i4), .val (.int i5), .val (.int (3 : Int32)), .val (.int (1 : Int32)), .val (.ref ra), .val (.ref rb), .val (.ref rc), .val (.ref rv), .val (.ref b5), .val (.ref rb), .unset] [(.ref b5)]))
    refine own_st (fun wt wk => XS.iload X45.here hx rfl (hb hby at_117) rfl wk) ?_
    show Fin1 p e below s (rm0Q Z i0 i1 i2 i3 i4 i5 h0 n0) room_1.cells room_1.slots (T45.setTop (mkF m 119 #[.val (.int i0), .val (.int i1), .val (.int i2), .val (.int i3), .val (.int i4), .val (.int i5), .val (.int (3 : Int32)), .val (.int (1 : Int32)), .val (.ref ra), .val (.ref rb), .val (.ref rc), .val (.ref rv), .val (.ref b5), .val (.ref rb), .unset] [(.int (1 : Int32)), (.ref b5)]))
    refine own_st (fun wt wk => XS.aload X45.here hx rfl (hb hby at_119) rfl rfl wk) ?_
    show Fin1 p e below s (rm0Q Z i0 i1 i2 i3 i4 i5 h0 n0) room_1.cells room_1.slots (T45.setTop (mkF m 121 #[.val (.int i0), .val (.int i1), .val (.int i2), .val (.int i3), .val (.int i4), .val (.int i5), .val (.int (3 : Int32)), .val (.int (1 : Int32)), .val (.ref ra), .val (.ref rb), .val (.ref rc), .val (.ref rv), .val (.ref b5), .val (.ref rb), .unset] [(.ref rv), (.int (1 : Int32)), (.ref b5)]))
    obtain ⟨v46, T46, h46, L46, X46, e46, hQ46, st46⟩ := own_virtual X45 hx hZ hown (hw _ (List.mem_of_getElem? (i := 42) rfl)) (hw _ (List.mem_of_getElem? (i := 43) rfl)) (hw _ (List.mem_of_getElem? (i := 45) rfl)) (hw _ (List.mem_of_getElem? (i := 44) rfl)) (hw _ (List.mem_of_getElem? (i := 46) rfl)) (hw _ (List.mem_of_getElem? (i := 10) rfl)) (by decide) (a := b5) E_b5 (rmT l Z a0 hw b5 (1 : Int32) rv t kt [(.ref ra), (.ref rb), (.ref rc), .null, .null, .null, .null, .null, .null, .null] 1 rb h45 n0 Z0 g_t E_b5 E_rv Fe V_t hov ne_b5_t (by decide) rfl rfl (by simp)) e45 (g := (mkF m 121 #[.val (.int i0), .val (.int i1), .val (.int i2), .val (.int i3), .val (.int i4), .val (.int i5), .val (.int (3 : Int32)), .val (.int (1 : Int32)), .val (.ref ra), .val (.ref rb), .val (.ref rc), .val (.ref rv), .val (.ref b5), .val (.ref rb), .unset] [(.ref rv), (.int (1 : Int32)), (.ref b5)])) rfl (by rw [hml]; rfl) (argsL := [(.int (1 : Int32)), (.ref rv)]) (rest := []) (lenOf pd_10 rfl) rfl (W := 0) (by show 2 * 0 + _ ≤ _; exact Nat.le_of_eq rfl) (hb hby at_121) (by decide) (by decide) (by decide) (by decide)
    obtain ⟨rfl, N46q, K46, V_t⟩ := hQ46
    have N46 := Fr.app N45 N46q
    have Z0 := Nat.le_trans Z0 K46.1
    have O := O.keep K46 (allS (P := fun x => n0 ≤ x) g_t all0)
    have E_ra := E_ra.keep K46
    have E_rb := E_rb.keep K46
    have E_rc := E_rc.keep K46
    have E_rv := E_rv.keep K46
    have E_b5 := E_b5.keep K46
    have Fe := Fe.keep K46 (ninS ne_b5_t nin0)
    have Fs := Fs.keep K46 (ninS ne_b5_t nin0)
    refine own_st st46 ?_
    show Fin1 p e below s (rm0Q Z i0 i1 i2 i3 i4 i5 h0 n0) room_1.cells room_1.slots (T46.setTop (mkF m 124 #[.val (.int i0), .val (.int i1), .val (.int i2), .val (.int i3), .val (.int i4), .val (.int i5), .val (.int (3 : Int32)), .val (.int (1 : Int32)), .val (.ref ra), .val (.ref rb), .val (.ref rc), .val (.ref rv), .val (.ref b5), .val (.ref rb), .unset] [(.ref rb)]))
    obtain ⟨T47, X47, e47, st47⟩ := castY X46 hx hZ hown (hw _ (List.mem_of_getElem? (i := 52) rfl)) e46 (Ins.self E_rb) (g := (mkF m 124 #[.val (.int i0), .val (.int i1), .val (.int i2), .val (.int i3), .val (.int i4), .val (.int i5), .val (.int (3 : Int32)), .val (.int (1 : Int32)), .val (.ref ra), .val (.ref rb), .val (.ref rc), .val (.ref rv), .val (.ref b5), .val (.ref rb), .unset] [(.ref rb)])) rfl rfl (hb hby at_124)
    refine own_st st47 ?_
    show Fin1 p e below s (rm0Q Z i0 i1 i2 i3 i4 i5 h0 n0) room_1.cells room_1.slots (T47.setTop (mkF m 127 #[.val (.int i0), .val (.int i1), .val (.int i2), .val (.int i3), .val (.int i4), .val (.int i5), .val (.int (3 : Int32)), .val (.int (1 : Int32)), .val (.ref ra), .val (.ref rb), .val (.ref rc), .val (.ref rv), .val (.ref b5), .val (.ref rb), .unset] [(.ref rb)]))
    refine own_st (fun wt wk => XS.astore X47.here hx rfl (hb hby at_127) rfl rfl (l' := #[.val (.int i0), .val (.int i1), .val (.int i2), .val (.int i3), .val (.int i4), .val (.int i5), .val (.int (3 : Int32)), .val (.int (1 : Int32)), .val (.ref ra), .val (.ref rb), .val (.ref rc), .val (.ref rv), .val (.ref b5), .val (.ref rb), .val (.ref rb)]) rfl wk) ?_
    show Fin1 p e below s (rm0Q Z i0 i1 i2 i3 i4 i5 h0 n0) room_1.cells room_1.slots (T47.setTop (mkF m 129 #[.val (.int i0), .val (.int i1), .val (.int i2), .val (.int i3), .val (.int i4), .val (.int i5), .val (.int (3 : Int32)), .val (.int (1 : Int32)), .val (.ref ra), .val (.ref rb), .val (.ref rc), .val (.ref rv), .val (.ref b5), .val (.ref rb), .val (.ref rb)] []))
    refine own_st (fun wt wk => XS.aload X47.here hx rfl (hb hby at_129) rfl rfl wk) ?_
    show Fin1 p e below s (rm0Q Z i0 i1 i2 i3 i4 i5 h0 n0) room_1.cells room_1.slots (T47.setTop (mkF m 131 #[.val (.int i0), .val (.int i1), .val (.int i2), .val (.int i3), .val (.int i4), .val (.int i5), .val (.int (3 : Int32)), .val (.int (1 : Int32)), .val (.ref ra), .val (.ref rb), .val (.ref rc), .val (.ref rv), .val (.ref b5), .val (.ref rb), .val (.ref rb)] [(.ref rb)]))
    refine own_st (fun wt wk => XS.aload X47.here hx rfl (hb hby at_131) rfl rfl wk) ?_
    show Fin1 p e below s (rm0Q Z i0 i1 i2 i3 i4 i5 h0 n0) room_1.cells room_1.slots (T47.setTop (mkF m 133 #[.val (.int i0), .val (.int i1), .val (.int i2), .val (.int i3), .val (.int i4), .val (.int i5), .val (.int (3 : Int32)), .val (.int (1 : Int32)), .val (.ref ra), .val (.ref rb), .val (.ref rc), .val (.ref rv), .val (.ref b5), .val (.ref rb), .val (.ref rb)] [(.ref rb), (.ref rb)]))
    refine own_st (fun wt wk => Jvm.RoadKit.acmp (g := (mkF m 133 #[.val (.int i0), .val (.int i1), .val (.int i2), .val (.int i3), .val (.int i4), .val (.int i5), .val (.int (3 : Int32)), .val (.int (1 : Int32)), .val (.ref ra), .val (.ref rb), .val (.ref rc), .val (.ref rv), .val (.ref b5), .val (.ref rb), .val (.ref rb)] [(.ref rb), (.ref rb)])) X47 hx rfl rfl rfl (pc0 := 133) (pc' := 138) (same := true) rfl (hb hby at_133) rfl (decide_eq_true rfl) (by decide) (by decide) wk) ?_
    show Fin1 p e below s (rm0Q Z i0 i1 i2 i3 i4 i5 h0 n0) room_1.cells room_1.slots (T47.setTop (mkF m 138 #[.val (.int i0), .val (.int i1), .val (.int i2), .val (.int i3), .val (.int i4), .val (.int i5), .val (.int (3 : Int32)), .val (.int (1 : Int32)), .val (.ref ra), .val (.ref rb), .val (.ref rc), .val (.ref rv), .val (.ref b5), .val (.ref rb), .val (.ref rb)] []))
    refine own_st (fun wt wk => XS.aload X47.here hx rfl (hb hby at_138) rfl rfl wk) ?_
    show Fin1 p e below s (rm0Q Z i0 i1 i2 i3 i4 i5 h0 n0) room_1.cells room_1.slots (T47.setTop (mkF m 140 #[.val (.int i0), .val (.int i1), .val (.int i2), .val (.int i3), .val (.int i4), .val (.int i5), .val (.int (3 : Int32)), .val (.int (1 : Int32)), .val (.ref ra), .val (.ref rb), .val (.ref rc), .val (.ref rv), .val (.ref b5), .val (.ref rb), .val (.ref rb)] [(.ref b5)]))
    obtain ⟨v48, T48, h48, L48, X48, e48, hQ48, st48⟩ := own_virtual X47 hx hZ hown (hw _ (List.mem_of_getElem? (i := 54) rfl)) (hw _ (List.mem_of_getElem? (i := 55) rfl)) (hw _ (List.mem_of_getElem? (i := 57) rfl)) (hw _ (List.mem_of_getElem? (i := 56) rfl)) (hw _ (List.mem_of_getElem? (i := 58) rfl)) (hw _ (List.mem_of_getElem? (i := 10) rfl)) (by decide) (a := b5) E_b5 (rmZ l Z a0 hw b5 (3 : Int32) h46 n0 Z0 Fs) e47 (g := (mkF m 140 #[.val (.int i0), .val (.int i1), .val (.int i2), .val (.int i3), .val (.int i4), .val (.int i5), .val (.int (3 : Int32)), .val (.int (1 : Int32)), .val (.ref ra), .val (.ref rb), .val (.ref rc), .val (.ref rv), .val (.ref b5), .val (.ref rb), .val (.ref rb)] [(.ref b5)])) rfl (by rw [hml]; rfl) (argsL := []) (rest := []) (lenOf pd_11 rfl) rfl (W := 0) (by show 2 * 0 + _ ≤ _; exact Nat.le_of_eq rfl) (hb hby at_140) (by decide) (by decide) (by decide) (by decide)
    obtain ⟨rfl, N48q, hh48⟩ := hQ48
    have N48 := Fr.app N46 N48q
    rw [hh48] at e48
    refine own_st st48 ?_
    show Fin1 p e below s (rm0Q Z i0 i1 i2 i3 i4 i5 h0 n0) room_1.cells room_1.slots (T48.setTop (mkF m 143 #[.val (.int i0), .val (.int i1), .val (.int i2), .val (.int i3), .val (.int i4), .val (.int i5), .val (.int (3 : Int32)), .val (.int (1 : Int32)), .val (.ref ra), .val (.ref rb), .val (.ref rc), .val (.ref rv), .val (.ref b5), .val (.ref rb), .val (.ref rb)] [(.int (3 : Int32))]))
    refine own_st (fun wt wk => XS.iload X48.here hx rfl (hb hby at_143) rfl wk) ?_
    show Fin1 p e below s (rm0Q Z i0 i1 i2 i3 i4 i5 h0 n0) room_1.cells room_1.slots (T48.setTop (mkF m 145 #[.val (.int i0), .val (.int i1), .val (.int i2), .val (.int i3), .val (.int i4), .val (.int i5), .val (.int (3 : Int32)), .val (.int (1 : Int32)), .val (.ref ra), .val (.ref rb), .val (.ref rc), .val (.ref rv), .val (.ref b5), .val (.ref rb), .val (.ref rb)] [(.int (3 : Int32)), (.int (3 : Int32))]))
    refine own_st (fun wt wk => XS.icmpYes X48.here hx rfl (pc0 := 145) (pc' := 150) rfl (hb hby at_145) rfl (teq (by decide)).1 (by decide) (by decide) wk) ?_
    show Fin1 p e below s (rm0Q Z i0 i1 i2 i3 i4 i5 h0 n0) room_1.cells room_1.slots (T48.setTop (mkF m 150 #[.val (.int i0), .val (.int i1), .val (.int i2), .val (.int i3), .val (.int i4), .val (.int i5), .val (.int (3 : Int32)), .val (.int (1 : Int32)), .val (.ref ra), .val (.ref rb), .val (.ref rc), .val (.ref rv), .val (.ref b5), .val (.ref rb), .val (.ref rb)] []))
    refine own_st (fun wt wk => XS.aload X48.here hx rfl (hb hby at_150) rfl rfl wk) ?_
    show Fin1 p e below s (rm0Q Z i0 i1 i2 i3 i4 i5 h0 n0) room_1.cells room_1.slots (T48.setTop (mkF m 152 #[.val (.int i0), .val (.int i1), .val (.int i2), .val (.int i3), .val (.int i4), .val (.int i5), .val (.int (3 : Int32)), .val (.int (1 : Int32)), .val (.ref ra), .val (.ref rb), .val (.ref rc), .val (.ref rv), .val (.ref b5), .val (.ref rb), .val (.ref rb)] [(.ref b5)]))
    refine own_st (fun wt wk => XS.iconst X48.here hx rfl (hb hby at_152) wk) ?_
    show Fin1 p e below s (rm0Q Z i0 i1 i2 i3 i4 i5 h0 n0) room_1.cells room_1.slots (T48.setTop (mkF m 153 #[.val (.int i0), .val (.int i1), .val (.int i2), .val (.int i3), .val (.int i4), .val (.int i5), .val (.int (3 : Int32)), .val (.int (1 : Int32)), .val (.ref ra), .val (.ref rb), .val (.ref rc), .val (.ref rv), .val (.ref b5), .val (.ref rb), .val (.ref rb)] [(.int (0 : Int32)), (.ref b5)]))
    obtain ⟨v49, T49, h49, L49, X49, e49, hQ49, st49⟩ := own_virtual X48 hx hZ hown (hw _ (List.mem_of_getElem? (i := 59) rfl)) (hw _ (List.mem_of_getElem? (i := 48) rfl)) (hw _ (List.mem_of_getElem? (i := 50) rfl)) (hw _ (List.mem_of_getElem? (i := 49) rfl)) (hw _ (List.mem_of_getElem? (i := 51) rfl)) (hw _ (List.mem_of_getElem? (i := 10) rfl)) (by decide) (a := b5) E_b5 (rmG l Z a0 hw b5 (0 : Int32) t kt [(.ref ra), (.ref rv), (.ref rc), .null, .null, .null, .null, .null, .null, .null] (.ref ra) h46 n0 Z0 Fe V_t (by decide) rfl (Or.inr ⟨_, rfl⟩)) e48 (g := (mkF m 153 #[.val (.int i0), .val (.int i1), .val (.int i2), .val (.int i3), .val (.int i4), .val (.int i5), .val (.int (3 : Int32)), .val (.int (1 : Int32)), .val (.ref ra), .val (.ref rb), .val (.ref rc), .val (.ref rv), .val (.ref b5), .val (.ref rb), .val (.ref rb)] [(.int (0 : Int32)), (.ref b5)])) rfl (by rw [hml]; rfl) (argsL := [(.int (0 : Int32))]) (rest := []) (lenOf pd_6 rfl) rfl (W := 0) (by show 2 * 0 + _ ≤ _; exact Nat.le_of_eq rfl) (hb hby at_153) (by decide) (by decide) (by decide) (by decide)
    obtain ⟨rfl, N49q, hh49⟩ := hQ49
    have N49 := Fr.app N48 N49q
    rw [hh49] at e49
    refine own_st st49 ?_
    show Fin1 p e below s (rm0Q Z i0 i1 i2 i3 i4 i5 h0 n0) room_1.cells room_1.slots (T49.setTop (mkF m 156 #[.val (.int i0), .val (.int i1), .val (.int i2), .val (.int i3), .val (.int i4), .val (.int i5), .val (.int (3 : Int32)), .val (.int (1 : Int32)), .val (.ref ra), .val (.ref rb), .val (.ref rc), .val (.ref rv), .val (.ref b5), .val (.ref rb), .val (.ref rb)] [(.ref ra)]))
    refine own_st (fun wt wk => XS.iconst X49.here hx rfl (hb hby at_156) wk) ?_
    show Fin1 p e below s (rm0Q Z i0 i1 i2 i3 i4 i5 h0 n0) room_1.cells room_1.slots (T49.setTop (mkF m 157 #[.val (.int i0), .val (.int i1), .val (.int i2), .val (.int i3), .val (.int i4), .val (.int i5), .val (.int (3 : Int32)), .val (.int (1 : Int32)), .val (.ref ra), .val (.ref rb), .val (.ref rc), .val (.ref rv), .val (.ref b5), .val (.ref rb), .val (.ref rb)] [(.int (0 : Int32)), (.ref ra)]))
    refine own_st (fun wt wk => XS.iload X49.here hx rfl (hb hby at_157) rfl wk) ?_
    show Fin1 p e below s (rm0Q Z i0 i1 i2 i3 i4 i5 h0 n0) room_1.cells room_1.slots (T49.setTop (mkF m 159 #[.val (.int i0), .val (.int i1), .val (.int i2), .val (.int i3), .val (.int i4), .val (.int i5), .val (.int (3 : Int32)), .val (.int (1 : Int32)), .val (.ref ra), .val (.ref rb), .val (.ref rc), .val (.ref rv), .val (.ref b5), .val (.ref rb), .val (.ref rb)] [(.int (1 : Int32)), (.int (0 : Int32)), (.ref ra)]))
    refine own_st (fun wt wk => XS.aload X49.here hx rfl (hb hby at_159) rfl rfl wk) ?_
    show Fin1 p e below s (rm0Q Z i0 i1 i2 i3 i4 i5 h0 n0) room_1.cells room_1.slots (T49.setTop (mkF m 161 #[.val (.int i0), .val (.int i1), .val (.int i2), .val (.int i3), .val (.int i4), .val (.int i5), .val (.int (3 : Int32)), .val (.int (1 : Int32)), .val (.ref ra), .val (.ref rb), .val (.ref rc), .val (.ref rv), .val (.ref b5), .val (.ref rb), .val (.ref rb)] [(.ref rv), (.int (1 : Int32)), (.int (0 : Int32)), (.ref ra)]))
    refine own_st (fun wt wk => XS.aload X49.here hx rfl (hb hby at_161) rfl rfl wk) ?_
    show Fin1 p e below s (rm0Q Z i0 i1 i2 i3 i4 i5 h0 n0) room_1.cells room_1.slots (T49.setTop (mkF m 163 #[.val (.int i0), .val (.int i1), .val (.int i2), .val (.int i3), .val (.int i4), .val (.int i5), .val (.int (3 : Int32)), .val (.int (1 : Int32)), .val (.ref ra), .val (.ref rb), .val (.ref rc), .val (.ref rv), .val (.ref b5), .val (.ref rb), .val (.ref rb)] [(.ref ra), (.ref rv), (.int (1 : Int32)), (.int (0 : Int32)), (.ref ra)]))
    refine own_st (fun wt wk => XS.aload X49.here hx rfl (hb hby at_163) rfl rfl wk) ?_
    show Fin1 p e below s (rm0Q Z i0 i1 i2 i3 i4 i5 h0 n0) room_1.cells room_1.slots (T49.setTop (mkF m 165 #[.val (.int i0), .val (.int i1), .val (.int i2), .val (.int i3), .val (.int i4), .val (.int i5), .val (.int (3 : Int32)), .val (.int (1 : Int32)), .val (.ref ra), .val (.ref rb), .val (.ref rc), .val (.ref rv), .val (.ref b5), .val (.ref rb), .val (.ref rb)] [(.ref rb), (.ref ra), (.ref rv), (.int (1 : Int32)), (.int (0 : Int32)), (.ref ra)]))
    refine own_st (fun wt wk => XS.aload X49.here hx rfl (hb hby at_165) rfl rfl wk) ?_
    show Fin1 p e below s (rm0Q Z i0 i1 i2 i3 i4 i5 h0 n0) room_1.cells room_1.slots (T49.setTop (mkF m 167 #[.val (.int i0), .val (.int i1), .val (.int i2), .val (.int i3), .val (.int i4), .val (.int i5), .val (.int (3 : Int32)), .val (.int (1 : Int32)), .val (.ref ra), .val (.ref rb), .val (.ref rc), .val (.ref rv), .val (.ref b5), .val (.ref rb), .val (.ref rb)] [(.ref rc), (.ref rb), (.ref ra), (.ref rv), (.int (1 : Int32)), (.int (0 : Int32)), (.ref ra)]))
    obtain ⟨v50, T50, h50, L50, X50, e50, hQ50, st50⟩ := own_static X49 hx hZ hown (hw _ (List.mem_of_getElem? (i := 60) rfl)) (hw _ (List.mem_of_getElem? (i := 61) rfl)) (hw _ (List.mem_of_getElem? (i := 62) rfl)) (hw _ (List.mem_of_getElem? (i := 63) rfl)) (by decide) (rmX l Z a0 hw (0 : Int32) (1 : Int32) rv ra rb rc ra h46 n0 Z0 (by simp [own_exp])) e49 (g := (mkF m 167 #[.val (.int i0), .val (.int i1), .val (.int i2), .val (.int i3), .val (.int i4), .val (.int i5), .val (.int (3 : Int32)), .val (.int (1 : Int32)), .val (.ref ra), .val (.ref rb), .val (.ref rc), .val (.ref rv), .val (.ref b5), .val (.ref rb), .val (.ref rb)] [(.ref rc), (.ref rb), (.ref ra), (.ref rv), (.int (1 : Int32)), (.int (0 : Int32)), (.ref ra)])) rfl (by rw [hml]; rfl) (argsL := [(.int (0 : Int32)), (.int (1 : Int32)), (.ref rv), (.ref ra), (.ref rb), (.ref rc)]) (rest := [(.ref ra)]) (lenOf pd_12 rfl) rfl (W := 1) (by show 2 * 0 + _ ≤ _; exact Nat.le_of_eq rfl) (hb hby at_167) (by decide) (by decide) (by decide) (by decide)
    obtain ⟨rfl, N50q, hh50⟩ := hQ50
    have N50 := Fr.app N49 N50q
    rw [hh50] at e50
    refine own_st st50 ?_
    show Fin1 p e below s (rm0Q Z i0 i1 i2 i3 i4 i5 h0 n0) room_1.cells room_1.slots (T50.setTop (mkF m 170 #[.val (.int i0), .val (.int i1), .val (.int i2), .val (.int i3), .val (.int i4), .val (.int i5), .val (.int (3 : Int32)), .val (.int (1 : Int32)), .val (.ref ra), .val (.ref rb), .val (.ref rc), .val (.ref rv), .val (.ref b5), .val (.ref rb), .val (.ref rb)] [(.ref ra), (.ref ra)]))
    refine own_st (fun wt wk => Jvm.RoadKit.acmp (g := (mkF m 170 #[.val (.int i0), .val (.int i1), .val (.int i2), .val (.int i3), .val (.int i4), .val (.int i5), .val (.int (3 : Int32)), .val (.int (1 : Int32)), .val (.ref ra), .val (.ref rb), .val (.ref rc), .val (.ref rv), .val (.ref b5), .val (.ref rb), .val (.ref rb)] [(.ref ra), (.ref ra)])) X50 hx rfl rfl rfl (pc0 := 170) (pc' := 175) (same := true) rfl (hb hby at_170) rfl (decide_eq_true rfl) (by decide) (by decide) wk) ?_
    show Fin1 p e below s (rm0Q Z i0 i1 i2 i3 i4 i5 h0 n0) room_1.cells room_1.slots (T50.setTop (mkF m 175 #[.val (.int i0), .val (.int i1), .val (.int i2), .val (.int i3), .val (.int i4), .val (.int i5), .val (.int (3 : Int32)), .val (.int (1 : Int32)), .val (.ref ra), .val (.ref rb), .val (.ref rc), .val (.ref rv), .val (.ref b5), .val (.ref rb), .val (.ref rb)] []))
    refine own_st (fun wt wk => XS.iload X50.here hx rfl (hb hby at_175) rfl wk) ?_
    show Fin1 p e below s (rm0Q Z i0 i1 i2 i3 i4 i5 h0 n0) room_1.cells room_1.slots (T50.setTop (mkF m 177 #[.val (.int i0), .val (.int i1), .val (.int i2), .val (.int i3), .val (.int i4), .val (.int i5), .val (.int (3 : Int32)), .val (.int (1 : Int32)), .val (.ref ra), .val (.ref rb), .val (.ref rc), .val (.ref rv), .val (.ref b5), .val (.ref rb), .val (.ref rb)] [(.int (3 : Int32))]))
    refine own_st (fun wt wk => XS.iconst X50.here hx rfl (hb hby at_177) wk) ?_
    show Fin1 p e below s (rm0Q Z i0 i1 i2 i3 i4 i5 h0 n0) room_1.cells room_1.slots (T50.setTop (mkF m 178 #[.val (.int i0), .val (.int i1), .val (.int i2), .val (.int i3), .val (.int i4), .val (.int i5), .val (.int (3 : Int32)), .val (.int (1 : Int32)), .val (.ref ra), .val (.ref rb), .val (.ref rc), .val (.ref rv), .val (.ref b5), .val (.ref rb), .val (.ref rb)] [(.int (1 : Int32)), (.int (3 : Int32))]))
    refine own_st (fun wt wk => XS.icmpNo X50.here hx rfl (hb hby at_178) rfl (tlt (by decide)).2.2.2 wk) ?_
    show Fin1 p e below s (rm0Q Z i0 i1 i2 i3 i4 i5 h0 n0) room_1.cells room_1.slots (T50.setTop (mkF m 181 #[.val (.int i0), .val (.int i1), .val (.int i2), .val (.int i3), .val (.int i4), .val (.int i5), .val (.int (3 : Int32)), .val (.int (1 : Int32)), .val (.ref ra), .val (.ref rb), .val (.ref rc), .val (.ref rv), .val (.ref b5), .val (.ref rb), .val (.ref rb)] []))
    refine own_st (fun wt wk => XS.aload X50.here hx rfl (hb hby at_181) rfl rfl wk) ?_
    show Fin1 p e below s (rm0Q Z i0 i1 i2 i3 i4 i5 h0 n0) room_1.cells room_1.slots (T50.setTop (mkF m 183 #[.val (.int i0), .val (.int i1), .val (.int i2), .val (.int i3), .val (.int i4), .val (.int i5), .val (.int (3 : Int32)), .val (.int (1 : Int32)), .val (.ref ra), .val (.ref rb), .val (.ref rc), .val (.ref rv), .val (.ref b5), .val (.ref rb), .val (.ref rb)] [(.ref b5)]))
    refine own_st (fun wt wk => XS.iconst X50.here hx rfl (hb hby at_183) wk) ?_
    show Fin1 p e below s (rm0Q Z i0 i1 i2 i3 i4 i5 h0 n0) room_1.cells room_1.slots (T50.setTop (mkF m 184 #[.val (.int i0), .val (.int i1), .val (.int i2), .val (.int i3), .val (.int i4), .val (.int i5), .val (.int (3 : Int32)), .val (.int (1 : Int32)), .val (.ref ra), .val (.ref rb), .val (.ref rc), .val (.ref rv), .val (.ref b5), .val (.ref rb), .val (.ref rb)] [(.int (1 : Int32)), (.ref b5)]))
    obtain ⟨v51, T51, h51, L51, X51, e51, hQ51, st51⟩ := own_virtual X50 hx hZ hown (hw _ (List.mem_of_getElem? (i := 59) rfl)) (hw _ (List.mem_of_getElem? (i := 48) rfl)) (hw _ (List.mem_of_getElem? (i := 50) rfl)) (hw _ (List.mem_of_getElem? (i := 49) rfl)) (hw _ (List.mem_of_getElem? (i := 51) rfl)) (hw _ (List.mem_of_getElem? (i := 10) rfl)) (by decide) (a := b5) E_b5 (rmG l Z a0 hw b5 (1 : Int32) t kt [(.ref ra), (.ref rv), (.ref rc), .null, .null, .null, .null, .null, .null, .null] (.ref rv) h46 n0 Z0 Fe V_t (by decide) rfl (Or.inr ⟨_, rfl⟩)) e50 (g := (mkF m 184 #[.val (.int i0), .val (.int i1), .val (.int i2), .val (.int i3), .val (.int i4), .val (.int i5), .val (.int (3 : Int32)), .val (.int (1 : Int32)), .val (.ref ra), .val (.ref rb), .val (.ref rc), .val (.ref rv), .val (.ref b5), .val (.ref rb), .val (.ref rb)] [(.int (1 : Int32)), (.ref b5)])) rfl (by rw [hml]; rfl) (argsL := [(.int (1 : Int32))]) (rest := []) (lenOf pd_6 rfl) rfl (W := 0) (by show 2 * 0 + _ ≤ _; exact Nat.le_of_eq rfl) (hb hby at_184) (by decide) (by decide) (by decide) (by decide)
    obtain ⟨rfl, N51q, hh51⟩ := hQ51
    have N51 := Fr.app N50 N51q
    rw [hh51] at e51
    refine own_st st51 ?_
    show Fin1 p e below s (rm0Q Z i0 i1 i2 i3 i4 i5 h0 n0) room_1.cells room_1.slots (T51.setTop (mkF m 187 #[.val (.int i0), .val (.int i1), .val (.int i2), .val (.int i3), .val (.int i4), .val (.int i5), .val (.int (3 : Int32)), .val (.int (1 : Int32)), .val (.ref ra), .val (.ref rb), .val (.ref rc), .val (.ref rv), .val (.ref b5), .val (.ref rb), .val (.ref rb)] [(.ref rv)]))
    refine own_st (fun wt wk => XS.iconst X51.here hx rfl (hb hby at_187) wk) ?_
    show Fin1 p e below s (rm0Q Z i0 i1 i2 i3 i4 i5 h0 n0) room_1.cells room_1.slots (T51.setTop (mkF m 188 #[.val (.int i0), .val (.int i1), .val (.int i2), .val (.int i3), .val (.int i4), .val (.int i5), .val (.int (3 : Int32)), .val (.int (1 : Int32)), .val (.ref ra), .val (.ref rb), .val (.ref rc), .val (.ref rv), .val (.ref b5), .val (.ref rb), .val (.ref rb)] [(.int (1 : Int32)), (.ref rv)]))
    refine own_st (fun wt wk => XS.iload X51.here hx rfl (hb hby at_188) rfl wk) ?_
    show Fin1 p e below s (rm0Q Z i0 i1 i2 i3 i4 i5 h0 n0) room_1.cells room_1.slots (T51.setTop (mkF m 190 #[.val (.int i0), .val (.int i1), .val (.int i2), .val (.int i3), .val (.int i4), .val (.int i5), .val (.int (3 : Int32)), .val (.int (1 : Int32)), .val (.ref ra), .val (.ref rb), .val (.ref rc), .val (.ref rv), .val (.ref b5), .val (.ref rb), .val (.ref rb)] [(.int (1 : Int32)), (.int (1 : Int32)), (.ref rv)]))
    refine own_st (fun wt wk => XS.aload X51.here hx rfl (hb hby at_190) rfl rfl wk) ?_
    show Fin1 p e below s (rm0Q Z i0 i1 i2 i3 i4 i5 h0 n0) room_1.cells room_1.slots (T51.setTop (mkF m 192 #[.val (.int i0), .val (.int i1), .val (.int i2), .val (.int i3), .val (.int i4), .val (.int i5), .val (.int (3 : Int32)), .val (.int (1 : Int32)), .val (.ref ra), .val (.ref rb), .val (.ref rc), .val (.ref rv), .val (.ref b5), .val (.ref rb), .val (.ref rb)] [(.ref rv), (.int (1 : Int32)), (.int (1 : Int32)), (.ref rv)]))
    refine own_st (fun wt wk => XS.aload X51.here hx rfl (hb hby at_192) rfl rfl wk) ?_
    show Fin1 p e below s (rm0Q Z i0 i1 i2 i3 i4 i5 h0 n0) room_1.cells room_1.slots (T51.setTop (mkF m 194 #[.val (.int i0), .val (.int i1), .val (.int i2), .val (.int i3), .val (.int i4), .val (.int i5), .val (.int (3 : Int32)), .val (.int (1 : Int32)), .val (.ref ra), .val (.ref rb), .val (.ref rc), .val (.ref rv), .val (.ref b5), .val (.ref rb), .val (.ref rb)] [(.ref ra), (.ref rv), (.int (1 : Int32)), (.int (1 : Int32)), (.ref rv)]))
    refine own_st (fun wt wk => XS.aload X51.here hx rfl (hb hby at_194) rfl rfl wk) ?_
    show Fin1 p e below s (rm0Q Z i0 i1 i2 i3 i4 i5 h0 n0) room_1.cells room_1.slots (T51.setTop (mkF m 196 #[.val (.int i0), .val (.int i1), .val (.int i2), .val (.int i3), .val (.int i4), .val (.int i5), .val (.int (3 : Int32)), .val (.int (1 : Int32)), .val (.ref ra), .val (.ref rb), .val (.ref rc), .val (.ref rv), .val (.ref b5), .val (.ref rb), .val (.ref rb)] [(.ref rb), (.ref ra), (.ref rv), (.int (1 : Int32)), (.int (1 : Int32)), (.ref rv)]))
    refine own_st (fun wt wk => XS.aload X51.here hx rfl (hb hby at_196) rfl rfl wk) ?_
    show Fin1 p e below s (rm0Q Z i0 i1 i2 i3 i4 i5 h0 n0) room_1.cells room_1.slots (T51.setTop (mkF m 198 #[.val (.int i0), .val (.int i1), .val (.int i2), .val (.int i3), .val (.int i4), .val (.int i5), .val (.int (3 : Int32)), .val (.int (1 : Int32)), .val (.ref ra), .val (.ref rb), .val (.ref rc), .val (.ref rv), .val (.ref b5), .val (.ref rb), .val (.ref rb)] [(.ref rc), (.ref rb), (.ref ra), (.ref rv), (.int (1 : Int32)), (.int (1 : Int32)), (.ref rv)]))
    obtain ⟨v52, T52, h52, L52, X52, e52, hQ52, st52⟩ := own_static X51 hx hZ hown (hw _ (List.mem_of_getElem? (i := 60) rfl)) (hw _ (List.mem_of_getElem? (i := 61) rfl)) (hw _ (List.mem_of_getElem? (i := 62) rfl)) (hw _ (List.mem_of_getElem? (i := 63) rfl)) (by decide) (rmX l Z a0 hw (1 : Int32) (1 : Int32) rv ra rb rc rv h46 n0 Z0 (by simp [own_exp])) e51 (g := (mkF m 198 #[.val (.int i0), .val (.int i1), .val (.int i2), .val (.int i3), .val (.int i4), .val (.int i5), .val (.int (3 : Int32)), .val (.int (1 : Int32)), .val (.ref ra), .val (.ref rb), .val (.ref rc), .val (.ref rv), .val (.ref b5), .val (.ref rb), .val (.ref rb)] [(.ref rc), (.ref rb), (.ref ra), (.ref rv), (.int (1 : Int32)), (.int (1 : Int32)), (.ref rv)])) rfl (by rw [hml]; rfl) (argsL := [(.int (1 : Int32)), (.int (1 : Int32)), (.ref rv), (.ref ra), (.ref rb), (.ref rc)]) (rest := [(.ref rv)]) (lenOf pd_12 rfl) rfl (W := 1) (by show 2 * 0 + _ ≤ _; exact Nat.le_of_eq rfl) (hb hby at_198) (by decide) (by decide) (by decide) (by decide)
    obtain ⟨rfl, N52q, hh52⟩ := hQ52
    have N52 := Fr.app N51 N52q
    rw [hh52] at e52
    refine own_st st52 ?_
    show Fin1 p e below s (rm0Q Z i0 i1 i2 i3 i4 i5 h0 n0) room_1.cells room_1.slots (T52.setTop (mkF m 201 #[.val (.int i0), .val (.int i1), .val (.int i2), .val (.int i3), .val (.int i4), .val (.int i5), .val (.int (3 : Int32)), .val (.int (1 : Int32)), .val (.ref ra), .val (.ref rb), .val (.ref rc), .val (.ref rv), .val (.ref b5), .val (.ref rb), .val (.ref rb)] [(.ref rv), (.ref rv)]))
    refine own_st (fun wt wk => Jvm.RoadKit.acmp (g := (mkF m 201 #[.val (.int i0), .val (.int i1), .val (.int i2), .val (.int i3), .val (.int i4), .val (.int i5), .val (.int (3 : Int32)), .val (.int (1 : Int32)), .val (.ref ra), .val (.ref rb), .val (.ref rc), .val (.ref rv), .val (.ref b5), .val (.ref rb), .val (.ref rb)] [(.ref rv), (.ref rv)])) X52 hx rfl rfl rfl (pc0 := 201) (pc' := 206) (same := true) rfl (hb hby at_201) rfl (decide_eq_true rfl) (by decide) (by decide) wk) ?_
    show Fin1 p e below s (rm0Q Z i0 i1 i2 i3 i4 i5 h0 n0) room_1.cells room_1.slots (T52.setTop (mkF m 206 #[.val (.int i0), .val (.int i1), .val (.int i2), .val (.int i3), .val (.int i4), .val (.int i5), .val (.int (3 : Int32)), .val (.int (1 : Int32)), .val (.ref ra), .val (.ref rb), .val (.ref rc), .val (.ref rv), .val (.ref b5), .val (.ref rb), .val (.ref rb)] []))
    refine own_st (fun wt wk => XS.iload X52.here hx rfl (hb hby at_206) rfl wk) ?_
    show Fin1 p e below s (rm0Q Z i0 i1 i2 i3 i4 i5 h0 n0) room_1.cells room_1.slots (T52.setTop (mkF m 208 #[.val (.int i0), .val (.int i1), .val (.int i2), .val (.int i3), .val (.int i4), .val (.int i5), .val (.int (3 : Int32)), .val (.int (1 : Int32)), .val (.ref ra), .val (.ref rb), .val (.ref rc), .val (.ref rv), .val (.ref b5), .val (.ref rb), .val (.ref rb)] [(.int (3 : Int32))]))
    refine own_st (fun wt wk => XS.iconst X52.here hx rfl (hb hby at_208) wk) ?_
    show Fin1 p e below s (rm0Q Z i0 i1 i2 i3 i4 i5 h0 n0) room_1.cells room_1.slots (T52.setTop (mkF m 209 #[.val (.int i0), .val (.int i1), .val (.int i2), .val (.int i3), .val (.int i4), .val (.int i5), .val (.int (3 : Int32)), .val (.int (1 : Int32)), .val (.ref ra), .val (.ref rb), .val (.ref rc), .val (.ref rv), .val (.ref b5), .val (.ref rb), .val (.ref rb)] [(.int (2 : Int32)), (.int (3 : Int32))]))
    refine own_st (fun wt wk => XS.icmpNo X52.here hx rfl (hb hby at_209) rfl (tlt (by decide)).2.2.2 wk) ?_
    show Fin1 p e below s (rm0Q Z i0 i1 i2 i3 i4 i5 h0 n0) room_1.cells room_1.slots (T52.setTop (mkF m 212 #[.val (.int i0), .val (.int i1), .val (.int i2), .val (.int i3), .val (.int i4), .val (.int i5), .val (.int (3 : Int32)), .val (.int (1 : Int32)), .val (.ref ra), .val (.ref rb), .val (.ref rc), .val (.ref rv), .val (.ref b5), .val (.ref rb), .val (.ref rb)] []))
    refine own_st (fun wt wk => XS.aload X52.here hx rfl (hb hby at_212) rfl rfl wk) ?_
    show Fin1 p e below s (rm0Q Z i0 i1 i2 i3 i4 i5 h0 n0) room_1.cells room_1.slots (T52.setTop (mkF m 214 #[.val (.int i0), .val (.int i1), .val (.int i2), .val (.int i3), .val (.int i4), .val (.int i5), .val (.int (3 : Int32)), .val (.int (1 : Int32)), .val (.ref ra), .val (.ref rb), .val (.ref rc), .val (.ref rv), .val (.ref b5), .val (.ref rb), .val (.ref rb)] [(.ref b5)]))
    refine own_st (fun wt wk => XS.iconst X52.here hx rfl (hb hby at_214) wk) ?_
    show Fin1 p e below s (rm0Q Z i0 i1 i2 i3 i4 i5 h0 n0) room_1.cells room_1.slots (T52.setTop (mkF m 215 #[.val (.int i0), .val (.int i1), .val (.int i2), .val (.int i3), .val (.int i4), .val (.int i5), .val (.int (3 : Int32)), .val (.int (1 : Int32)), .val (.ref ra), .val (.ref rb), .val (.ref rc), .val (.ref rv), .val (.ref b5), .val (.ref rb), .val (.ref rb)] [(.int (2 : Int32)), (.ref b5)]))
    obtain ⟨v53, T53, h53, L53, X53, e53, hQ53, st53⟩ := own_virtual X52 hx hZ hown (hw _ (List.mem_of_getElem? (i := 59) rfl)) (hw _ (List.mem_of_getElem? (i := 48) rfl)) (hw _ (List.mem_of_getElem? (i := 50) rfl)) (hw _ (List.mem_of_getElem? (i := 49) rfl)) (hw _ (List.mem_of_getElem? (i := 51) rfl)) (hw _ (List.mem_of_getElem? (i := 10) rfl)) (by decide) (a := b5) E_b5 (rmG l Z a0 hw b5 (2 : Int32) t kt [(.ref ra), (.ref rv), (.ref rc), .null, .null, .null, .null, .null, .null, .null] (.ref rc) h46 n0 Z0 Fe V_t (by decide) rfl (Or.inr ⟨_, rfl⟩)) e52 (g := (mkF m 215 #[.val (.int i0), .val (.int i1), .val (.int i2), .val (.int i3), .val (.int i4), .val (.int i5), .val (.int (3 : Int32)), .val (.int (1 : Int32)), .val (.ref ra), .val (.ref rb), .val (.ref rc), .val (.ref rv), .val (.ref b5), .val (.ref rb), .val (.ref rb)] [(.int (2 : Int32)), (.ref b5)])) rfl (by rw [hml]; rfl) (argsL := [(.int (2 : Int32))]) (rest := []) (lenOf pd_6 rfl) rfl (W := 0) (by show 2 * 0 + _ ≤ _; exact Nat.le_of_eq rfl) (hb hby at_215) (by decide) (by decide) (by decide) (by decide)
    obtain ⟨rfl, N53q, hh53⟩ := hQ53
    have N53 := Fr.app N52 N53q
    rw [hh53] at e53
    refine own_st st53 ?_
    show Fin1 p e below s (rm0Q Z i0 i1 i2 i3 i4 i5 h0 n0) room_1.cells room_1.slots (T53.setTop (mkF m 218 #[.val (.int i0), .val (.int i1), .val (.int i2), .val (.int i3), .val (.int i4), .val (.int i5), .val (.int (3 : Int32)), .val (.int (1 : Int32)), .val (.ref ra), .val (.ref rb), .val (.ref rc), .val (.ref rv), .val (.ref b5), .val (.ref rb), .val (.ref rb)] [(.ref rc)]))
    refine own_st (fun wt wk => XS.iconst X53.here hx rfl (hb hby at_218) wk) ?_
    show Fin1 p e below s (rm0Q Z i0 i1 i2 i3 i4 i5 h0 n0) room_1.cells room_1.slots (T53.setTop (mkF m 219 #[.val (.int i0), .val (.int i1), .val (.int i2), .val (.int i3), .val (.int i4), .val (.int i5), .val (.int (3 : Int32)), .val (.int (1 : Int32)), .val (.ref ra), .val (.ref rb), .val (.ref rc), .val (.ref rv), .val (.ref b5), .val (.ref rb), .val (.ref rb)] [(.int (2 : Int32)), (.ref rc)]))
    refine own_st (fun wt wk => XS.iload X53.here hx rfl (hb hby at_219) rfl wk) ?_
    show Fin1 p e below s (rm0Q Z i0 i1 i2 i3 i4 i5 h0 n0) room_1.cells room_1.slots (T53.setTop (mkF m 221 #[.val (.int i0), .val (.int i1), .val (.int i2), .val (.int i3), .val (.int i4), .val (.int i5), .val (.int (3 : Int32)), .val (.int (1 : Int32)), .val (.ref ra), .val (.ref rb), .val (.ref rc), .val (.ref rv), .val (.ref b5), .val (.ref rb), .val (.ref rb)] [(.int (1 : Int32)), (.int (2 : Int32)), (.ref rc)]))
    refine own_st (fun wt wk => XS.aload X53.here hx rfl (hb hby at_221) rfl rfl wk) ?_
    show Fin1 p e below s (rm0Q Z i0 i1 i2 i3 i4 i5 h0 n0) room_1.cells room_1.slots (T53.setTop (mkF m 223 #[.val (.int i0), .val (.int i1), .val (.int i2), .val (.int i3), .val (.int i4), .val (.int i5), .val (.int (3 : Int32)), .val (.int (1 : Int32)), .val (.ref ra), .val (.ref rb), .val (.ref rc), .val (.ref rv), .val (.ref b5), .val (.ref rb), .val (.ref rb)] [(.ref rv), (.int (1 : Int32)), (.int (2 : Int32)), (.ref rc)]))
    refine own_st (fun wt wk => XS.aload X53.here hx rfl (hb hby at_223) rfl rfl wk) ?_
    show Fin1 p e below s (rm0Q Z i0 i1 i2 i3 i4 i5 h0 n0) room_1.cells room_1.slots (T53.setTop (mkF m 225 #[.val (.int i0), .val (.int i1), .val (.int i2), .val (.int i3), .val (.int i4), .val (.int i5), .val (.int (3 : Int32)), .val (.int (1 : Int32)), .val (.ref ra), .val (.ref rb), .val (.ref rc), .val (.ref rv), .val (.ref b5), .val (.ref rb), .val (.ref rb)] [(.ref ra), (.ref rv), (.int (1 : Int32)), (.int (2 : Int32)), (.ref rc)]))
    refine own_st (fun wt wk => XS.aload X53.here hx rfl (hb hby at_225) rfl rfl wk) ?_
    show Fin1 p e below s (rm0Q Z i0 i1 i2 i3 i4 i5 h0 n0) room_1.cells room_1.slots (T53.setTop (mkF m 227 #[.val (.int i0), .val (.int i1), .val (.int i2), .val (.int i3), .val (.int i4), .val (.int i5), .val (.int (3 : Int32)), .val (.int (1 : Int32)), .val (.ref ra), .val (.ref rb), .val (.ref rc), .val (.ref rv), .val (.ref b5), .val (.ref rb), .val (.ref rb)] [(.ref rb), (.ref ra), (.ref rv), (.int (1 : Int32)), (.int (2 : Int32)), (.ref rc)]))
    refine own_st (fun wt wk => XS.aload X53.here hx rfl (hb hby at_227) rfl rfl wk) ?_
    show Fin1 p e below s (rm0Q Z i0 i1 i2 i3 i4 i5 h0 n0) room_1.cells room_1.slots (T53.setTop (mkF m 229 #[.val (.int i0), .val (.int i1), .val (.int i2), .val (.int i3), .val (.int i4), .val (.int i5), .val (.int (3 : Int32)), .val (.int (1 : Int32)), .val (.ref ra), .val (.ref rb), .val (.ref rc), .val (.ref rv), .val (.ref b5), .val (.ref rb), .val (.ref rb)] [(.ref rc), (.ref rb), (.ref ra), (.ref rv), (.int (1 : Int32)), (.int (2 : Int32)), (.ref rc)]))
    obtain ⟨v54, T54, h54, L54, X54, e54, hQ54, st54⟩ := own_static X53 hx hZ hown (hw _ (List.mem_of_getElem? (i := 60) rfl)) (hw _ (List.mem_of_getElem? (i := 61) rfl)) (hw _ (List.mem_of_getElem? (i := 62) rfl)) (hw _ (List.mem_of_getElem? (i := 63) rfl)) (by decide) (rmX l Z a0 hw (2 : Int32) (1 : Int32) rv ra rb rc rc h46 n0 Z0 (by simp [own_exp])) e53 (g := (mkF m 229 #[.val (.int i0), .val (.int i1), .val (.int i2), .val (.int i3), .val (.int i4), .val (.int i5), .val (.int (3 : Int32)), .val (.int (1 : Int32)), .val (.ref ra), .val (.ref rb), .val (.ref rc), .val (.ref rv), .val (.ref b5), .val (.ref rb), .val (.ref rb)] [(.ref rc), (.ref rb), (.ref ra), (.ref rv), (.int (1 : Int32)), (.int (2 : Int32)), (.ref rc)])) rfl (by rw [hml]; rfl) (argsL := [(.int (2 : Int32)), (.int (1 : Int32)), (.ref rv), (.ref ra), (.ref rb), (.ref rc)]) (rest := [(.ref rc)]) (lenOf pd_12 rfl) rfl (W := 1) (by show 2 * 0 + _ ≤ _; exact Nat.le_of_eq rfl) (hb hby at_229) (by decide) (by decide) (by decide) (by decide)
    obtain ⟨rfl, N54q, hh54⟩ := hQ54
    have N54 := Fr.app N53 N54q
    rw [hh54] at e54
    refine own_st st54 ?_
    show Fin1 p e below s (rm0Q Z i0 i1 i2 i3 i4 i5 h0 n0) room_1.cells room_1.slots (T54.setTop (mkF m 232 #[.val (.int i0), .val (.int i1), .val (.int i2), .val (.int i3), .val (.int i4), .val (.int i5), .val (.int (3 : Int32)), .val (.int (1 : Int32)), .val (.ref ra), .val (.ref rb), .val (.ref rc), .val (.ref rv), .val (.ref b5), .val (.ref rb), .val (.ref rb)] [(.ref rc), (.ref rc)]))
    refine own_st (fun wt wk => Jvm.RoadKit.acmp (g := (mkF m 232 #[.val (.int i0), .val (.int i1), .val (.int i2), .val (.int i3), .val (.int i4), .val (.int i5), .val (.int (3 : Int32)), .val (.int (1 : Int32)), .val (.ref ra), .val (.ref rb), .val (.ref rc), .val (.ref rv), .val (.ref b5), .val (.ref rb), .val (.ref rb)] [(.ref rc), (.ref rc)])) X54 hx rfl rfl rfl (pc0 := 232) (pc' := 237) (same := true) rfl (hb hby at_232) rfl (decide_eq_true rfl) (by decide) (by decide) wk) ?_
    show Fin1 p e below s (rm0Q Z i0 i1 i2 i3 i4 i5 h0 n0) room_1.cells room_1.slots (T54.setTop (mkF m 237 #[.val (.int i0), .val (.int i1), .val (.int i2), .val (.int i3), .val (.int i4), .val (.int i5), .val (.int (3 : Int32)), .val (.int (1 : Int32)), .val (.ref ra), .val (.ref rb), .val (.ref rc), .val (.ref rv), .val (.ref b5), .val (.ref rb), .val (.ref rb)] []))
    refine own_st (fun wt wk => XS.aload X54.here hx rfl (hb hby at_237) rfl rfl wk) ?_
    show Fin1 p e below s (rm0Q Z i0 i1 i2 i3 i4 i5 h0 n0) room_1.cells room_1.slots (T54.setTop (mkF m 239 #[.val (.int i0), .val (.int i1), .val (.int i2), .val (.int i3), .val (.int i4), .val (.int i5), .val (.int (3 : Int32)), .val (.int (1 : Int32)), .val (.ref ra), .val (.ref rb), .val (.ref rc), .val (.ref rv), .val (.ref b5), .val (.ref rb), .val (.ref rb)] [(.ref b5)]))
    refine own_st (fun wt wk => XS.iload X54.here hx rfl (hb hby at_239) rfl wk) ?_
    show Fin1 p e below s (rm0Q Z i0 i1 i2 i3 i4 i5 h0 n0) room_1.cells room_1.slots (T54.setTop (mkF m 241 #[.val (.int i0), .val (.int i1), .val (.int i2), .val (.int i3), .val (.int i4), .val (.int i5), .val (.int (3 : Int32)), .val (.int (1 : Int32)), .val (.ref ra), .val (.ref rb), .val (.ref rc), .val (.ref rv), .val (.ref b5), .val (.ref rb), .val (.ref rb)] [(.int (3 : Int32)), (.ref b5)]))
    obtain ⟨v55, T55, h55, L55, X55, e55, hQ55, st55⟩ := own_virtual X54 hx hZ hown (hw _ (List.mem_of_getElem? (i := 59) rfl)) (hw _ (List.mem_of_getElem? (i := 48) rfl)) (hw _ (List.mem_of_getElem? (i := 50) rfl)) (hw _ (List.mem_of_getElem? (i := 49) rfl)) (hw _ (List.mem_of_getElem? (i := 51) rfl)) (hw _ (List.mem_of_getElem? (i := 10) rfl)) (by decide) (a := b5) E_b5 (rmG l Z a0 hw b5 (3 : Int32) t kt [(.ref ra), (.ref rv), (.ref rc), .null, .null, .null, .null, .null, .null, .null] .null h46 n0 Z0 Fe V_t (by decide) rfl (Or.inl rfl)) e54 (g := (mkF m 241 #[.val (.int i0), .val (.int i1), .val (.int i2), .val (.int i3), .val (.int i4), .val (.int i5), .val (.int (3 : Int32)), .val (.int (1 : Int32)), .val (.ref ra), .val (.ref rb), .val (.ref rc), .val (.ref rv), .val (.ref b5), .val (.ref rb), .val (.ref rb)] [(.int (3 : Int32)), (.ref b5)])) rfl (by rw [hml]; rfl) (argsL := [(.int (3 : Int32))]) (rest := []) (lenOf pd_6 rfl) rfl (W := 0) (by show 2 * 0 + _ ≤ _; exact Nat.le_of_eq rfl) (hb hby at_241) (by decide) (by decide) (by decide) (by decide)
    obtain ⟨rfl, N55q, hh55⟩ := hQ55
    have N55 := Fr.app N54 N55q
    rw [hh55] at e55
    refine own_st st55 ?_
    show Fin1 p e below s (rm0Q Z i0 i1 i2 i3 i4 i5 h0 n0) room_1.cells room_1.slots (T55.setTop (mkF m 244 #[.val (.int i0), .val (.int i1), .val (.int i2), .val (.int i3), .val (.int i4), .val (.int i5), .val (.int (3 : Int32)), .val (.int (1 : Int32)), .val (.ref ra), .val (.ref rb), .val (.ref rc), .val (.ref rv), .val (.ref b5), .val (.ref rb), .val (.ref rb)] [.null]))
    refine own_st (fun wt wk => XS.ifnullYes X55.here hx rfl (pc0 := 244) (pc' := 249) rfl (hb hby at_244) rfl (by decide) (by decide) wk) ?_
    show Fin1 p e below s (rm0Q Z i0 i1 i2 i3 i4 i5 h0 n0) room_1.cells room_1.slots (T55.setTop (mkF m 249 #[.val (.int i0), .val (.int i1), .val (.int i2), .val (.int i3), .val (.int i4), .val (.int i5), .val (.int (3 : Int32)), .val (.int (1 : Int32)), .val (.ref ra), .val (.ref rb), .val (.ref rc), .val (.ref rv), .val (.ref b5), .val (.ref rb), .val (.ref rb)] []))
    refine own_st (fun wt wk => XS.iconst X55.here hx rfl (hb hby at_249) wk) ?_
    show Fin1 p e below s (rm0Q Z i0 i1 i2 i3 i4 i5 h0 n0) room_1.cells room_1.slots (T55.setTop (mkF m 250 #[.val (.int i0), .val (.int i1), .val (.int i2), .val (.int i3), .val (.int i4), .val (.int i5), .val (.int (3 : Int32)), .val (.int (1 : Int32)), .val (.ref ra), .val (.ref rb), .val (.ref rc), .val (.ref rv), .val (.ref b5), .val (.ref rb), .val (.ref rb)] [(.int (1 : Int32))]))
    exact own_retZ X55 hx hlk hret (hb hby at_250) (z := (1 : Int32)) (by decide) (by rw [e55]; exact ⟨rfl, N55⟩) (by decide) (by decide)
  · show Fin1 p e below s (rm0Q Z i0 i1 i2 i3 i4 i5 h0 n0) room_1.cells room_1.slots (T7.setTop (mkF m 65 #[.val (.int i0), .val (.int i1), .val (.int i2), .val (.int i3), .val (.int i4), .val (.int i5), .val (.int (3 : Int32)), .val (.int (2 : Int32)), .val (.ref ra), .val (.ref rb), .val (.ref rc), .val (.ref rv), .val (.ref b5), .unset, .unset] [(.int (1 : Int32)), (.int (3 : Int32))]))
    refine own_st (fun wt wk => XS.icmpNo X7.here hx rfl (hb hby at_65) rfl (tlt (by decide)).2.2.2 wk) ?_
    show Fin1 p e below s (rm0Q Z i0 i1 i2 i3 i4 i5 h0 n0) room_1.cells room_1.slots (T7.setTop (mkF m 68 #[.val (.int i0), .val (.int i1), .val (.int i2), .val (.int i3), .val (.int i4), .val (.int i5), .val (.int (3 : Int32)), .val (.int (2 : Int32)), .val (.ref ra), .val (.ref rb), .val (.ref rc), .val (.ref rv), .val (.ref b5), .unset, .unset] []))
    refine own_st (fun wt wk => XS.aload X7.here hx rfl (hb hby at_68) rfl rfl wk) ?_
    show Fin1 p e below s (rm0Q Z i0 i1 i2 i3 i4 i5 h0 n0) room_1.cells room_1.slots (T7.setTop (mkF m 70 #[.val (.int i0), .val (.int i1), .val (.int i2), .val (.int i3), .val (.int i4), .val (.int i5), .val (.int (3 : Int32)), .val (.int (2 : Int32)), .val (.ref ra), .val (.ref rb), .val (.ref rc), .val (.ref rv), .val (.ref b5), .unset, .unset] [(.ref b5)]))
    refine own_st (fun wt wk => XS.iconst X7.here hx rfl (hb hby at_70) wk) ?_
    show Fin1 p e below s (rm0Q Z i0 i1 i2 i3 i4 i5 h0 n0) room_1.cells room_1.slots (T7.setTop (mkF m 71 #[.val (.int i0), .val (.int i1), .val (.int i2), .val (.int i3), .val (.int i4), .val (.int i5), .val (.int (3 : Int32)), .val (.int (2 : Int32)), .val (.ref ra), .val (.ref rb), .val (.ref rc), .val (.ref rv), .val (.ref b5), .unset, .unset] [(.int (1 : Int32)), (.ref b5)]))
    refine own_st (fun wt wk => XS.aload X7.here hx rfl (hb hby at_71) rfl rfl wk) ?_
    show Fin1 p e below s (rm0Q Z i0 i1 i2 i3 i4 i5 h0 n0) room_1.cells room_1.slots (T7.setTop (mkF m 73 #[.val (.int i0), .val (.int i1), .val (.int i2), .val (.int i3), .val (.int i4), .val (.int i5), .val (.int (3 : Int32)), .val (.int (2 : Int32)), .val (.ref ra), .val (.ref rb), .val (.ref rc), .val (.ref rv), .val (.ref b5), .unset, .unset] [(.ref rb), (.int (1 : Int32)), (.ref b5)]))
    obtain ⟨v56, T56, h56, L56, X56, e56, hQ56, st56⟩ := own_virtual X7 hx hZ hown (hw _ (List.mem_of_getElem? (i := 26) rfl)) (hw _ (List.mem_of_getElem? (i := 27) rfl)) (hw _ (List.mem_of_getElem? (i := 29) rfl)) (hw _ (List.mem_of_getElem? (i := 28) rfl)) (hw _ (List.mem_of_getElem? (i := 30) rfl)) (hw _ (List.mem_of_getElem? (i := 10) rfl)) (by decide) (a := b5) E_b5 (rmI1 l Z a0 hw b5 rb t kt ra h7 n0 Z0 g_b5 g_t E_b5 E_rb Fe Fs V_t hov ne_b5_t) e7 (g := (mkF m 73 #[.val (.int i0), .val (.int i1), .val (.int i2), .val (.int i3), .val (.int i4), .val (.int i5), .val (.int (3 : Int32)), .val (.int (2 : Int32)), .val (.ref ra), .val (.ref rb), .val (.ref rc), .val (.ref rv), .val (.ref b5), .unset, .unset] [(.ref rb), (.int (1 : Int32)), (.ref b5)])) rfl (by rw [hml]; rfl) (argsL := [(.int (1 : Int32)), (.ref rb)]) (rest := []) (lenOf pd_9 rfl) rfl (W := 0) (by show 2 * 0 + _ ≤ _; exact Nat.le_of_eq rfl) (hb hby at_73) (by decide) (by decide) (by decide) (by decide)
    obtain ⟨rfl, N56q, K56, Fe, Fs, V_t⟩ := hQ56
    have N56 := Fr.app N7 N56q
    have Z0 := Nat.le_trans Z0 K56.1
    have O := O.keep K56 (allS (P := fun x => n0 ≤ x) g_b5 (allS (P := fun x => n0 ≤ x) g_t all0))
    have E_ra := E_ra.keep K56
    have E_rb := E_rb.keep K56
    have E_rc := E_rc.keep K56
    have E_rv := E_rv.keep K56
    have E_b5 := E_b5.keep K56
    refine own_st st56 ?_
    show Fin1 p e below s (rm0Q Z i0 i1 i2 i3 i4 i5 h0 n0) room_1.cells room_1.slots (T56.setTop (mkF m 76 #[.val (.int i0), .val (.int i1), .val (.int i2), .val (.int i3), .val (.int i4), .val (.int i5), .val (.int (3 : Int32)), .val (.int (2 : Int32)), .val (.ref ra), .val (.ref rb), .val (.ref rc), .val (.ref rv), .val (.ref b5), .unset, .unset] []))
    refine own_st (fun wt wk => XS.iload X56.here hx rfl (hb hby at_76) rfl wk) ?_
    show Fin1 p e below s (rm0Q Z i0 i1 i2 i3 i4 i5 h0 n0) room_1.cells room_1.slots (T56.setTop (mkF m 78 #[.val (.int i0), .val (.int i1), .val (.int i2), .val (.int i3), .val (.int i4), .val (.int i5), .val (.int (3 : Int32)), .val (.int (2 : Int32)), .val (.ref ra), .val (.ref rb), .val (.ref rc), .val (.ref rv), .val (.ref b5), .unset, .unset] [(.int (3 : Int32))]))
    refine own_st (fun wt wk => XS.iconst X56.here hx rfl (hb hby at_78) wk) ?_
    show Fin1 p e below s (rm0Q Z i0 i1 i2 i3 i4 i5 h0 n0) room_1.cells room_1.slots (T56.setTop (mkF m 79 #[.val (.int i0), .val (.int i1), .val (.int i2), .val (.int i3), .val (.int i4), .val (.int i5), .val (.int (3 : Int32)), .val (.int (2 : Int32)), .val (.ref ra), .val (.ref rb), .val (.ref rc), .val (.ref rv), .val (.ref b5), .unset, .unset] [(.int (2 : Int32)), (.int (3 : Int32))]))
    refine own_st (fun wt wk => XS.icmpNo X56.here hx rfl (hb hby at_79) rfl (tlt (by decide)).2.2.2 wk) ?_
    show Fin1 p e below s (rm0Q Z i0 i1 i2 i3 i4 i5 h0 n0) room_1.cells room_1.slots (T56.setTop (mkF m 82 #[.val (.int i0), .val (.int i1), .val (.int i2), .val (.int i3), .val (.int i4), .val (.int i5), .val (.int (3 : Int32)), .val (.int (2 : Int32)), .val (.ref ra), .val (.ref rb), .val (.ref rc), .val (.ref rv), .val (.ref b5), .unset, .unset] []))
    refine own_st (fun wt wk => XS.aload X56.here hx rfl (hb hby at_82) rfl rfl wk) ?_
    show Fin1 p e below s (rm0Q Z i0 i1 i2 i3 i4 i5 h0 n0) room_1.cells room_1.slots (T56.setTop (mkF m 84 #[.val (.int i0), .val (.int i1), .val (.int i2), .val (.int i3), .val (.int i4), .val (.int i5), .val (.int (3 : Int32)), .val (.int (2 : Int32)), .val (.ref ra), .val (.ref rb), .val (.ref rc), .val (.ref rv), .val (.ref b5), .unset, .unset] [(.ref b5)]))
    refine own_st (fun wt wk => XS.iconst X56.here hx rfl (hb hby at_84) wk) ?_
    show Fin1 p e below s (rm0Q Z i0 i1 i2 i3 i4 i5 h0 n0) room_1.cells room_1.slots (T56.setTop (mkF m 85 #[.val (.int i0), .val (.int i1), .val (.int i2), .val (.int i3), .val (.int i4), .val (.int i5), .val (.int (3 : Int32)), .val (.int (2 : Int32)), .val (.ref ra), .val (.ref rb), .val (.ref rc), .val (.ref rv), .val (.ref b5), .unset, .unset] [(.int (2 : Int32)), (.ref b5)]))
    refine own_st (fun wt wk => XS.aload X56.here hx rfl (hb hby at_85) rfl rfl wk) ?_
    show Fin1 p e below s (rm0Q Z i0 i1 i2 i3 i4 i5 h0 n0) room_1.cells room_1.slots (T56.setTop (mkF m 87 #[.val (.int i0), .val (.int i1), .val (.int i2), .val (.int i3), .val (.int i4), .val (.int i5), .val (.int (3 : Int32)), .val (.int (2 : Int32)), .val (.ref ra), .val (.ref rb), .val (.ref rc), .val (.ref rv), .val (.ref b5), .unset, .unset] [(.ref rc), (.int (2 : Int32)), (.ref b5)]))
    obtain ⟨v57, T57, h57, L57, X57, e57, hQ57, st57⟩ := own_virtual X56 hx hZ hown (hw _ (List.mem_of_getElem? (i := 26) rfl)) (hw _ (List.mem_of_getElem? (i := 27) rfl)) (hw _ (List.mem_of_getElem? (i := 29) rfl)) (hw _ (List.mem_of_getElem? (i := 28) rfl)) (hw _ (List.mem_of_getElem? (i := 30) rfl)) (hw _ (List.mem_of_getElem? (i := 10) rfl)) (by decide) (a := b5) E_b5 (rmI2 l Z a0 hw b5 rc t kt ra rb h56 n0 Z0 g_b5 g_t E_b5 E_rc Fe Fs V_t hov ne_b5_t) e56 (g := (mkF m 87 #[.val (.int i0), .val (.int i1), .val (.int i2), .val (.int i3), .val (.int i4), .val (.int i5), .val (.int (3 : Int32)), .val (.int (2 : Int32)), .val (.ref ra), .val (.ref rb), .val (.ref rc), .val (.ref rv), .val (.ref b5), .unset, .unset] [(.ref rc), (.int (2 : Int32)), (.ref b5)])) rfl (by rw [hml]; rfl) (argsL := [(.int (2 : Int32)), (.ref rc)]) (rest := []) (lenOf pd_9 rfl) rfl (W := 0) (by show 2 * 0 + _ ≤ _; exact Nat.le_of_eq rfl) (hb hby at_87) (by decide) (by decide) (by decide) (by decide)
    obtain ⟨rfl, N57q, K57, Fe, Fs, V_t⟩ := hQ57
    have N57 := Fr.app N56 N57q
    have Z0 := Nat.le_trans Z0 K57.1
    have O := O.keep K57 (allS (P := fun x => n0 ≤ x) g_b5 (allS (P := fun x => n0 ≤ x) g_t all0))
    have E_ra := E_ra.keep K57
    have E_rb := E_rb.keep K57
    have E_rc := E_rc.keep K57
    have E_rv := E_rv.keep K57
    have E_b5 := E_b5.keep K57
    refine own_st st57 ?_
    show Fin1 p e below s (rm0Q Z i0 i1 i2 i3 i4 i5 h0 n0) room_1.cells room_1.slots (T57.setTop (mkF m 90 #[.val (.int i0), .val (.int i1), .val (.int i2), .val (.int i3), .val (.int i4), .val (.int i5), .val (.int (3 : Int32)), .val (.int (2 : Int32)), .val (.ref ra), .val (.ref rb), .val (.ref rc), .val (.ref rv), .val (.ref b5), .unset, .unset] []))
    refine own_st (fun wt wk => XS.iload X57.here hx rfl (hb hby at_90) rfl wk) ?_
    show Fin1 p e below s (rm0Q Z i0 i1 i2 i3 i4 i5 h0 n0) room_1.cells room_1.slots (T57.setTop (mkF m 92 #[.val (.int i0), .val (.int i1), .val (.int i2), .val (.int i3), .val (.int i4), .val (.int i5), .val (.int (3 : Int32)), .val (.int (2 : Int32)), .val (.ref ra), .val (.ref rb), .val (.ref rc), .val (.ref rv), .val (.ref b5), .unset, .unset] [(.int (2 : Int32))]))
    refine own_st (fun wt wk => XS.ifYes X57.here hx rfl (pc0 := 92) (pc' := 100) rfl (hb hby at_92) rfl ((if0 _ _).trans (feq (by decide)).2) (by decide) (by decide) wk) ?_
    show Fin1 p e below s (rm0Q Z i0 i1 i2 i3 i4 i5 h0 n0) room_1.cells room_1.slots (T57.setTop (mkF m 100 #[.val (.int i0), .val (.int i1), .val (.int i2), .val (.int i3), .val (.int i4), .val (.int i5), .val (.int (3 : Int32)), .val (.int (2 : Int32)), .val (.ref ra), .val (.ref rb), .val (.ref rc), .val (.ref rv), .val (.ref b5), .unset, .unset] []))
    refine own_st (fun wt wk => XS.iload X57.here hx rfl (hb hby at_100) rfl wk) ?_
    show Fin1 p e below s (rm0Q Z i0 i1 i2 i3 i4 i5 h0 n0) room_1.cells room_1.slots (T57.setTop (mkF m 102 #[.val (.int i0), .val (.int i1), .val (.int i2), .val (.int i3), .val (.int i4), .val (.int i5), .val (.int (3 : Int32)), .val (.int (2 : Int32)), .val (.ref ra), .val (.ref rb), .val (.ref rc), .val (.ref rv), .val (.ref b5), .unset, .unset] [(.int (2 : Int32))]))
    refine own_st (fun wt wk => XS.iconst X57.here hx rfl (hb hby at_102) wk) ?_
    show Fin1 p e below s (rm0Q Z i0 i1 i2 i3 i4 i5 h0 n0) room_1.cells room_1.slots (T57.setTop (mkF m 103 #[.val (.int i0), .val (.int i1), .val (.int i2), .val (.int i3), .val (.int i4), .val (.int i5), .val (.int (3 : Int32)), .val (.int (2 : Int32)), .val (.ref ra), .val (.ref rb), .val (.ref rc), .val (.ref rv), .val (.ref b5), .unset, .unset] [(.int (1 : Int32)), (.int (2 : Int32))]))
    refine own_st (fun wt wk => XS.icmpYes X57.here hx rfl (pc0 := 103) (pc' := 111) rfl (hb hby at_103) rfl (feq (by decide)).2 (by decide) (by decide) wk) ?_
    show Fin1 p e below s (rm0Q Z i0 i1 i2 i3 i4 i5 h0 n0) room_1.cells room_1.slots (T57.setTop (mkF m 111 #[.val (.int i0), .val (.int i1), .val (.int i2), .val (.int i3), .val (.int i4), .val (.int i5), .val (.int (3 : Int32)), .val (.int (2 : Int32)), .val (.ref ra), .val (.ref rb), .val (.ref rc), .val (.ref rv), .val (.ref b5), .unset, .unset] []))
    refine own_st (fun wt wk => XS.aload X57.here hx rfl (hb hby at_111) rfl rfl wk) ?_
    show Fin1 p e below s (rm0Q Z i0 i1 i2 i3 i4 i5 h0 n0) room_1.cells room_1.slots (T57.setTop (mkF m 113 #[.val (.int i0), .val (.int i1), .val (.int i2), .val (.int i3), .val (.int i4), .val (.int i5), .val (.int (3 : Int32)), .val (.int (2 : Int32)), .val (.ref ra), .val (.ref rb), .val (.ref rc), .val (.ref rv), .val (.ref b5), .unset, .unset] [(.ref rc)]))
    refine own_st (fun wt wk => XS.astore X57.here hx rfl (hb hby at_113) rfl rfl (l' := #[.val (.int i0), .val (.int i1), .val (.int i2), .val (.int i3), .val (.int i4), .val (.int i5), .val (.int (3 : Int32)), .val (.int (2 : Int32)), .val (.ref ra), .val (.ref rb), .val (.ref rc), .val (.ref rv), .val (.ref b5), .val (.ref rc), .unset]) rfl wk) ?_
    show Fin1 p e below s (rm0Q Z i0 i1 i2 i3 i4 i5 h0 n0) room_1.cells room_1.slots (T57.setTop (mkF m 115 #[.val (.int i0), .val (.int i1), .val (.int i2), .val (.int i3), .val (.int i4), .val (.int i5), .val (.int (3 : Int32)), .val (.int (2 : Int32)), .val (.ref ra), .val (.ref rb), .val (.ref rc), .val (.ref rv), .val (.ref b5), .val (.ref rc), .unset] []))
    refine own_st (fun wt wk => XS.aload X57.here hx rfl (hb hby at_115) rfl rfl wk) ?_
    show Fin1 p e below s (rm0Q Z i0 i1 i2 i3 i4 i5 h0 n0) room_1.cells room_1.slots (T57.setTop (mkF m 117 #[.val (.int i0), .val (.int i1), .val (.int i2), .val (.int i3), .val (.int i4), .val (.int i5), .val (.int (3 : Int32)), .val (.int (2 : Int32)), .val (.ref ra), .val (.ref rb), .val (.ref rc), .val (.ref rv), .val (.ref b5), .val (.ref rc), .unset] [(.ref b5)]))
    refine own_st (fun wt wk => XS.iload X57.here hx rfl (hb hby at_117) rfl wk) ?_
    show Fin1 p e below s (rm0Q Z i0 i1 i2 i3 i4 i5 h0 n0) room_1.cells room_1.slots (T57.setTop (mkF m 119 #[.val (.int i0), .val (.int i1), .val (.int i2), .val (.int i3), .val (.int i4), .val (.int i5), .val (.int (3 : Int32)), .val (.int (2 : Int32)), .val (.ref ra), .val (.ref rb), .val (.ref rc), .val (.ref rv), .val (.ref b5), .val (.ref rc), .unset] [(.int (2 : Int32)), (.ref b5)]))
    refine own_st (fun wt wk => XS.aload X57.here hx rfl (hb hby at_119) rfl rfl wk) ?_
    show Fin1 p e below s (rm0Q Z i0 i1 i2 i3 i4 i5 h0 n0) room_1.cells room_1.slots (T57.setTop (mkF m 121 #[.val (.int i0), .val (.int i1), .val (.int i2), .val (.int i3), .val (.int i4), .val (.int i5), .val (.int (3 : Int32)), .val (.int (2 : Int32)), .val (.ref ra), .val (.ref rb), .val (.ref rc), .val (.ref rv), .val (.ref b5), .val (.ref rc), .unset] [(.ref rv), (.int (2 : Int32)), (.ref b5)]))
    obtain ⟨v58, T58, h58, L58, X58, e58, hQ58, st58⟩ := own_virtual X57 hx hZ hown (hw _ (List.mem_of_getElem? (i := 42) rfl)) (hw _ (List.mem_of_getElem? (i := 43) rfl)) (hw _ (List.mem_of_getElem? (i := 45) rfl)) (hw _ (List.mem_of_getElem? (i := 44) rfl)) (hw _ (List.mem_of_getElem? (i := 46) rfl)) (hw _ (List.mem_of_getElem? (i := 10) rfl)) (by decide) (a := b5) E_b5 (rmT l Z a0 hw b5 (2 : Int32) rv t kt [(.ref ra), (.ref rb), (.ref rc), .null, .null, .null, .null, .null, .null, .null] 2 rc h57 n0 Z0 g_t E_b5 E_rv Fe V_t hov ne_b5_t (by decide) rfl rfl (by simp)) e57 (g := (mkF m 121 #[.val (.int i0), .val (.int i1), .val (.int i2), .val (.int i3), .val (.int i4), .val (.int i5), .val (.int (3 : Int32)), .val (.int (2 : Int32)), .val (.ref ra), .val (.ref rb), .val (.ref rc), .val (.ref rv), .val (.ref b5), .val (.ref rc), .unset] [(.ref rv), (.int (2 : Int32)), (.ref b5)])) rfl (by rw [hml]; rfl) (argsL := [(.int (2 : Int32)), (.ref rv)]) (rest := []) (lenOf pd_10 rfl) rfl (W := 0) (by show 2 * 0 + _ ≤ _; exact Nat.le_of_eq rfl) (hb hby at_121) (by decide) (by decide) (by decide) (by decide)
    obtain ⟨rfl, N58q, K58, V_t⟩ := hQ58
    have N58 := Fr.app N57 N58q
    have Z0 := Nat.le_trans Z0 K58.1
    have O := O.keep K58 (allS (P := fun x => n0 ≤ x) g_t all0)
    have E_ra := E_ra.keep K58
    have E_rb := E_rb.keep K58
    have E_rc := E_rc.keep K58
    have E_rv := E_rv.keep K58
    have E_b5 := E_b5.keep K58
    have Fe := Fe.keep K58 (ninS ne_b5_t nin0)
    have Fs := Fs.keep K58 (ninS ne_b5_t nin0)
    refine own_st st58 ?_
    show Fin1 p e below s (rm0Q Z i0 i1 i2 i3 i4 i5 h0 n0) room_1.cells room_1.slots (T58.setTop (mkF m 124 #[.val (.int i0), .val (.int i1), .val (.int i2), .val (.int i3), .val (.int i4), .val (.int i5), .val (.int (3 : Int32)), .val (.int (2 : Int32)), .val (.ref ra), .val (.ref rb), .val (.ref rc), .val (.ref rv), .val (.ref b5), .val (.ref rc), .unset] [(.ref rc)]))
    obtain ⟨T59, X59, e59, st59⟩ := castY X58 hx hZ hown (hw _ (List.mem_of_getElem? (i := 52) rfl)) e58 (Ins.self E_rc) (g := (mkF m 124 #[.val (.int i0), .val (.int i1), .val (.int i2), .val (.int i3), .val (.int i4), .val (.int i5), .val (.int (3 : Int32)), .val (.int (2 : Int32)), .val (.ref ra), .val (.ref rb), .val (.ref rc), .val (.ref rv), .val (.ref b5), .val (.ref rc), .unset] [(.ref rc)])) rfl rfl (hb hby at_124)
    refine own_st st59 ?_
    show Fin1 p e below s (rm0Q Z i0 i1 i2 i3 i4 i5 h0 n0) room_1.cells room_1.slots (T59.setTop (mkF m 127 #[.val (.int i0), .val (.int i1), .val (.int i2), .val (.int i3), .val (.int i4), .val (.int i5), .val (.int (3 : Int32)), .val (.int (2 : Int32)), .val (.ref ra), .val (.ref rb), .val (.ref rc), .val (.ref rv), .val (.ref b5), .val (.ref rc), .unset] [(.ref rc)]))
    refine own_st (fun wt wk => XS.astore X59.here hx rfl (hb hby at_127) rfl rfl (l' := #[.val (.int i0), .val (.int i1), .val (.int i2), .val (.int i3), .val (.int i4), .val (.int i5), .val (.int (3 : Int32)), .val (.int (2 : Int32)), .val (.ref ra), .val (.ref rb), .val (.ref rc), .val (.ref rv), .val (.ref b5), .val (.ref rc), .val (.ref rc)]) rfl wk) ?_
    show Fin1 p e below s (rm0Q Z i0 i1 i2 i3 i4 i5 h0 n0) room_1.cells room_1.slots (T59.setTop (mkF m 129 #[.val (.int i0), .val (.int i1), .val (.int i2), .val (.int i3), .val (.int i4), .val (.int i5), .val (.int (3 : Int32)), .val (.int (2 : Int32)), .val (.ref ra), .val (.ref rb), .val (.ref rc), .val (.ref rv), .val (.ref b5), .val (.ref rc), .val (.ref rc)] []))
    refine own_st (fun wt wk => XS.aload X59.here hx rfl (hb hby at_129) rfl rfl wk) ?_
    show Fin1 p e below s (rm0Q Z i0 i1 i2 i3 i4 i5 h0 n0) room_1.cells room_1.slots (T59.setTop (mkF m 131 #[.val (.int i0), .val (.int i1), .val (.int i2), .val (.int i3), .val (.int i4), .val (.int i5), .val (.int (3 : Int32)), .val (.int (2 : Int32)), .val (.ref ra), .val (.ref rb), .val (.ref rc), .val (.ref rv), .val (.ref b5), .val (.ref rc), .val (.ref rc)] [(.ref rc)]))
    refine own_st (fun wt wk => XS.aload X59.here hx rfl (hb hby at_131) rfl rfl wk) ?_
    show Fin1 p e below s (rm0Q Z i0 i1 i2 i3 i4 i5 h0 n0) room_1.cells room_1.slots (T59.setTop (mkF m 133 #[.val (.int i0), .val (.int i1), .val (.int i2), .val (.int i3), .val (.int i4), .val (.int i5), .val (.int (3 : Int32)), .val (.int (2 : Int32)), .val (.ref ra), .val (.ref rb), .val (.ref rc), .val (.ref rv), .val (.ref b5), .val (.ref rc), .val (.ref rc)] [(.ref rc), (.ref rc)]))
    refine own_st (fun wt wk => Jvm.RoadKit.acmp (g := (mkF m 133 #[.val (.int i0), .val (.int i1), .val (.int i2), .val (.int i3), .val (.int i4), .val (.int i5), .val (.int (3 : Int32)), .val (.int (2 : Int32)), .val (.ref ra), .val (.ref rb), .val (.ref rc), .val (.ref rv), .val (.ref b5), .val (.ref rc), .val (.ref rc)] [(.ref rc), (.ref rc)])) X59 hx rfl rfl rfl (pc0 := 133) (pc' := 138) (same := true) rfl (hb hby at_133) rfl (decide_eq_true rfl) (by decide) (by decide) wk) ?_
    show Fin1 p e below s (rm0Q Z i0 i1 i2 i3 i4 i5 h0 n0) room_1.cells room_1.slots (T59.setTop (mkF m 138 #[.val (.int i0), .val (.int i1), .val (.int i2), .val (.int i3), .val (.int i4), .val (.int i5), .val (.int (3 : Int32)), .val (.int (2 : Int32)), .val (.ref ra), .val (.ref rb), .val (.ref rc), .val (.ref rv), .val (.ref b5), .val (.ref rc), .val (.ref rc)] []))
    refine own_st (fun wt wk => XS.aload X59.here hx rfl (hb hby at_138) rfl rfl wk) ?_
    show Fin1 p e below s (rm0Q Z i0 i1 i2 i3 i4 i5 h0 n0) room_1.cells room_1.slots (T59.setTop (mkF m 140 #[.val (.int i0), .val (.int i1), .val (.int i2), .val (.int i3), .val (.int i4), .val (.int i5), .val (.int (3 : Int32)), .val (.int (2 : Int32)), .val (.ref ra), .val (.ref rb), .val (.ref rc), .val (.ref rv), .val (.ref b5), .val (.ref rc), .val (.ref rc)] [(.ref b5)]))
    obtain ⟨v60, T60, h60, L60, X60, e60, hQ60, st60⟩ := own_virtual X59 hx hZ hown (hw _ (List.mem_of_getElem? (i := 54) rfl)) (hw _ (List.mem_of_getElem? (i := 55) rfl)) (hw _ (List.mem_of_getElem? (i := 57) rfl)) (hw _ (List.mem_of_getElem? (i := 56) rfl)) (hw _ (List.mem_of_getElem? (i := 58) rfl)) (hw _ (List.mem_of_getElem? (i := 10) rfl)) (by decide) (a := b5) E_b5 (rmZ l Z a0 hw b5 (3 : Int32) h58 n0 Z0 Fs) e59 (g := (mkF m 140 #[.val (.int i0), .val (.int i1), .val (.int i2), .val (.int i3), .val (.int i4), .val (.int i5), .val (.int (3 : Int32)), .val (.int (2 : Int32)), .val (.ref ra), .val (.ref rb), .val (.ref rc), .val (.ref rv), .val (.ref b5), .val (.ref rc), .val (.ref rc)] [(.ref b5)])) rfl (by rw [hml]; rfl) (argsL := []) (rest := []) (lenOf pd_11 rfl) rfl (W := 0) (by show 2 * 0 + _ ≤ _; exact Nat.le_of_eq rfl) (hb hby at_140) (by decide) (by decide) (by decide) (by decide)
    obtain ⟨rfl, N60q, hh60⟩ := hQ60
    have N60 := Fr.app N58 N60q
    rw [hh60] at e60
    refine own_st st60 ?_
    show Fin1 p e below s (rm0Q Z i0 i1 i2 i3 i4 i5 h0 n0) room_1.cells room_1.slots (T60.setTop (mkF m 143 #[.val (.int i0), .val (.int i1), .val (.int i2), .val (.int i3), .val (.int i4), .val (.int i5), .val (.int (3 : Int32)), .val (.int (2 : Int32)), .val (.ref ra), .val (.ref rb), .val (.ref rc), .val (.ref rv), .val (.ref b5), .val (.ref rc), .val (.ref rc)] [(.int (3 : Int32))]))
    refine own_st (fun wt wk => XS.iload X60.here hx rfl (hb hby at_143) rfl wk) ?_
    show Fin1 p e below s (rm0Q Z i0 i1 i2 i3 i4 i5 h0 n0) room_1.cells room_1.slots (T60.setTop (mkF m 145 #[.val (.int i0), .val (.int i1), .val (.int i2), .val (.int i3), .val (.int i4), .val (.int i5), .val (.int (3 : Int32)), .val (.int (2 : Int32)), .val (.ref ra), .val (.ref rb), .val (.ref rc), .val (.ref rv), .val (.ref b5), .val (.ref rc), .val (.ref rc)] [(.int (3 : Int32)), (.int (3 : Int32))]))
    refine own_st (fun wt wk => XS.icmpYes X60.here hx rfl (pc0 := 145) (pc' := 150) rfl (hb hby at_145) rfl (teq (by decide)).1 (by decide) (by decide) wk) ?_
    show Fin1 p e below s (rm0Q Z i0 i1 i2 i3 i4 i5 h0 n0) room_1.cells room_1.slots (T60.setTop (mkF m 150 #[.val (.int i0), .val (.int i1), .val (.int i2), .val (.int i3), .val (.int i4), .val (.int i5), .val (.int (3 : Int32)), .val (.int (2 : Int32)), .val (.ref ra), .val (.ref rb), .val (.ref rc), .val (.ref rv), .val (.ref b5), .val (.ref rc), .val (.ref rc)] []))
    refine own_st (fun wt wk => XS.aload X60.here hx rfl (hb hby at_150) rfl rfl wk) ?_
    show Fin1 p e below s (rm0Q Z i0 i1 i2 i3 i4 i5 h0 n0) room_1.cells room_1.slots (T60.setTop (mkF m 152 #[.val (.int i0), .val (.int i1), .val (.int i2), .val (.int i3), .val (.int i4), .val (.int i5), .val (.int (3 : Int32)), .val (.int (2 : Int32)), .val (.ref ra), .val (.ref rb), .val (.ref rc), .val (.ref rv), .val (.ref b5), .val (.ref rc), .val (.ref rc)] [(.ref b5)]))
    refine own_st (fun wt wk => XS.iconst X60.here hx rfl (hb hby at_152) wk) ?_
    show Fin1 p e below s (rm0Q Z i0 i1 i2 i3 i4 i5 h0 n0) room_1.cells room_1.slots (T60.setTop (mkF m 153 #[.val (.int i0), .val (.int i1), .val (.int i2), .val (.int i3), .val (.int i4), .val (.int i5), .val (.int (3 : Int32)), .val (.int (2 : Int32)), .val (.ref ra), .val (.ref rb), .val (.ref rc), .val (.ref rv), .val (.ref b5), .val (.ref rc), .val (.ref rc)] [(.int (0 : Int32)), (.ref b5)]))
    obtain ⟨v61, T61, h61, L61, X61, e61, hQ61, st61⟩ := own_virtual X60 hx hZ hown (hw _ (List.mem_of_getElem? (i := 59) rfl)) (hw _ (List.mem_of_getElem? (i := 48) rfl)) (hw _ (List.mem_of_getElem? (i := 50) rfl)) (hw _ (List.mem_of_getElem? (i := 49) rfl)) (hw _ (List.mem_of_getElem? (i := 51) rfl)) (hw _ (List.mem_of_getElem? (i := 10) rfl)) (by decide) (a := b5) E_b5 (rmG l Z a0 hw b5 (0 : Int32) t kt [(.ref ra), (.ref rb), (.ref rv), .null, .null, .null, .null, .null, .null, .null] (.ref ra) h58 n0 Z0 Fe V_t (by decide) rfl (Or.inr ⟨_, rfl⟩)) e60 (g := (mkF m 153 #[.val (.int i0), .val (.int i1), .val (.int i2), .val (.int i3), .val (.int i4), .val (.int i5), .val (.int (3 : Int32)), .val (.int (2 : Int32)), .val (.ref ra), .val (.ref rb), .val (.ref rc), .val (.ref rv), .val (.ref b5), .val (.ref rc), .val (.ref rc)] [(.int (0 : Int32)), (.ref b5)])) rfl (by rw [hml]; rfl) (argsL := [(.int (0 : Int32))]) (rest := []) (lenOf pd_6 rfl) rfl (W := 0) (by show 2 * 0 + _ ≤ _; exact Nat.le_of_eq rfl) (hb hby at_153) (by decide) (by decide) (by decide) (by decide)
    obtain ⟨rfl, N61q, hh61⟩ := hQ61
    have N61 := Fr.app N60 N61q
    rw [hh61] at e61
    refine own_st st61 ?_
    show Fin1 p e below s (rm0Q Z i0 i1 i2 i3 i4 i5 h0 n0) room_1.cells room_1.slots (T61.setTop (mkF m 156 #[.val (.int i0), .val (.int i1), .val (.int i2), .val (.int i3), .val (.int i4), .val (.int i5), .val (.int (3 : Int32)), .val (.int (2 : Int32)), .val (.ref ra), .val (.ref rb), .val (.ref rc), .val (.ref rv), .val (.ref b5), .val (.ref rc), .val (.ref rc)] [(.ref ra)]))
    refine own_st (fun wt wk => XS.iconst X61.here hx rfl (hb hby at_156) wk) ?_
    show Fin1 p e below s (rm0Q Z i0 i1 i2 i3 i4 i5 h0 n0) room_1.cells room_1.slots (T61.setTop (mkF m 157 #[.val (.int i0), .val (.int i1), .val (.int i2), .val (.int i3), .val (.int i4), .val (.int i5), .val (.int (3 : Int32)), .val (.int (2 : Int32)), .val (.ref ra), .val (.ref rb), .val (.ref rc), .val (.ref rv), .val (.ref b5), .val (.ref rc), .val (.ref rc)] [(.int (0 : Int32)), (.ref ra)]))
    refine own_st (fun wt wk => XS.iload X61.here hx rfl (hb hby at_157) rfl wk) ?_
    show Fin1 p e below s (rm0Q Z i0 i1 i2 i3 i4 i5 h0 n0) room_1.cells room_1.slots (T61.setTop (mkF m 159 #[.val (.int i0), .val (.int i1), .val (.int i2), .val (.int i3), .val (.int i4), .val (.int i5), .val (.int (3 : Int32)), .val (.int (2 : Int32)), .val (.ref ra), .val (.ref rb), .val (.ref rc), .val (.ref rv), .val (.ref b5), .val (.ref rc), .val (.ref rc)] [(.int (2 : Int32)), (.int (0 : Int32)), (.ref ra)]))
    refine own_st (fun wt wk => XS.aload X61.here hx rfl (hb hby at_159) rfl rfl wk) ?_
    show Fin1 p e below s (rm0Q Z i0 i1 i2 i3 i4 i5 h0 n0) room_1.cells room_1.slots (T61.setTop (mkF m 161 #[.val (.int i0), .val (.int i1), .val (.int i2), .val (.int i3), .val (.int i4), .val (.int i5), .val (.int (3 : Int32)), .val (.int (2 : Int32)), .val (.ref ra), .val (.ref rb), .val (.ref rc), .val (.ref rv), .val (.ref b5), .val (.ref rc), .val (.ref rc)] [(.ref rv), (.int (2 : Int32)), (.int (0 : Int32)), (.ref ra)]))
    refine own_st (fun wt wk => XS.aload X61.here hx rfl (hb hby at_161) rfl rfl wk) ?_
    show Fin1 p e below s (rm0Q Z i0 i1 i2 i3 i4 i5 h0 n0) room_1.cells room_1.slots (T61.setTop (mkF m 163 #[.val (.int i0), .val (.int i1), .val (.int i2), .val (.int i3), .val (.int i4), .val (.int i5), .val (.int (3 : Int32)), .val (.int (2 : Int32)), .val (.ref ra), .val (.ref rb), .val (.ref rc), .val (.ref rv), .val (.ref b5), .val (.ref rc), .val (.ref rc)] [(.ref ra), (.ref rv), (.int (2 : Int32)), (.int (0 : Int32)), (.ref ra)]))
    refine own_st (fun wt wk => XS.aload X61.here hx rfl (hb hby at_163) rfl rfl wk) ?_
    show Fin1 p e below s (rm0Q Z i0 i1 i2 i3 i4 i5 h0 n0) room_1.cells room_1.slots (T61.setTop (mkF m 165 #[.val (.int i0), .val (.int i1), .val (.int i2), .val (.int i3), .val (.int i4), .val (.int i5), .val (.int (3 : Int32)), .val (.int (2 : Int32)), .val (.ref ra), .val (.ref rb), .val (.ref rc), .val (.ref rv), .val (.ref b5), .val (.ref rc), .val (.ref rc)] [(.ref rb), (.ref ra), (.ref rv), (.int (2 : Int32)), (.int (0 : Int32)), (.ref ra)]))
    refine own_st (fun wt wk => XS.aload X61.here hx rfl (hb hby at_165) rfl rfl wk) ?_
    show Fin1 p e below s (rm0Q Z i0 i1 i2 i3 i4 i5 h0 n0) room_1.cells room_1.slots (T61.setTop (mkF m 167 #[.val (.int i0), .val (.int i1), .val (.int i2), .val (.int i3), .val (.int i4), .val (.int i5), .val (.int (3 : Int32)), .val (.int (2 : Int32)), .val (.ref ra), .val (.ref rb), .val (.ref rc), .val (.ref rv), .val (.ref b5), .val (.ref rc), .val (.ref rc)] [(.ref rc), (.ref rb), (.ref ra), (.ref rv), (.int (2 : Int32)), (.int (0 : Int32)), (.ref ra)]))
    obtain ⟨v62, T62, h62, L62, X62, e62, hQ62, st62⟩ := own_static X61 hx hZ hown (hw _ (List.mem_of_getElem? (i := 60) rfl)) (hw _ (List.mem_of_getElem? (i := 61) rfl)) (hw _ (List.mem_of_getElem? (i := 62) rfl)) (hw _ (List.mem_of_getElem? (i := 63) rfl)) (by decide) (rmX l Z a0 hw (0 : Int32) (2 : Int32) rv ra rb rc ra h58 n0 Z0 (by simp [own_exp])) e61 (g := (mkF m 167 #[.val (.int i0), .val (.int i1), .val (.int i2), .val (.int i3), .val (.int i4), .val (.int i5), .val (.int (3 : Int32)), .val (.int (2 : Int32)), .val (.ref ra), .val (.ref rb), .val (.ref rc), .val (.ref rv), .val (.ref b5), .val (.ref rc), .val (.ref rc)] [(.ref rc), (.ref rb), (.ref ra), (.ref rv), (.int (2 : Int32)), (.int (0 : Int32)), (.ref ra)])) rfl (by rw [hml]; rfl) (argsL := [(.int (0 : Int32)), (.int (2 : Int32)), (.ref rv), (.ref ra), (.ref rb), (.ref rc)]) (rest := [(.ref ra)]) (lenOf pd_12 rfl) rfl (W := 1) (by show 2 * 0 + _ ≤ _; exact Nat.le_of_eq rfl) (hb hby at_167) (by decide) (by decide) (by decide) (by decide)
    obtain ⟨rfl, N62q, hh62⟩ := hQ62
    have N62 := Fr.app N61 N62q
    rw [hh62] at e62
    refine own_st st62 ?_
    show Fin1 p e below s (rm0Q Z i0 i1 i2 i3 i4 i5 h0 n0) room_1.cells room_1.slots (T62.setTop (mkF m 170 #[.val (.int i0), .val (.int i1), .val (.int i2), .val (.int i3), .val (.int i4), .val (.int i5), .val (.int (3 : Int32)), .val (.int (2 : Int32)), .val (.ref ra), .val (.ref rb), .val (.ref rc), .val (.ref rv), .val (.ref b5), .val (.ref rc), .val (.ref rc)] [(.ref ra), (.ref ra)]))
    refine own_st (fun wt wk => Jvm.RoadKit.acmp (g := (mkF m 170 #[.val (.int i0), .val (.int i1), .val (.int i2), .val (.int i3), .val (.int i4), .val (.int i5), .val (.int (3 : Int32)), .val (.int (2 : Int32)), .val (.ref ra), .val (.ref rb), .val (.ref rc), .val (.ref rv), .val (.ref b5), .val (.ref rc), .val (.ref rc)] [(.ref ra), (.ref ra)])) X62 hx rfl rfl rfl (pc0 := 170) (pc' := 175) (same := true) rfl (hb hby at_170) rfl (decide_eq_true rfl) (by decide) (by decide) wk) ?_
    show Fin1 p e below s (rm0Q Z i0 i1 i2 i3 i4 i5 h0 n0) room_1.cells room_1.slots (T62.setTop (mkF m 175 #[.val (.int i0), .val (.int i1), .val (.int i2), .val (.int i3), .val (.int i4), .val (.int i5), .val (.int (3 : Int32)), .val (.int (2 : Int32)), .val (.ref ra), .val (.ref rb), .val (.ref rc), .val (.ref rv), .val (.ref b5), .val (.ref rc), .val (.ref rc)] []))
    refine own_st (fun wt wk => XS.iload X62.here hx rfl (hb hby at_175) rfl wk) ?_
    show Fin1 p e below s (rm0Q Z i0 i1 i2 i3 i4 i5 h0 n0) room_1.cells room_1.slots (T62.setTop (mkF m 177 #[.val (.int i0), .val (.int i1), .val (.int i2), .val (.int i3), .val (.int i4), .val (.int i5), .val (.int (3 : Int32)), .val (.int (2 : Int32)), .val (.ref ra), .val (.ref rb), .val (.ref rc), .val (.ref rv), .val (.ref b5), .val (.ref rc), .val (.ref rc)] [(.int (3 : Int32))]))
    refine own_st (fun wt wk => XS.iconst X62.here hx rfl (hb hby at_177) wk) ?_
    show Fin1 p e below s (rm0Q Z i0 i1 i2 i3 i4 i5 h0 n0) room_1.cells room_1.slots (T62.setTop (mkF m 178 #[.val (.int i0), .val (.int i1), .val (.int i2), .val (.int i3), .val (.int i4), .val (.int i5), .val (.int (3 : Int32)), .val (.int (2 : Int32)), .val (.ref ra), .val (.ref rb), .val (.ref rc), .val (.ref rv), .val (.ref b5), .val (.ref rc), .val (.ref rc)] [(.int (1 : Int32)), (.int (3 : Int32))]))
    refine own_st (fun wt wk => XS.icmpNo X62.here hx rfl (hb hby at_178) rfl (tlt (by decide)).2.2.2 wk) ?_
    show Fin1 p e below s (rm0Q Z i0 i1 i2 i3 i4 i5 h0 n0) room_1.cells room_1.slots (T62.setTop (mkF m 181 #[.val (.int i0), .val (.int i1), .val (.int i2), .val (.int i3), .val (.int i4), .val (.int i5), .val (.int (3 : Int32)), .val (.int (2 : Int32)), .val (.ref ra), .val (.ref rb), .val (.ref rc), .val (.ref rv), .val (.ref b5), .val (.ref rc), .val (.ref rc)] []))
    refine own_st (fun wt wk => XS.aload X62.here hx rfl (hb hby at_181) rfl rfl wk) ?_
    show Fin1 p e below s (rm0Q Z i0 i1 i2 i3 i4 i5 h0 n0) room_1.cells room_1.slots (T62.setTop (mkF m 183 #[.val (.int i0), .val (.int i1), .val (.int i2), .val (.int i3), .val (.int i4), .val (.int i5), .val (.int (3 : Int32)), .val (.int (2 : Int32)), .val (.ref ra), .val (.ref rb), .val (.ref rc), .val (.ref rv), .val (.ref b5), .val (.ref rc), .val (.ref rc)] [(.ref b5)]))
    refine own_st (fun wt wk => XS.iconst X62.here hx rfl (hb hby at_183) wk) ?_
    show Fin1 p e below s (rm0Q Z i0 i1 i2 i3 i4 i5 h0 n0) room_1.cells room_1.slots (T62.setTop (mkF m 184 #[.val (.int i0), .val (.int i1), .val (.int i2), .val (.int i3), .val (.int i4), .val (.int i5), .val (.int (3 : Int32)), .val (.int (2 : Int32)), .val (.ref ra), .val (.ref rb), .val (.ref rc), .val (.ref rv), .val (.ref b5), .val (.ref rc), .val (.ref rc)] [(.int (1 : Int32)), (.ref b5)]))
    obtain ⟨v63, T63, h63, L63, X63, e63, hQ63, st63⟩ := own_virtual X62 hx hZ hown (hw _ (List.mem_of_getElem? (i := 59) rfl)) (hw _ (List.mem_of_getElem? (i := 48) rfl)) (hw _ (List.mem_of_getElem? (i := 50) rfl)) (hw _ (List.mem_of_getElem? (i := 49) rfl)) (hw _ (List.mem_of_getElem? (i := 51) rfl)) (hw _ (List.mem_of_getElem? (i := 10) rfl)) (by decide) (a := b5) E_b5 (rmG l Z a0 hw b5 (1 : Int32) t kt [(.ref ra), (.ref rb), (.ref rv), .null, .null, .null, .null, .null, .null, .null] (.ref rb) h58 n0 Z0 Fe V_t (by decide) rfl (Or.inr ⟨_, rfl⟩)) e62 (g := (mkF m 184 #[.val (.int i0), .val (.int i1), .val (.int i2), .val (.int i3), .val (.int i4), .val (.int i5), .val (.int (3 : Int32)), .val (.int (2 : Int32)), .val (.ref ra), .val (.ref rb), .val (.ref rc), .val (.ref rv), .val (.ref b5), .val (.ref rc), .val (.ref rc)] [(.int (1 : Int32)), (.ref b5)])) rfl (by rw [hml]; rfl) (argsL := [(.int (1 : Int32))]) (rest := []) (lenOf pd_6 rfl) rfl (W := 0) (by show 2 * 0 + _ ≤ _; exact Nat.le_of_eq rfl) (hb hby at_184) (by decide) (by decide) (by decide) (by decide)
    obtain ⟨rfl, N63q, hh63⟩ := hQ63
    have N63 := Fr.app N62 N63q
    rw [hh63] at e63
    refine own_st st63 ?_
    show Fin1 p e below s (rm0Q Z i0 i1 i2 i3 i4 i5 h0 n0) room_1.cells room_1.slots (T63.setTop (mkF m 187 #[.val (.int i0), .val (.int i1), .val (.int i2), .val (.int i3), .val (.int i4), .val (.int i5), .val (.int (3 : Int32)), .val (.int (2 : Int32)), .val (.ref ra), .val (.ref rb), .val (.ref rc), .val (.ref rv), .val (.ref b5), .val (.ref rc), .val (.ref rc)] [(.ref rb)]))
    refine own_st (fun wt wk => XS.iconst X63.here hx rfl (hb hby at_187) wk) ?_
    show Fin1 p e below s (rm0Q Z i0 i1 i2 i3 i4 i5 h0 n0) room_1.cells room_1.slots (T63.setTop (mkF m 188 #[.val (.int i0), .val (.int i1), .val (.int i2), .val (.int i3), .val (.int i4), .val (.int i5), .val (.int (3 : Int32)), .val (.int (2 : Int32)), .val (.ref ra), .val (.ref rb), .val (.ref rc), .val (.ref rv), .val (.ref b5), .val (.ref rc), .val (.ref rc)] [(.int (1 : Int32)), (.ref rb)]))
    refine own_st (fun wt wk => XS.iload X63.here hx rfl (hb hby at_188) rfl wk) ?_
    show Fin1 p e below s (rm0Q Z i0 i1 i2 i3 i4 i5 h0 n0) room_1.cells room_1.slots (T63.setTop (mkF m 190 #[.val (.int i0), .val (.int i1), .val (.int i2), .val (.int i3), .val (.int i4), .val (.int i5), .val (.int (3 : Int32)), .val (.int (2 : Int32)), .val (.ref ra), .val (.ref rb), .val (.ref rc), .val (.ref rv), .val (.ref b5), .val (.ref rc), .val (.ref rc)] [(.int (2 : Int32)), (.int (1 : Int32)), (.ref rb)]))
    refine own_st (fun wt wk => XS.aload X63.here hx rfl (hb hby at_190) rfl rfl wk) ?_
    show Fin1 p e below s (rm0Q Z i0 i1 i2 i3 i4 i5 h0 n0) room_1.cells room_1.slots (T63.setTop (mkF m 192 #[.val (.int i0), .val (.int i1), .val (.int i2), .val (.int i3), .val (.int i4), .val (.int i5), .val (.int (3 : Int32)), .val (.int (2 : Int32)), .val (.ref ra), .val (.ref rb), .val (.ref rc), .val (.ref rv), .val (.ref b5), .val (.ref rc), .val (.ref rc)] [(.ref rv), (.int (2 : Int32)), (.int (1 : Int32)), (.ref rb)]))
    refine own_st (fun wt wk => XS.aload X63.here hx rfl (hb hby at_192) rfl rfl wk) ?_
    show Fin1 p e below s (rm0Q Z i0 i1 i2 i3 i4 i5 h0 n0) room_1.cells room_1.slots (T63.setTop (mkF m 194 #[.val (.int i0), .val (.int i1), .val (.int i2), .val (.int i3), .val (.int i4), .val (.int i5), .val (.int (3 : Int32)), .val (.int (2 : Int32)), .val (.ref ra), .val (.ref rb), .val (.ref rc), .val (.ref rv), .val (.ref b5), .val (.ref rc), .val (.ref rc)] [(.ref ra), (.ref rv), (.int (2 : Int32)), (.int (1 : Int32)), (.ref rb)]))
    refine own_st (fun wt wk => XS.aload X63.here hx rfl (hb hby at_194) rfl rfl wk) ?_
    show Fin1 p e below s (rm0Q Z i0 i1 i2 i3 i4 i5 h0 n0) room_1.cells room_1.slots (T63.setTop (mkF m 196 #[.val (.int i0), .val (.int i1), .val (.int i2), .val (.int i3), .val (.int i4), .val (.int i5), .val (.int (3 : Int32)), .val (.int (2 : Int32)), .val (.ref ra), .val (.ref rb), .val (.ref rc), .val (.ref rv), .val (.ref b5), .val (.ref rc), .val (.ref rc)] [(.ref rb), (.ref ra), (.ref rv), (.int (2 : Int32)), (.int (1 : Int32)), (.ref rb)]))
    refine own_st (fun wt wk => XS.aload X63.here hx rfl (hb hby at_196) rfl rfl wk) ?_
    show Fin1 p e below s (rm0Q Z i0 i1 i2 i3 i4 i5 h0 n0) room_1.cells room_1.slots (T63.setTop (mkF m 198 #[.val (.int i0), .val (.int i1), .val (.int i2), .val (.int i3), .val (.int i4), .val (.int i5), .val (.int (3 : Int32)), .val (.int (2 : Int32)), .val (.ref ra), .val (.ref rb), .val (.ref rc), .val (.ref rv), .val (.ref b5), .val (.ref rc), .val (.ref rc)] [(.ref rc), (.ref rb), (.ref ra), (.ref rv), (.int (2 : Int32)), (.int (1 : Int32)), (.ref rb)]))
    obtain ⟨v64, T64, h64, L64, X64, e64, hQ64, st64⟩ := own_static X63 hx hZ hown (hw _ (List.mem_of_getElem? (i := 60) rfl)) (hw _ (List.mem_of_getElem? (i := 61) rfl)) (hw _ (List.mem_of_getElem? (i := 62) rfl)) (hw _ (List.mem_of_getElem? (i := 63) rfl)) (by decide) (rmX l Z a0 hw (1 : Int32) (2 : Int32) rv ra rb rc rb h58 n0 Z0 (by simp [own_exp])) e63 (g := (mkF m 198 #[.val (.int i0), .val (.int i1), .val (.int i2), .val (.int i3), .val (.int i4), .val (.int i5), .val (.int (3 : Int32)), .val (.int (2 : Int32)), .val (.ref ra), .val (.ref rb), .val (.ref rc), .val (.ref rv), .val (.ref b5), .val (.ref rc), .val (.ref rc)] [(.ref rc), (.ref rb), (.ref ra), (.ref rv), (.int (2 : Int32)), (.int (1 : Int32)), (.ref rb)])) rfl (by rw [hml]; rfl) (argsL := [(.int (1 : Int32)), (.int (2 : Int32)), (.ref rv), (.ref ra), (.ref rb), (.ref rc)]) (rest := [(.ref rb)]) (lenOf pd_12 rfl) rfl (W := 1) (by show 2 * 0 + _ ≤ _; exact Nat.le_of_eq rfl) (hb hby at_198) (by decide) (by decide) (by decide) (by decide)
    obtain ⟨rfl, N64q, hh64⟩ := hQ64
    have N64 := Fr.app N63 N64q
    rw [hh64] at e64
    refine own_st st64 ?_
    show Fin1 p e below s (rm0Q Z i0 i1 i2 i3 i4 i5 h0 n0) room_1.cells room_1.slots (T64.setTop (mkF m 201 #[.val (.int i0), .val (.int i1), .val (.int i2), .val (.int i3), .val (.int i4), .val (.int i5), .val (.int (3 : Int32)), .val (.int (2 : Int32)), .val (.ref ra), .val (.ref rb), .val (.ref rc), .val (.ref rv), .val (.ref b5), .val (.ref rc), .val (.ref rc)] [(.ref rb), (.ref rb)]))
    refine own_st (fun wt wk => Jvm.RoadKit.acmp (g := (mkF m 201 #[.val (.int i0), .val (.int i1), .val (.int i2), .val (.int i3), .val (.int i4), .val (.int i5), .val (.int (3 : Int32)), .val (.int (2 : Int32)), .val (.ref ra), .val (.ref rb), .val (.ref rc), .val (.ref rv), .val (.ref b5), .val (.ref rc), .val (.ref rc)] [(.ref rb), (.ref rb)])) X64 hx rfl rfl rfl (pc0 := 201) (pc' := 206) (same := true) rfl (hb hby at_201) rfl (decide_eq_true rfl) (by decide) (by decide) wk) ?_
    show Fin1 p e below s (rm0Q Z i0 i1 i2 i3 i4 i5 h0 n0) room_1.cells room_1.slots (T64.setTop (mkF m 206 #[.val (.int i0), .val (.int i1), .val (.int i2), .val (.int i3), .val (.int i4), .val (.int i5), .val (.int (3 : Int32)), .val (.int (2 : Int32)), .val (.ref ra), .val (.ref rb), .val (.ref rc), .val (.ref rv), .val (.ref b5), .val (.ref rc), .val (.ref rc)] []))
    refine own_st (fun wt wk => XS.iload X64.here hx rfl (hb hby at_206) rfl wk) ?_
    show Fin1 p e below s (rm0Q Z i0 i1 i2 i3 i4 i5 h0 n0) room_1.cells room_1.slots (T64.setTop (mkF m 208 #[.val (.int i0), .val (.int i1), .val (.int i2), .val (.int i3), .val (.int i4), .val (.int i5), .val (.int (3 : Int32)), .val (.int (2 : Int32)), .val (.ref ra), .val (.ref rb), .val (.ref rc), .val (.ref rv), .val (.ref b5), .val (.ref rc), .val (.ref rc)] [(.int (3 : Int32))]))
    refine own_st (fun wt wk => XS.iconst X64.here hx rfl (hb hby at_208) wk) ?_
    show Fin1 p e below s (rm0Q Z i0 i1 i2 i3 i4 i5 h0 n0) room_1.cells room_1.slots (T64.setTop (mkF m 209 #[.val (.int i0), .val (.int i1), .val (.int i2), .val (.int i3), .val (.int i4), .val (.int i5), .val (.int (3 : Int32)), .val (.int (2 : Int32)), .val (.ref ra), .val (.ref rb), .val (.ref rc), .val (.ref rv), .val (.ref b5), .val (.ref rc), .val (.ref rc)] [(.int (2 : Int32)), (.int (3 : Int32))]))
    refine own_st (fun wt wk => XS.icmpNo X64.here hx rfl (hb hby at_209) rfl (tlt (by decide)).2.2.2 wk) ?_
    show Fin1 p e below s (rm0Q Z i0 i1 i2 i3 i4 i5 h0 n0) room_1.cells room_1.slots (T64.setTop (mkF m 212 #[.val (.int i0), .val (.int i1), .val (.int i2), .val (.int i3), .val (.int i4), .val (.int i5), .val (.int (3 : Int32)), .val (.int (2 : Int32)), .val (.ref ra), .val (.ref rb), .val (.ref rc), .val (.ref rv), .val (.ref b5), .val (.ref rc), .val (.ref rc)] []))
    refine own_st (fun wt wk => XS.aload X64.here hx rfl (hb hby at_212) rfl rfl wk) ?_
    show Fin1 p e below s (rm0Q Z i0 i1 i2 i3 i4 i5 h0 n0) room_1.cells room_1.slots (T64.setTop (mkF m 214 #[.val (.int i0), .val (.int i1), .val (.int i2), .val (.int i3), .val (.int i4), .val (.int i5), .val (.int (3 : Int32)), .val (.int (2 : Int32)), .val (.ref ra), .val (.ref rb), .val (.ref rc), .val (.ref rv), .val (.ref b5), .val (.ref rc), .val (.ref rc)] [(.ref b5)]))
    refine own_st (fun wt wk => XS.iconst X64.here hx rfl (hb hby at_214) wk) ?_
    show Fin1 p e below s (rm0Q Z i0 i1 i2 i3 i4 i5 h0 n0) room_1.cells room_1.slots (T64.setTop (mkF m 215 #[.val (.int i0), .val (.int i1), .val (.int i2), .val (.int i3), .val (.int i4), .val (.int i5), .val (.int (3 : Int32)), .val (.int (2 : Int32)), .val (.ref ra), .val (.ref rb), .val (.ref rc), .val (.ref rv), .val (.ref b5), .val (.ref rc), .val (.ref rc)] [(.int (2 : Int32)), (.ref b5)]))
    obtain ⟨v65, T65, h65, L65, X65, e65, hQ65, st65⟩ := own_virtual X64 hx hZ hown (hw _ (List.mem_of_getElem? (i := 59) rfl)) (hw _ (List.mem_of_getElem? (i := 48) rfl)) (hw _ (List.mem_of_getElem? (i := 50) rfl)) (hw _ (List.mem_of_getElem? (i := 49) rfl)) (hw _ (List.mem_of_getElem? (i := 51) rfl)) (hw _ (List.mem_of_getElem? (i := 10) rfl)) (by decide) (a := b5) E_b5 (rmG l Z a0 hw b5 (2 : Int32) t kt [(.ref ra), (.ref rb), (.ref rv), .null, .null, .null, .null, .null, .null, .null] (.ref rv) h58 n0 Z0 Fe V_t (by decide) rfl (Or.inr ⟨_, rfl⟩)) e64 (g := (mkF m 215 #[.val (.int i0), .val (.int i1), .val (.int i2), .val (.int i3), .val (.int i4), .val (.int i5), .val (.int (3 : Int32)), .val (.int (2 : Int32)), .val (.ref ra), .val (.ref rb), .val (.ref rc), .val (.ref rv), .val (.ref b5), .val (.ref rc), .val (.ref rc)] [(.int (2 : Int32)), (.ref b5)])) rfl (by rw [hml]; rfl) (argsL := [(.int (2 : Int32))]) (rest := []) (lenOf pd_6 rfl) rfl (W := 0) (by show 2 * 0 + _ ≤ _; exact Nat.le_of_eq rfl) (hb hby at_215) (by decide) (by decide) (by decide) (by decide)
    obtain ⟨rfl, N65q, hh65⟩ := hQ65
    have N65 := Fr.app N64 N65q
    rw [hh65] at e65
    refine own_st st65 ?_
    show Fin1 p e below s (rm0Q Z i0 i1 i2 i3 i4 i5 h0 n0) room_1.cells room_1.slots (T65.setTop (mkF m 218 #[.val (.int i0), .val (.int i1), .val (.int i2), .val (.int i3), .val (.int i4), .val (.int i5), .val (.int (3 : Int32)), .val (.int (2 : Int32)), .val (.ref ra), .val (.ref rb), .val (.ref rc), .val (.ref rv), .val (.ref b5), .val (.ref rc), .val (.ref rc)] [(.ref rv)]))
    refine own_st (fun wt wk => XS.iconst X65.here hx rfl (hb hby at_218) wk) ?_
    show Fin1 p e below s (rm0Q Z i0 i1 i2 i3 i4 i5 h0 n0) room_1.cells room_1.slots (T65.setTop (mkF m 219 #[.val (.int i0), .val (.int i1), .val (.int i2), .val (.int i3), .val (.int i4), .val (.int i5), .val (.int (3 : Int32)), .val (.int (2 : Int32)), .val (.ref ra), .val (.ref rb), .val (.ref rc), .val (.ref rv), .val (.ref b5), .val (.ref rc), .val (.ref rc)] [(.int (2 : Int32)), (.ref rv)]))
    refine own_st (fun wt wk => XS.iload X65.here hx rfl (hb hby at_219) rfl wk) ?_
    show Fin1 p e below s (rm0Q Z i0 i1 i2 i3 i4 i5 h0 n0) room_1.cells room_1.slots (T65.setTop (mkF m 221 #[.val (.int i0), .val (.int i1), .val (.int i2), .val (.int i3), .val (.int i4), .val (.int i5), .val (.int (3 : Int32)), .val (.int (2 : Int32)), .val (.ref ra), .val (.ref rb), .val (.ref rc), .val (.ref rv), .val (.ref b5), .val (.ref rc), .val (.ref rc)] [(.int (2 : Int32)), (.int (2 : Int32)), (.ref rv)]))
    refine own_st (fun wt wk => XS.aload X65.here hx rfl (hb hby at_221) rfl rfl wk) ?_
    show Fin1 p e below s (rm0Q Z i0 i1 i2 i3 i4 i5 h0 n0) room_1.cells room_1.slots (T65.setTop (mkF m 223 #[.val (.int i0), .val (.int i1), .val (.int i2), .val (.int i3), .val (.int i4), .val (.int i5), .val (.int (3 : Int32)), .val (.int (2 : Int32)), .val (.ref ra), .val (.ref rb), .val (.ref rc), .val (.ref rv), .val (.ref b5), .val (.ref rc), .val (.ref rc)] [(.ref rv), (.int (2 : Int32)), (.int (2 : Int32)), (.ref rv)]))
    refine own_st (fun wt wk => XS.aload X65.here hx rfl (hb hby at_223) rfl rfl wk) ?_
    show Fin1 p e below s (rm0Q Z i0 i1 i2 i3 i4 i5 h0 n0) room_1.cells room_1.slots (T65.setTop (mkF m 225 #[.val (.int i0), .val (.int i1), .val (.int i2), .val (.int i3), .val (.int i4), .val (.int i5), .val (.int (3 : Int32)), .val (.int (2 : Int32)), .val (.ref ra), .val (.ref rb), .val (.ref rc), .val (.ref rv), .val (.ref b5), .val (.ref rc), .val (.ref rc)] [(.ref ra), (.ref rv), (.int (2 : Int32)), (.int (2 : Int32)), (.ref rv)]))
    refine own_st (fun wt wk => XS.aload X65.here hx rfl (hb hby at_225) rfl rfl wk) ?_
    show Fin1 p e below s (rm0Q Z i0 i1 i2 i3 i4 i5 h0 n0) room_1.cells room_1.slots (T65.setTop (mkF m 227 #[.val (.int i0), .val (.int i1), .val (.int i2), .val (.int i3), .val (.int i4), .val (.int i5), .val (.int (3 : Int32)), .val (.int (2 : Int32)), .val (.ref ra), .val (.ref rb), .val (.ref rc), .val (.ref rv), .val (.ref b5), .val (.ref rc), .val (.ref rc)] [(.ref rb), (.ref ra), (.ref rv), (.int (2 : Int32)), (.int (2 : Int32)), (.ref rv)]))
    refine own_st (fun wt wk => XS.aload X65.here hx rfl (hb hby at_227) rfl rfl wk) ?_
    show Fin1 p e below s (rm0Q Z i0 i1 i2 i3 i4 i5 h0 n0) room_1.cells room_1.slots (T65.setTop (mkF m 229 #[.val (.int i0), .val (.int i1), .val (.int i2), .val (.int i3), .val (.int i4), .val (.int i5), .val (.int (3 : Int32)), .val (.int (2 : Int32)), .val (.ref ra), .val (.ref rb), .val (.ref rc), .val (.ref rv), .val (.ref b5), .val (.ref rc), .val (.ref rc)] [(.ref rc), (.ref rb), (.ref ra), (.ref rv), (.int (2 : Int32)), (.int (2 : Int32)), (.ref rv)]))
    obtain ⟨v66, T66, h66, L66, X66, e66, hQ66, st66⟩ := own_static X65 hx hZ hown (hw _ (List.mem_of_getElem? (i := 60) rfl)) (hw _ (List.mem_of_getElem? (i := 61) rfl)) (hw _ (List.mem_of_getElem? (i := 62) rfl)) (hw _ (List.mem_of_getElem? (i := 63) rfl)) (by decide) (rmX l Z a0 hw (2 : Int32) (2 : Int32) rv ra rb rc rv h58 n0 Z0 (by simp [own_exp])) e65 (g := (mkF m 229 #[.val (.int i0), .val (.int i1), .val (.int i2), .val (.int i3), .val (.int i4), .val (.int i5), .val (.int (3 : Int32)), .val (.int (2 : Int32)), .val (.ref ra), .val (.ref rb), .val (.ref rc), .val (.ref rv), .val (.ref b5), .val (.ref rc), .val (.ref rc)] [(.ref rc), (.ref rb), (.ref ra), (.ref rv), (.int (2 : Int32)), (.int (2 : Int32)), (.ref rv)])) rfl (by rw [hml]; rfl) (argsL := [(.int (2 : Int32)), (.int (2 : Int32)), (.ref rv), (.ref ra), (.ref rb), (.ref rc)]) (rest := [(.ref rv)]) (lenOf pd_12 rfl) rfl (W := 1) (by show 2 * 0 + _ ≤ _; exact Nat.le_of_eq rfl) (hb hby at_229) (by decide) (by decide) (by decide) (by decide)
    obtain ⟨rfl, N66q, hh66⟩ := hQ66
    have N66 := Fr.app N65 N66q
    rw [hh66] at e66
    refine own_st st66 ?_
    show Fin1 p e below s (rm0Q Z i0 i1 i2 i3 i4 i5 h0 n0) room_1.cells room_1.slots (T66.setTop (mkF m 232 #[.val (.int i0), .val (.int i1), .val (.int i2), .val (.int i3), .val (.int i4), .val (.int i5), .val (.int (3 : Int32)), .val (.int (2 : Int32)), .val (.ref ra), .val (.ref rb), .val (.ref rc), .val (.ref rv), .val (.ref b5), .val (.ref rc), .val (.ref rc)] [(.ref rv), (.ref rv)]))
    refine own_st (fun wt wk => Jvm.RoadKit.acmp (g := (mkF m 232 #[.val (.int i0), .val (.int i1), .val (.int i2), .val (.int i3), .val (.int i4), .val (.int i5), .val (.int (3 : Int32)), .val (.int (2 : Int32)), .val (.ref ra), .val (.ref rb), .val (.ref rc), .val (.ref rv), .val (.ref b5), .val (.ref rc), .val (.ref rc)] [(.ref rv), (.ref rv)])) X66 hx rfl rfl rfl (pc0 := 232) (pc' := 237) (same := true) rfl (hb hby at_232) rfl (decide_eq_true rfl) (by decide) (by decide) wk) ?_
    show Fin1 p e below s (rm0Q Z i0 i1 i2 i3 i4 i5 h0 n0) room_1.cells room_1.slots (T66.setTop (mkF m 237 #[.val (.int i0), .val (.int i1), .val (.int i2), .val (.int i3), .val (.int i4), .val (.int i5), .val (.int (3 : Int32)), .val (.int (2 : Int32)), .val (.ref ra), .val (.ref rb), .val (.ref rc), .val (.ref rv), .val (.ref b5), .val (.ref rc), .val (.ref rc)] []))
    refine own_st (fun wt wk => XS.aload X66.here hx rfl (hb hby at_237) rfl rfl wk) ?_
    show Fin1 p e below s (rm0Q Z i0 i1 i2 i3 i4 i5 h0 n0) room_1.cells room_1.slots (T66.setTop (mkF m 239 #[.val (.int i0), .val (.int i1), .val (.int i2), .val (.int i3), .val (.int i4), .val (.int i5), .val (.int (3 : Int32)), .val (.int (2 : Int32)), .val (.ref ra), .val (.ref rb), .val (.ref rc), .val (.ref rv), .val (.ref b5), .val (.ref rc), .val (.ref rc)] [(.ref b5)]))
    refine own_st (fun wt wk => XS.iload X66.here hx rfl (hb hby at_239) rfl wk) ?_
    show Fin1 p e below s (rm0Q Z i0 i1 i2 i3 i4 i5 h0 n0) room_1.cells room_1.slots (T66.setTop (mkF m 241 #[.val (.int i0), .val (.int i1), .val (.int i2), .val (.int i3), .val (.int i4), .val (.int i5), .val (.int (3 : Int32)), .val (.int (2 : Int32)), .val (.ref ra), .val (.ref rb), .val (.ref rc), .val (.ref rv), .val (.ref b5), .val (.ref rc), .val (.ref rc)] [(.int (3 : Int32)), (.ref b5)]))
    obtain ⟨v67, T67, h67, L67, X67, e67, hQ67, st67⟩ := own_virtual X66 hx hZ hown (hw _ (List.mem_of_getElem? (i := 59) rfl)) (hw _ (List.mem_of_getElem? (i := 48) rfl)) (hw _ (List.mem_of_getElem? (i := 50) rfl)) (hw _ (List.mem_of_getElem? (i := 49) rfl)) (hw _ (List.mem_of_getElem? (i := 51) rfl)) (hw _ (List.mem_of_getElem? (i := 10) rfl)) (by decide) (a := b5) E_b5 (rmG l Z a0 hw b5 (3 : Int32) t kt [(.ref ra), (.ref rb), (.ref rv), .null, .null, .null, .null, .null, .null, .null] .null h58 n0 Z0 Fe V_t (by decide) rfl (Or.inl rfl)) e66 (g := (mkF m 241 #[.val (.int i0), .val (.int i1), .val (.int i2), .val (.int i3), .val (.int i4), .val (.int i5), .val (.int (3 : Int32)), .val (.int (2 : Int32)), .val (.ref ra), .val (.ref rb), .val (.ref rc), .val (.ref rv), .val (.ref b5), .val (.ref rc), .val (.ref rc)] [(.int (3 : Int32)), (.ref b5)])) rfl (by rw [hml]; rfl) (argsL := [(.int (3 : Int32))]) (rest := []) (lenOf pd_6 rfl) rfl (W := 0) (by show 2 * 0 + _ ≤ _; exact Nat.le_of_eq rfl) (hb hby at_241) (by decide) (by decide) (by decide) (by decide)
    obtain ⟨rfl, N67q, hh67⟩ := hQ67
    have N67 := Fr.app N66 N67q
    rw [hh67] at e67
    refine own_st st67 ?_
    show Fin1 p e below s (rm0Q Z i0 i1 i2 i3 i4 i5 h0 n0) room_1.cells room_1.slots (T67.setTop (mkF m 244 #[.val (.int i0), .val (.int i1), .val (.int i2), .val (.int i3), .val (.int i4), .val (.int i5), .val (.int (3 : Int32)), .val (.int (2 : Int32)), .val (.ref ra), .val (.ref rb), .val (.ref rc), .val (.ref rv), .val (.ref b5), .val (.ref rc), .val (.ref rc)] [.null]))
    refine own_st (fun wt wk => XS.ifnullYes X67.here hx rfl (pc0 := 244) (pc' := 249) rfl (hb hby at_244) rfl (by decide) (by decide) wk) ?_
    show Fin1 p e below s (rm0Q Z i0 i1 i2 i3 i4 i5 h0 n0) room_1.cells room_1.slots (T67.setTop (mkF m 249 #[.val (.int i0), .val (.int i1), .val (.int i2), .val (.int i3), .val (.int i4), .val (.int i5), .val (.int (3 : Int32)), .val (.int (2 : Int32)), .val (.ref ra), .val (.ref rb), .val (.ref rc), .val (.ref rv), .val (.ref b5), .val (.ref rc), .val (.ref rc)] []))
    refine own_st (fun wt wk => XS.iconst X67.here hx rfl (hb hby at_249) wk) ?_
    show Fin1 p e below s (rm0Q Z i0 i1 i2 i3 i4 i5 h0 n0) room_1.cells room_1.slots (T67.setTop (mkF m 250 #[.val (.int i0), .val (.int i1), .val (.int i2), .val (.int i3), .val (.int i4), .val (.int i5), .val (.int (3 : Int32)), .val (.int (2 : Int32)), .val (.ref ra), .val (.ref rb), .val (.ref rc), .val (.ref rv), .val (.ref b5), .val (.ref rc), .val (.ref rc)] [(.int (1 : Int32))]))
    exact own_retZ X67 hx hlk hret (hb hby at_250) (z := (1 : Int32)) (by decide) (by rw [e67]; exact ⟨rfl, N67⟩) (by decide) (by decide)
set_option maxRecDepth 65536 in
set_option maxHeartbeats 40000000 in
theorem comes_1 {Post : Tables → Env → Array Value → State → Outcome → State → Prop} (hpost : ∀ tb e args s v u, (limb_1_1.after args s (.returned v) u = true ∧ limb_1_2.after args s (.returned v) u = true ∧ True) → FrameEnd s (.returned v) u (Jvm.fieldLocs frame_1_writes args s ++ Jvm.arrayLocs frame_1_arrays args s ++ Jvm.staticLocs frame_1_statics s) 24 128 → Post tb e args s (.returned v) u) :
    ArmFor flags0 classFile x code maxLocals ret World_1 tables_1 room_1 Calls_1 rest_1 Pre_1 Post := by
  intro l hfl _ _ p e ha hc hk s m args below hf hA hF happ hP
  obtain ⟨hcalls, hrest, hpre⟩ := hP
  obtain ⟨-, -, -, hnamed, -, -, -, hat⟩ := (Spec.applies_iff hf).mp happ
  obtain ⟨hg, hn⟩ := and_e (Cond.before_iff.mp (show (Jvm.Cond.and given_1 narrow_1).before args s = true from hpre))
  obtain ⟨hcnt, hg1⟩ := and_e hg
  obtain ⟨hv0, hg2⟩ := and_e hg1
  obtain ⟨hv1, hg3⟩ := and_e hg2
  obtain ⟨hv2, hg4⟩ := and_e hg3
  obtain ⟨hv3, hg5⟩ := and_e hg4
  obtain ⟨hv4, hg6⟩ := and_e hg5
  have hv5 := hg6
  obtain ⟨w0, w1, w2, w3, w4, w5, rfl⟩ : ∃ w0 w1 w2 w3 w4 w5 : Value, args = #[w0, w1, w2, w3, w4, w5] := by
    have hs : args.size = 6 := by simpa [Cond.value, given_1] using hcnt
    obtain ⟨L⟩ := args
    match L, hs with
    | [w0, w1, w2, w3, w4, w5], _ => exact ⟨w0, w1, w2, w3, w4, w5, rfl⟩
  have hw := fun d (hd : d ∈ tables_1) => atoms_spec (ws := Jvm.Cond.code x code maxLocals ret :: tables_1) hat d (List.mem_cons_of_mem _ hd)
  have hfit : Fit s := fun {y c} hc i hi => by
    obtain ⟨ha, rfl⟩ := Array.getElem?_eq_some_iff.mp hc
    have q := List.all_eq_true.mp ((Array.all_eq_true_iff_forall_mem.mp hF) _ (Array.getElem_mem ha)) i (List.mem_range.mpr hi)
    simpa [Array.getElem?_eq_getElem hi] using q
  obtain ⟨i0, ei0⟩ := is_v hv0
  obtain rfl : w0 = (.int i0) := Option.some.inj ei0
  obtain ⟨i1, ei1⟩ := is_v hv1
  obtain rfl : w1 = (.int i1) := Option.some.inj ei1
  obtain ⟨i2, ei2⟩ := is_v hv2
  obtain rfl : w2 = (.int i2) := Option.some.inj ei2
  obtain ⟨i3, ei3⟩ := is_v hv3
  obtain rfl : w3 = (.int i3) := Option.some.inj ei3
  obtain ⟨i4, ei4⟩ := is_v hv4
  obtain rfl : w4 = (.int i4) := Option.some.inj ei4
  obtain ⟨i5, ei5⟩ := is_v hv5
  obtain rfl : w5 = (.int i5) := Option.some.inj ei5
  obtain ⟨hsets, hown0⟩ := atoms_of _ (rest_1_c_eq ▸ (show rest_1_c.before _ s = true from hrest))
  obtain ⟨n, o, h1, h2, h3, _, L, rfl, ⟨rfl, N⟩, hq⟩ := rm0 l s _ hw i0 i1 i2 i3 i4 i5 s.heap s.heap.size (Nat.le_refl _) (Old.start s) (own_ic hw hsets) p e ha hc hk s m _ below hf ((Spec.applies_iff_loose hf).mp happ).1 ⟨rfl, State.Warmed39.refl s, rfl⟩ trivial
  refine ⟨n, _, h1, h2, h3, hpost _ _ _ _ _ _ ⟨Cond.after_iff.mpr rfl, Cond.after_iff.mpr (eq_i res_at (Term.int_eval (1)) rfl), trivial⟩ ⟨hq.1, hq.2.1, (hq.2.2.sift fun y hy => Or.inr (N y hy)).mono (by decide) (by decide)⟩⟩
theorem main_1_1 : Claimed_1_1 := comes_1 fun _ _ _ _ _ _ h hF => ⟨h.1, hF⟩
theorem main_1_2 : Claimed_1_2 := comes_1 fun _ _ _ _ _ _ h hF => ⟨h.2.1, hF⟩
end Jvm.Pilot.@@N@@
namespace Jvm.Pilot.@@N@@
open Jvm Jvm.ClassFile Sem Op Lib Jvm.Free Jvm.Stand Jvm.Pilot.@@N@@.Jvm.D
/-! MADE BY PROGRAM (witnessworld.py) out of the Statement's table words and the real class files: 19 classes; the members and pool entries that the words name. The judged class is class 1, her method 2. -/
namespace start1
open Jvm.ClassFile
def u (s : String) : CpInfo := .utf8 (stringToUtf16 s)
/-- a pool by its gaps: so many unusable entries, then the entry; so many at the end -/
def gap : Nat → List CpInfo → List CpInfo
  | 0, r => r
  | n + 1, r => .unusable :: gap n r
def poolList (es : List (Nat × CpInfo)) (last : Nat) : List CpInfo := es.foldr (fun e r => gap e.1 (e.2 :: r)) (gap last [])
def pool (es : List (Nat × CpInfo)) (last : Nat) : Array CpInfo := ⟨poolList es last⟩
def fileOf (pool : Array CpInfo) (this : Nat) (attrs : Array Attribute := #[]) (ms : Array MethodInfo := #[]) (fl : Nat := 33) (sup : Nat := 0) (ifs : Array Nat := #[]) (fds : Array FieldInfo := #[]) : ClassFile where
  minorVersion := 0
  majorVersion := 65
  constantPool := pool
  accessFlags := fl
  thisClass := this
  superClass := sup
  interfaces := ifs
  fields := fds
  methods := ms
  attributes := attrs
def plain (name : String) (sup : Option ClassId) : Class where
  name := name
  kind := .ordinary
  loader := none
  accessFlags := 33
  super := sup
  interfaces := #[]
  cf := none
  fields := #[]
  methods := #[]
  instanceTypes := #[]
  staticTypes := #[]
  resolved := #[]
  callSites := []
  init := .initialized
  statics := none
  mirror := none

def pool0 : Array CpInfo := pool [(5, u "<init>"), (0, u "()V"), (1, .class_ 10), (1, u "java/lang/Object")] 113

def k0c0 : Code := { maxStack := 0, maxLocals := 1, code := object_method_1_code, exceptionTable := #[], attributes := #[] }
def k0m0 : Method := { name := "<init>", desc := "()V", sig := { parameters := [], returnType := none }, accessFlags := 1, code := some k0c0 }
/-- java/lang/Object -/
def k0 : Class := { plain "java/lang/Object" none with
  accessFlags := 33
  interfaces := #[]
  cf := some (fileOf pool0 8 #[] #[{ accessFlags := 1, nameIndex := 5, descriptorIndex := 6, attributes := #[] }] 33 0 #[] #[])
  fields := #[]
  methods := #[k0m0]
  instanceTypes := #[]
  staticTypes := #[]
  resolved := Array.replicate 124 none
  statics := none }

def pool1 : Array CpInfo := pool [(2, .class_ 4), (0, .nameAndType 5 6), (0, u "java/lang/Object"), (0, u "<init>"), (0, u "()V"), (0, .integer 2147483647), (0, .methodref 9 10), (0, .class_ 11), (0, .nameAndType 12 13), (0, u "java/lang/Integer"), (0, u "valueOf"), (0, u "(I)Ljava/lang/Integer;"), (0, .class_ 15), (0, u "com/example/listwright/listwright/ArrayStorage"), (0, .methodref 14 3), (0, .methodref 14 18), (0, .nameAndType 19 20), (0, u "insert"), (0, u "(ILjava/lang/Object;)V"), (0, .methodref 14 22), (0, .nameAndType 23 24), (0, u "set"), (0, u "(ILjava/lang/Object;)Ljava/lang/Object;"), (0, .methodref 14 26), (0, .nameAndType 27 28), (0, u "size"), (0, u "()I"), (0, .methodref 14 30), (0, .nameAndType 31 32), (0, u "get"), (0, u "(I)Ljava/lang/Object;"), (0, .methodref 34 35), (0, .class_ 36), (0, .nameAndType 37 38), (0, u "com/example/listwright/listwright/ArrayStorageSetPinLaw"), (0, u "expectedAt"), (0, u "(IILjava/lang/Integer;Ljava/lang/Integer;Ljava/lang/Integer;Ljava/lang/Integer;)Ljava/lang/Integer;"), (3, u "law"), (0, u "(IIIIII)Z")] 2

def k1m0 : Method := { name := "<init>", desc := "()V", sig := { parameters := [], returnType := none }, accessFlags := 1, code := none }
def k1c1 : Code := { maxStack := 2, maxLocals := 6, code := method_2_code, exceptionTable := #[], attributes := #[] }
def k1m1 : Method := { name := "expectedAt", desc := "(IILjava/lang/Integer;Ljava/lang/Integer;Ljava/lang/Integer;Ljava/lang/Integer;)Ljava/lang/Integer;", sig := { parameters := [.int, .int, (.object "java/lang/Integer"), (.object "java/lang/Integer"), (.object "java/lang/Integer"), (.object "java/lang/Integer")], returnType := some (.object "java/lang/Integer") }, accessFlags := 10, code := some k1c1 }
def k1c2 : Code := { maxStack := 7, maxLocals := 15, code := code, exceptionTable := #[], attributes := #[] }
def k1m2 : Method := { name := "law", desc := "(IIIIII)Z", sig := { parameters := [.int, .int, .int, .int, .int, .int], returnType := some .boolean }, accessFlags := 9, code := some k1c2 }
/-- com/example/listwright/listwright/ArrayStorageSetPinLaw -/
def k1 : Class := { plain "com/example/listwright/listwright/ArrayStorageSetPinLaw" (some 0) with
  accessFlags := 49
  interfaces := #[]
  cf := some (fileOf pool1 34 #[] #[{ accessFlags := 1, nameIndex := 5, descriptorIndex := 6, attributes := #[] }, { accessFlags := 10, nameIndex := 37, descriptorIndex := 38, attributes := #[] }, { accessFlags := 9, nameIndex := 42, descriptorIndex := 43, attributes := #[] }] 49 2 #[] #[])
  fields := #[]
  methods := #[k1m0, k1m1, k1m2]
  instanceTypes := #[]
  staticTypes := #[]
  resolved := Array.replicate 46 none
  statics := none }

def pool2 : Array CpInfo := pool [(1, .class_ 2), (0, u "java/io/Serializable"), (0, .class_ 4), (0, u "java/lang/Object")] 2

/-- java/io/Serializable -/
def k2 : Class := { plain "java/io/Serializable" (some 0) with
  accessFlags := 1537
  interfaces := #[]
  cf := some (fileOf pool2 1 #[] #[] 1537 3 #[] #[])
  fields := #[]
  methods := #[]
  instanceTypes := #[]
  staticTypes := #[]
  resolved := Array.replicate 7 none
  statics := none }

def pool3 : Array CpInfo := pool [(1, .methodref 2 3), (0, .class_ 4), (0, .nameAndType 5 6), (0, u "java/lang/Object"), (0, u "<init>"), (0, u "()V"), (1, .class_ 10), (1, u "java/lang/Number"), (2, .class_ 14), (0, u "java/io/Serializable"), (0, u "serialVersionUID"), (0, u "J")] 20

def k3c0 : Code := { maxStack := 1, maxLocals := 1, code := jdk_18_method_1_code, exceptionTable := #[], attributes := #[] }
def k3m0 : Method := { name := "<init>", desc := "()V", sig := { parameters := [], returnType := none }, accessFlags := 1, code := some k3c0 }
/-- java/lang/Number -/
def k3 : Class := { plain "java/lang/Number" (some 0) with
  accessFlags := 1057
  interfaces := #[2]
  cf := some (fileOf pool3 8 #[] #[{ accessFlags := 1, nameIndex := 5, descriptorIndex := 6, attributes := #[] }] 1057 2 #[13] #[{ accessFlags := 26, nameIndex := 15, descriptorIndex := 16, attributes := #[] }])
  fields := #[{ name := "serialVersionUID", type := .long, accessFlags := 26, slot := 0, constantValue := 0 }]
  methods := #[k3m0]
  instanceTypes := #[]
  staticTypes := #[.long]
  resolved := Array.replicate 37 none
  statics := none }

def pool4 : Array CpInfo := pool [(1, .class_ 2), (0, u "java/lang/Comparable"), (0, .class_ 4), (0, u "java/lang/Object")] 7

/-- java/lang/Comparable -/
def k4 : Class := { plain "java/lang/Comparable" (some 0) with
  accessFlags := 1537
  interfaces := #[]
  cf := some (fileOf pool4 1 #[] #[] 1537 3 #[] #[])
  fields := #[]
  methods := #[]
  instanceTypes := #[]
  staticTypes := #[]
  resolved := Array.replicate 12 none
  statics := none }

def pool5 : Array CpInfo := pool [(1, .class_ 2), (0, u "java/lang/constant/Constable"), (0, .class_ 4), (0, u "java/lang/Object")] 6

/-- java/lang/constant/Constable -/
def k5 : Class := { plain "java/lang/constant/Constable" (some 0) with
  accessFlags := 1537
  interfaces := #[]
  cf := some (fileOf pool5 1 #[] #[] 1537 3 #[] #[])
  fields := #[]
  methods := #[]
  instanceTypes := #[]
  staticTypes := #[]
  resolved := Array.replicate 11 none
  statics := none }

def pool6 : Array CpInfo := pool [(1, .class_ 2), (0, u "java/lang/constant/ConstantDesc"), (0, .class_ 4), (0, u "java/lang/Object")] 32

/-- java/lang/constant/ConstantDesc -/
def k6 : Class := { plain "java/lang/constant/ConstantDesc" (some 0) with
  accessFlags := 1537
  interfaces := #[]
  cf := some (fileOf pool6 1 #[] #[] 1537 3 #[] #[])
  fields := #[]
  methods := #[]
  instanceTypes := #[]
  staticTypes := #[]
  resolved := Array.replicate 37 none
  statics := none }

def pool7 : Array CpInfo := pool [(1, .class_ 2), (0, u "java/lang/Integer"), (16, u "digits"), (0, u "[C"), (46, u "<init>"), (17, u "DigitOnes"), (0, u "[B"), (2, u "DigitTens"), (10, .nameAndType 67 101), (0, u "()V"), (85, u "valueOf"), (0, u "(I)Ljava/lang/Integer;"), (0, .class_ 190), (0, u "java/lang/Integer$IntegerCache"), (0, .fieldref 189 192), (0, .nameAndType 193 194), (0, u "high"), (0, u "I"), (0, .fieldref 189 196), (0, .nameAndType 197 198), (0, u "cache"), (0, u "[Ljava/lang/Integer;"), (0, .methodref 1 200), (0, .nameAndType 67 201), (0, u "(I)V"), (0, .methodref 203 100), (0, .class_ 204), (0, u "java/lang/Number"), (0, .fieldref 1 206), (0, .nameAndType 207 194), (0, u "value"), (94, u "TYPE"), (0, u "Ljava/lang/Class;"), (0, .class_ 305), (0, u "java/lang/Comparable"), (0, .class_ 307), (0, u "java/lang/constant/Constable"), (0, .class_ 309), (0, u "java/lang/constant/ConstantDesc"), (0, u "MIN_VALUE"), (1, u "MAX_VALUE"), (3, u "SIZE"), (1, u "BYTES"), (1, u "serialVersionUID"), (0, u "J")] 131

def k7c0 : Code := { maxStack := 3, maxLocals := 1, code := jdk_33_method_22_code, exceptionTable := #[], attributes := #[] }
def k7m0 : Method := { name := "valueOf", desc := "(I)Ljava/lang/Integer;", sig := { parameters := [.int], returnType := some (.object "java/lang/Integer") }, accessFlags := 9, code := some k7c0 }
def k7c1 : Code := { maxStack := 2, maxLocals := 2, code := jdk_33_method_23_code, exceptionTable := #[], attributes := #[] }
def k7m1 : Method := { name := "<init>", desc := "(I)V", sig := { parameters := [.int], returnType := none }, accessFlags := 1, code := some k7c1 }
/-- java/lang/Integer -/
def k7 : Class := { plain "java/lang/Integer" (some 3) with
  accessFlags := 49
  interfaces := #[4, 5, 6]
  cf := some (fileOf pool7 1 #[.nestMembers #[189]] #[{ accessFlags := 9, nameIndex := 187, descriptorIndex := 188, attributes := #[] }, { accessFlags := 1, nameIndex := 67, descriptorIndex := 201, attributes := #[] }] 49 203 #[304, 306, 308] #[{ accessFlags := 25, nameIndex := 310, descriptorIndex := 194, attributes := #[] }, { accessFlags := 25, nameIndex := 312, descriptorIndex := 194, attributes := #[] }, { accessFlags := 25, nameIndex := 302, descriptorIndex := 303, attributes := #[] }, { accessFlags := 24, nameIndex := 19, descriptorIndex := 20, attributes := #[] }, { accessFlags := 24, nameIndex := 89, descriptorIndex := 86, attributes := #[] }, { accessFlags := 24, nameIndex := 85, descriptorIndex := 86, attributes := #[] }, { accessFlags := 18, nameIndex := 207, descriptorIndex := 194, attributes := #[] }, { accessFlags := 25, nameIndex := 316, descriptorIndex := 194, attributes := #[] }, { accessFlags := 25, nameIndex := 318, descriptorIndex := 194, attributes := #[] }, { accessFlags := 26, nameIndex := 320, descriptorIndex := 321, attributes := #[] }])
  fields := #[{ name := "MIN_VALUE", type := .int, accessFlags := 25, slot := 0, constantValue := 0 }, { name := "MAX_VALUE", type := .int, accessFlags := 25, slot := 1, constantValue := 0 }, { name := "TYPE", type := (.object "java/lang/Class"), accessFlags := 25, slot := 2, constantValue := 0 }, { name := "digits", type := (.array .char), accessFlags := 24, slot := 3, constantValue := 0 }, { name := "DigitTens", type := (.array .byte), accessFlags := 24, slot := 4, constantValue := 0 }, { name := "DigitOnes", type := (.array .byte), accessFlags := 24, slot := 5, constantValue := 0 }, { name := "value", type := .int, accessFlags := 18, slot := 0, constantValue := 0 }, { name := "SIZE", type := .int, accessFlags := 25, slot := 6, constantValue := 0 }, { name := "BYTES", type := .int, accessFlags := 25, slot := 7, constantValue := 0 }, { name := "serialVersionUID", type := .long, accessFlags := 26, slot := 8, constantValue := 0 }]
  methods := #[k7m0, k7m1]
  instanceTypes := #[.int]
  staticTypes := #[.int, .int, (.object "java/lang/Class"), (.array .char), (.array .byte), (.array .byte), .int, .int, .long]
  resolved := Array.replicate 453 none
  statics := none }

def pool8 : Array CpInfo := pool [(2, .class_ 4), (1, u "java/lang/Object"), (0, u "<init>"), (0, u "()V"), (0, .class_ 8), (0, u "java/lang/Integer"), (7, .class_ 18), (1, u "java/lang/Integer$IntegerCache"), (0, u "$assertionsDisabled"), (0, u "Z"), (26, u "high"), (0, u "I"), (8, u "archivedCache"), (0, u "[Ljava/lang/Integer;"), (12, u "cache"), (0, u "low")] 27

def k8m0 : Method := { name := "<init>", desc := "()V", sig := { parameters := [], returnType := none }, accessFlags := 2, code := none }
/-- java/lang/Integer$IntegerCache -/
def k8 : Class := { plain "java/lang/Integer$IntegerCache" (some 0) with
  accessFlags := 48
  interfaces := #[]
  cf := some (fileOf pool8 16 #[.nestHost 7] #[{ accessFlags := 2, nameIndex := 5, descriptorIndex := 6, attributes := #[] }] 48 2 #[] #[{ accessFlags := 24, nameIndex := 72, descriptorIndex := 48, attributes := #[] }, { accessFlags := 24, nameIndex := 47, descriptorIndex := 48, attributes := #[] }, { accessFlags := 24, nameIndex := 71, descriptorIndex := 58, attributes := #[] }, { accessFlags := 8, nameIndex := 57, descriptorIndex := 58, attributes := #[] }, { accessFlags := 4120, nameIndex := 19, descriptorIndex := 20, attributes := #[] }])
  fields := #[{ name := "low", type := .int, accessFlags := 24, slot := 0, constantValue := 0 }, { name := "high", type := .int, accessFlags := 24, slot := 1, constantValue := 0 }, { name := "cache", type := (.array (.object "java/lang/Integer")), accessFlags := 24, slot := 2, constantValue := 0 }, { name := "archivedCache", type := (.array (.object "java/lang/Integer")), accessFlags := 8, slot := 3, constantValue := 0 }, { name := "$assertionsDisabled", type := .boolean, accessFlags := 4120, slot := 4, constantValue := 0 }]
  methods := #[k8m0]
  instanceTypes := #[]
  staticTypes := #[.int, .int, (.array (.object "java/lang/Integer")), (.array (.object "java/lang/Integer")), .boolean]
  resolved := Array.replicate 100 none
  statics := some 0 }

def pool9 : Array CpInfo := pool [(1, .methodref 2 3), (0, .class_ 4), (0, .nameAndType 5 6), (0, u "java/lang/Object"), (0, u "<init>"), (0, u "()V"), (1, .class_ 10), (1, u "com/example/listwright/listwright/Storage"), (23, .class_ 36), (1, u "com/example/listwright/listwright/Storage$Cursor"), (68, .class_ 106), (0, u "java/io/Serializable"), (0, u "serialVersionUID"), (0, u "J")] 67

def k9c0 : Code := { maxStack := 1, maxLocals := 1, code := prog_32_method_1_code, exceptionTable := #[], attributes := #[] }
def k9m0 : Method := { name := "<init>", desc := "()V", sig := { parameters := [], returnType := none }, accessFlags := 0, code := some k9c0 }
/-- com/example/listwright/listwright/Storage -/
def k9 : Class := { plain "com/example/listwright/listwright/Storage" (some 0) with
  accessFlags := 1056
  interfaces := #[2]
  cf := some (fileOf pool9 8 #[.nestMembers #[34]] #[{ accessFlags := 0, nameIndex := 5, descriptorIndex := 6, attributes := #[] }] 1056 2 #[105] #[{ accessFlags := 26, nameIndex := 107, descriptorIndex := 108, attributes := #[] }])
  fields := #[{ name := "serialVersionUID", type := .long, accessFlags := 26, slot := 0, constantValue := 0 }]
  methods := #[k9m0]
  instanceTypes := #[]
  staticTypes := #[.long]
  resolved := Array.replicate 176 none
  statics := none }

def pool10 : Array CpInfo := pool [(1, .methodref 2 3), (0, .class_ 4), (0, .nameAndType 5 6), (0, u "com/example/listwright/listwright/Storage"), (0, u "<init>"), (0, u "()V"), (0, .class_ 8), (0, u "com/example/listwright/listwright/ArrayStorage"), (0, .class_ 10), (0, u "java/lang/Object"), (0, .fieldref 7 12), (0, .nameAndType 13 14), (0, u "elements"), (0, u "[Ljava/lang/Object;"), (0, .fieldref 7 16), (0, .nameAndType 17 18), (0, u "size"), (0, u "I"), (0, .methodref 7 20), (0, .nameAndType 21 22), (0, u "get"), (0, u "(I)Ljava/lang/Object;"), (6, u "insert"), (0, u "(ILjava/lang/Object;)V"), (0, .methodref 7 32), (0, .nameAndType 33 34), (0, u "makeRoomFor"), (0, u "(I)V"), (0, .methodref 36 37), (0, .class_ 38), (0, .nameAndType 39 40), (0, u "java/lang/System"), (0, u "arraycopy"), (0, u "(Ljava/lang/Object;ILjava/lang/Object;II)V"), (19, .class_ 61), (0, u "com/example/listwright/listwright/ArrayStorage$SlotCursor"), (3, .long 3), (1, .long 2), (9, .long 2147483639), (16, u "serialVersionUID"), (0, u "J"), (3, u "INITIAL_CAPACITY"), (3, u "()I"), (2, u "set"), (0, u "(ILjava/lang/Object;)Ljava/lang/Object;")] 35

def k10c0 : Code := { maxStack := 2, maxLocals := 1, code := prog_12_method_1_code, exceptionTable := #[], attributes := #[] }
def k10m0 : Method := { name := "<init>", desc := "()V", sig := { parameters := [], returnType := none }, accessFlags := 0, code := some k10c0 }
def k10c1 : Code := { maxStack := 1, maxLocals := 1, code := prog_12_method_2_code, exceptionTable := #[], attributes := #[] }
def k10m1 : Method := { name := "size", desc := "()I", sig := { parameters := [], returnType := some .int }, accessFlags := 0, code := some k10c1 }
def k10c2 : Code := { maxStack := 2, maxLocals := 2, code := prog_12_method_3_code, exceptionTable := #[], attributes := #[] }
def k10m2 : Method := { name := "get", desc := "(I)Ljava/lang/Object;", sig := { parameters := [.int], returnType := some (.object "java/lang/Object") }, accessFlags := 0, code := some k10c2 }
def k10c3 : Code := { maxStack := 3, maxLocals := 4, code := prog_12_method_4_code, exceptionTable := #[], attributes := #[] }
def k10m3 : Method := { name := "set", desc := "(ILjava/lang/Object;)Ljava/lang/Object;", sig := { parameters := [.int, (.object "java/lang/Object")], returnType := some (.object "java/lang/Object") }, accessFlags := 0, code := some k10c3 }
def k10c4 : Code := { maxStack := 6, maxLocals := 3, code := prog_12_method_6_code, exceptionTable := #[], attributes := #[] }
def k10m4 : Method := { name := "insert", desc := "(ILjava/lang/Object;)V", sig := { parameters := [.int, (.object "java/lang/Object")], returnType := none }, accessFlags := 0, code := some k10c4 }
def k10c5 : Code := { maxStack := 6, maxLocals := 5, code := prog_12_method_14_code, exceptionTable := #[], attributes := #[] }
def k10m5 : Method := { name := "makeRoomFor", desc := "(I)V", sig := { parameters := [.int], returnType := none }, accessFlags := 2, code := some k10c5 }
/-- com/example/listwright/listwright/ArrayStorage -/
def k10 : Class := { plain "com/example/listwright/listwright/ArrayStorage" (some 9) with
  accessFlags := 48
  interfaces := #[]
  cf := some (fileOf pool10 7 #[.nestMembers #[60]] #[{ accessFlags := 0, nameIndex := 5, descriptorIndex := 6, attributes := #[] }, { accessFlags := 0, nameIndex := 17, descriptorIndex := 103, attributes := #[] }, { accessFlags := 0, nameIndex := 21, descriptorIndex := 22, attributes := #[] }, { accessFlags := 0, nameIndex := 106, descriptorIndex := 107, attributes := #[] }, { accessFlags := 0, nameIndex := 29, descriptorIndex := 30, attributes := #[] }, { accessFlags := 2, nameIndex := 33, descriptorIndex := 34, attributes := #[] }] 48 2 #[] #[{ accessFlags := 26, nameIndex := 94, descriptorIndex := 95, attributes := #[] }, { accessFlags := 26, nameIndex := 99, descriptorIndex := 18, attributes := #[] }, { accessFlags := 130, nameIndex := 13, descriptorIndex := 14, attributes := #[] }, { accessFlags := 130, nameIndex := 17, descriptorIndex := 18, attributes := #[] }])
  fields := #[{ name := "serialVersionUID", type := .long, accessFlags := 26, slot := 0, constantValue := 0 }, { name := "INITIAL_CAPACITY", type := .int, accessFlags := 26, slot := 1, constantValue := 0 }, { name := "elements", type := (.array (.object "java/lang/Object")), accessFlags := 130, slot := 0, constantValue := 0 }, { name := "size", type := .int, accessFlags := 130, slot := 1, constantValue := 0 }]
  methods := #[k10m0, k10m1, k10m2, k10m3, k10m4, k10m5]
  instanceTypes := #[(.array (.object "java/lang/Object")), .int]
  staticTypes := #[.long, .int]
  resolved := Array.replicate 143 none
  statics := none }

def pool11 : Array CpInfo := pool [(2, .class_ 4), (1, u "java/lang/Object"), (0, u "<init>"), (0, u "()V"), (1, .class_ 10), (1, u "java/lang/System"), (0, u "allowSecurityManager"), (0, u "I"), (16, u "cons"), (0, u "Ljava/io/Console;"), (77, .class_ 110), (1, u "java/lang/System$CallersHolder"), (43, u "initialErrStream"), (0, u "Ljava/io/PrintStream;"), (19, u "security"), (0, u "Ljava/lang/SecurityManager;"), (31, .class_ 209), (0, u "java/lang/System$1"), (7, u "props"), (0, u "Ljava/util/Properties;"), (2, u "lineSeparator"), (0, u "Ljava/lang/String;"), (96, .class_ 321), (1, u "java/lang/System$LoggerFinder"), (5, .class_ 328), (0, u "java/lang/System$Logger"), (67, u "err"), (2, u "out"), (91, u "notSupportedJnuEncoding"), (15, u "in"), (17, u "initialIn"), (0, u "Ljava/io/InputStream;"), (35, u "bootLayer"), (0, u "Ljava/lang/ModuleLayer;"), (99, .class_ 664), (0, u "java/lang/System$2"), (9, u "NEVER"), (2, u "MAYBE"), (49, u "arraycopy"), (0, u "(Ljava/lang/Object;ILjava/lang/Object;II)V"), (72, .class_ 802), (0, u "java/lang/System$Logger$Level")] 31

def k11m0 : Method := { name := "<init>", desc := "()V", sig := { parameters := [], returnType := none }, accessFlags := 2, code := none }
def k11m1 : Method := { name := "arraycopy", desc := "(Ljava/lang/Object;ILjava/lang/Object;II)V", sig := { parameters := [(.object "java/lang/Object"), .int, (.object "java/lang/Object"), .int, .int], returnType := none }, accessFlags := 265, code := none }
/-- java/lang/System -/
def k11 : Class := { plain "java/lang/System" (some 0) with
  accessFlags := 49
  interfaces := #[]
  cf := some (fileOf pool11 8 #[.nestMembers #[319, 327, 801, 108, 663, 208]] #[{ accessFlags := 2, nameIndex := 5, descriptorIndex := 6, attributes := #[] }, { accessFlags := 265, nameIndex := 727, descriptorIndex := 728, attributes := #[] }] 49 2 #[] #[{ accessFlags := 25, nameIndex := 507, descriptorIndex := 526, attributes := #[] }, { accessFlags := 25, nameIndex := 399, descriptorIndex := 155, attributes := #[] }, { accessFlags := 25, nameIndex := 396, descriptorIndex := 155, attributes := #[] }, { accessFlags := 10, nameIndex := 525, descriptorIndex := 526, attributes := #[] }, { accessFlags := 26, nameIndex := 674, descriptorIndex := 12, attributes := #[] }, { accessFlags := 26, nameIndex := 677, descriptorIndex := 12, attributes := #[] }, { accessFlags := 10, nameIndex := 11, descriptorIndex := 12, attributes := #[] }, { accessFlags := 74, nameIndex := 175, descriptorIndex := 176, attributes := #[] }, { accessFlags := 10, nameIndex := 491, descriptorIndex := 222, attributes := #[] }, { accessFlags := 74, nameIndex := 29, descriptorIndex := 30, attributes := #[] }, { accessFlags := 74, nameIndex := 154, descriptorIndex := 155, attributes := #[] }, { accessFlags := 10, nameIndex := 217, descriptorIndex := 218, attributes := #[] }, { accessFlags := 10, nameIndex := 221, descriptorIndex := 222, attributes := #[] }, { accessFlags := 8, nameIndex := 562, descriptorIndex := 563, attributes := #[] }])
  fields := #[{ name := "in", type := (.object "java/io/InputStream"), accessFlags := 25, slot := 0, constantValue := 0 }, { name := "out", type := (.object "java/io/PrintStream"), accessFlags := 25, slot := 1, constantValue := 0 }, { name := "err", type := (.object "java/io/PrintStream"), accessFlags := 25, slot := 2, constantValue := 0 }, { name := "initialIn", type := (.object "java/io/InputStream"), accessFlags := 10, slot := 3, constantValue := 0 }, { name := "NEVER", type := .int, accessFlags := 26, slot := 4, constantValue := 0 }, { name := "MAYBE", type := .int, accessFlags := 26, slot := 5, constantValue := 0 }, { name := "allowSecurityManager", type := .int, accessFlags := 10, slot := 6, constantValue := 0 }, { name := "security", type := (.object "java/lang/SecurityManager"), accessFlags := 74, slot := 7, constantValue := 0 }, { name := "notSupportedJnuEncoding", type := (.object "java/lang/String"), accessFlags := 10, slot := 8, constantValue := 0 }, { name := "cons", type := (.object "java/io/Console"), accessFlags := 74, slot := 9, constantValue := 0 }, { name := "initialErrStream", type := (.object "java/io/PrintStream"), accessFlags := 74, slot := 10, constantValue := 0 }, { name := "props", type := (.object "java/util/Properties"), accessFlags := 10, slot := 11, constantValue := 0 }, { name := "lineSeparator", type := (.object "java/lang/String"), accessFlags := 10, slot := 12, constantValue := 0 }, { name := "bootLayer", type := (.object "java/lang/ModuleLayer"), accessFlags := 8, slot := 13, constantValue := 0 }]
  methods := #[k11m0, k11m1]
  instanceTypes := #[]
  staticTypes := #[(.object "java/io/InputStream"), (.object "java/io/PrintStream"), (.object "java/io/PrintStream"), (.object "java/io/InputStream"), .int, .int, .int, (.object "java/lang/SecurityManager"), (.object "java/lang/String"), (.object "java/io/Console"), (.object "java/io/PrintStream"), (.object "java/util/Properties"), (.object "java/lang/String"), (.object "java/lang/ModuleLayer")]
  resolved := Array.replicate 834 none
  statics := none }

def pool12 : Array CpInfo := pool [(1, u "java/lang/Cloneable"), (0, .class_ 1), (0, u "java/lang/Object"), (0, .class_ 3)] 3

/-- java/lang/Cloneable -/
def k12 : Class := { plain "java/lang/Cloneable" (some 0) with
  accessFlags := 1537
  interfaces := #[]
  cf := some (fileOf pool12 2 #[] #[] 1537 4 #[] #[])
  fields := #[]
  methods := #[]
  instanceTypes := #[]
  staticTypes := #[]
  resolved := Array.replicate 8 none
  statics := none }

/-- the primitive byte -/
def k13 : Class := { plain "byte" none with kind := .primitive 'B', accessFlags := 0x411 }
/-- [B -/
def k14 : Class := { plain "[B" (some 0) with kind := .array 13 .byte, interfaces := #[12, 2], accessFlags := 1041 }

/-- the primitive int -/
def k15 : Class := { plain "int" none with kind := .primitive 'I', accessFlags := 0x411 }
/-- [I -/
def k16 : Class := { plain "[I" (some 0) with kind := .array 15 .int, interfaces := #[12, 2], accessFlags := 1041 }

/-- [Ljava/lang/Integer; -/
def k17 : Class := { plain "[Ljava/lang/Integer;" (some 0) with kind := .array 7 (.object "java/lang/Integer"), interfaces := #[12, 2], accessFlags := 1041 }

/-- [Ljava/lang/Object; -/
def k18 : Class := { plain "[Ljava/lang/Object;" (some 0) with kind := .array 0 (.object "java/lang/Object"), interfaces := #[12, 2], accessFlags := 1041 }

def heap : Heap := #[{ cls := 8, slots := #[.int 0, .int 127, .ref 1, .null, .int 0], vm := .statics 8 },
  { cls := 17, slots := #[.ref 2, .ref 3, .ref 4, .ref 5, .ref 6, .ref 7, .ref 8, .ref 9, .ref 10, .ref 11, .ref 12, .ref 13, .ref 14, .ref 15, .ref 16, .ref 17, .ref 18, .ref 19, .ref 20, .ref 21, .ref 22, .ref 23, .ref 24, .ref 25, .ref 26, .ref 27, .ref 28, .ref 29, .ref 30, .ref 31, .ref 32, .ref 33, .ref 34, .ref 35, .ref 36, .ref 37, .ref 38, .ref 39, .ref 40, .ref 41, .ref 42, .ref 43, .ref 44, .ref 45, .ref 46, .ref 47, .ref 48, .ref 49, .ref 50, .ref 51, .ref 52, .ref 53, .ref 54, .ref 55, .ref 56, .ref 57, .ref 58, .ref 59, .ref 60, .ref 61, .ref 62, .ref 63, .ref 64, .ref 65, .ref 66, .ref 67, .ref 68, .ref 69, .ref 70, .ref 71, .ref 72, .ref 73, .ref 74, .ref 75, .ref 76, .ref 77, .ref 78, .ref 79, .ref 80, .ref 81, .ref 82, .ref 83, .ref 84, .ref 85, .ref 86, .ref 87, .ref 88, .ref 89, .ref 90, .ref 91, .ref 92, .ref 93, .ref 94, .ref 95, .ref 96, .ref 97, .ref 98, .ref 99, .ref 100, .ref 101, .ref 102, .ref 103, .ref 104, .ref 105, .ref 106, .ref 107, .ref 108, .ref 109, .ref 110, .ref 111, .ref 112, .ref 113, .ref 114, .ref 115, .ref 116, .ref 117, .ref 118, .ref 119, .ref 120, .ref 121, .ref 122, .ref 123, .ref 124, .ref 125, .ref 126, .ref 127, .ref 128, .ref 129, .ref 130, .ref 131, .ref 132, .ref 133, .ref 134, .ref 135, .ref 136, .ref 137, .ref 138, .ref 139, .ref 140, .ref 141, .ref 142, .ref 143, .ref 144, .ref 145, .ref 146, .ref 147, .ref 148, .ref 149, .ref 150, .ref 151, .ref 152, .ref 153, .ref 154, .ref 155, .ref 156, .ref 157, .ref 158, .ref 159, .ref 160, .ref 161, .ref 162, .ref 163, .ref 164, .ref 165, .ref 166, .ref 167, .ref 168, .ref 169, .ref 170, .ref 171, .ref 172, .ref 173, .ref 174, .ref 175, .ref 176, .ref 177, .ref 178, .ref 179, .ref 180, .ref 181, .ref 182, .ref 183, .ref 184, .ref 185, .ref 186, .ref 187, .ref 188, .ref 189, .ref 190, .ref 191, .ref 192, .ref 193, .ref 194, .ref 195, .ref 196, .ref 197, .ref 198, .ref 199, .ref 200, .ref 201, .ref 202, .ref 203, .ref 204, .ref 205, .ref 206, .ref 207, .ref 208, .ref 209, .ref 210, .ref 211, .ref 212, .ref 213, .ref 214, .ref 215, .ref 216, .ref 217, .ref 218, .ref 219, .ref 220, .ref 221, .ref 222, .ref 223, .ref 224, .ref 225, .ref 226, .ref 227, .ref 228, .ref 229, .ref 230, .ref 231, .ref 232, .ref 233, .ref 234, .ref 235, .ref 236, .ref 237, .ref 238, .ref 239, .ref 240, .ref 241, .ref 242, .ref 243, .ref 244, .ref 245, .ref 246, .ref 247, .ref 248, .ref 249, .ref 250, .ref 251, .ref 252, .ref 253, .ref 254, .ref 255, .ref 256, .ref 257], vm := .none },
  { cls := 7, slots := #[.int (-128)], vm := .none },
  { cls := 7, slots := #[.int (-127)], vm := .none },
  { cls := 7, slots := #[.int (-126)], vm := .none },
  { cls := 7, slots := #[.int (-125)], vm := .none },
  { cls := 7, slots := #[.int (-124)], vm := .none },
  { cls := 7, slots := #[.int (-123)], vm := .none },
  { cls := 7, slots := #[.int (-122)], vm := .none },
  { cls := 7, slots := #[.int (-121)], vm := .none },
  { cls := 7, slots := #[.int (-120)], vm := .none },
  { cls := 7, slots := #[.int (-119)], vm := .none },
  { cls := 7, slots := #[.int (-118)], vm := .none },
  { cls := 7, slots := #[.int (-117)], vm := .none },
  { cls := 7, slots := #[.int (-116)], vm := .none },
  { cls := 7, slots := #[.int (-115)], vm := .none },
  { cls := 7, slots := #[.int (-114)], vm := .none },
  { cls := 7, slots := #[.int (-113)], vm := .none },
  { cls := 7, slots := #[.int (-112)], vm := .none },
  { cls := 7, slots := #[.int (-111)], vm := .none },
  { cls := 7, slots := #[.int (-110)], vm := .none },
  { cls := 7, slots := #[.int (-109)], vm := .none },
  { cls := 7, slots := #[.int (-108)], vm := .none },
  { cls := 7, slots := #[.int (-107)], vm := .none },
  { cls := 7, slots := #[.int (-106)], vm := .none },
  { cls := 7, slots := #[.int (-105)], vm := .none },
  { cls := 7, slots := #[.int (-104)], vm := .none },
  { cls := 7, slots := #[.int (-103)], vm := .none },
  { cls := 7, slots := #[.int (-102)], vm := .none },
  { cls := 7, slots := #[.int (-101)], vm := .none },
  { cls := 7, slots := #[.int (-100)], vm := .none },
  { cls := 7, slots := #[.int (-99)], vm := .none },
  { cls := 7, slots := #[.int (-98)], vm := .none },
  { cls := 7, slots := #[.int (-97)], vm := .none },
  { cls := 7, slots := #[.int (-96)], vm := .none },
  { cls := 7, slots := #[.int (-95)], vm := .none },
  { cls := 7, slots := #[.int (-94)], vm := .none },
  { cls := 7, slots := #[.int (-93)], vm := .none },
  { cls := 7, slots := #[.int (-92)], vm := .none },
  { cls := 7, slots := #[.int (-91)], vm := .none },
  { cls := 7, slots := #[.int (-90)], vm := .none },
  { cls := 7, slots := #[.int (-89)], vm := .none },
  { cls := 7, slots := #[.int (-88)], vm := .none },
  { cls := 7, slots := #[.int (-87)], vm := .none },
  { cls := 7, slots := #[.int (-86)], vm := .none },
  { cls := 7, slots := #[.int (-85)], vm := .none },
  { cls := 7, slots := #[.int (-84)], vm := .none },
  { cls := 7, slots := #[.int (-83)], vm := .none },
  { cls := 7, slots := #[.int (-82)], vm := .none },
  { cls := 7, slots := #[.int (-81)], vm := .none },
  { cls := 7, slots := #[.int (-80)], vm := .none },
  { cls := 7, slots := #[.int (-79)], vm := .none },
  { cls := 7, slots := #[.int (-78)], vm := .none },
  { cls := 7, slots := #[.int (-77)], vm := .none },
  { cls := 7, slots := #[.int (-76)], vm := .none },
  { cls := 7, slots := #[.int (-75)], vm := .none },
  { cls := 7, slots := #[.int (-74)], vm := .none },
  { cls := 7, slots := #[.int (-73)], vm := .none },
  { cls := 7, slots := #[.int (-72)], vm := .none },
  { cls := 7, slots := #[.int (-71)], vm := .none },
  { cls := 7, slots := #[.int (-70)], vm := .none },
  { cls := 7, slots := #[.int (-69)], vm := .none },
  { cls := 7, slots := #[.int (-68)], vm := .none },
  { cls := 7, slots := #[.int (-67)], vm := .none },
  { cls := 7, slots := #[.int (-66)], vm := .none },
  { cls := 7, slots := #[.int (-65)], vm := .none },
  { cls := 7, slots := #[.int (-64)], vm := .none },
  { cls := 7, slots := #[.int (-63)], vm := .none },
  { cls := 7, slots := #[.int (-62)], vm := .none },
  { cls := 7, slots := #[.int (-61)], vm := .none },
  { cls := 7, slots := #[.int (-60)], vm := .none },
  { cls := 7, slots := #[.int (-59)], vm := .none },
  { cls := 7, slots := #[.int (-58)], vm := .none },
  { cls := 7, slots := #[.int (-57)], vm := .none },
  { cls := 7, slots := #[.int (-56)], vm := .none },
  { cls := 7, slots := #[.int (-55)], vm := .none },
  { cls := 7, slots := #[.int (-54)], vm := .none },
  { cls := 7, slots := #[.int (-53)], vm := .none },
  { cls := 7, slots := #[.int (-52)], vm := .none },
  { cls := 7, slots := #[.int (-51)], vm := .none },
  { cls := 7, slots := #[.int (-50)], vm := .none },
  { cls := 7, slots := #[.int (-49)], vm := .none },
  { cls := 7, slots := #[.int (-48)], vm := .none },
  { cls := 7, slots := #[.int (-47)], vm := .none },
  { cls := 7, slots := #[.int (-46)], vm := .none },
  { cls := 7, slots := #[.int (-45)], vm := .none },
  { cls := 7, slots := #[.int (-44)], vm := .none },
  { cls := 7, slots := #[.int (-43)], vm := .none },
  { cls := 7, slots := #[.int (-42)], vm := .none },
  { cls := 7, slots := #[.int (-41)], vm := .none },
  { cls := 7, slots := #[.int (-40)], vm := .none },
  { cls := 7, slots := #[.int (-39)], vm := .none },
  { cls := 7, slots := #[.int (-38)], vm := .none },
  { cls := 7, slots := #[.int (-37)], vm := .none },
  { cls := 7, slots := #[.int (-36)], vm := .none },
  { cls := 7, slots := #[.int (-35)], vm := .none },
  { cls := 7, slots := #[.int (-34)], vm := .none },
  { cls := 7, slots := #[.int (-33)], vm := .none },
  { cls := 7, slots := #[.int (-32)], vm := .none },
  { cls := 7, slots := #[.int (-31)], vm := .none },
  { cls := 7, slots := #[.int (-30)], vm := .none },
  { cls := 7, slots := #[.int (-29)], vm := .none },
  { cls := 7, slots := #[.int (-28)], vm := .none },
  { cls := 7, slots := #[.int (-27)], vm := .none },
  { cls := 7, slots := #[.int (-26)], vm := .none },
  { cls := 7, slots := #[.int (-25)], vm := .none },
  { cls := 7, slots := #[.int (-24)], vm := .none },
  { cls := 7, slots := #[.int (-23)], vm := .none },
  { cls := 7, slots := #[.int (-22)], vm := .none },
  { cls := 7, slots := #[.int (-21)], vm := .none },
  { cls := 7, slots := #[.int (-20)], vm := .none },
  { cls := 7, slots := #[.int (-19)], vm := .none },
  { cls := 7, slots := #[.int (-18)], vm := .none },
  { cls := 7, slots := #[.int (-17)], vm := .none },
  { cls := 7, slots := #[.int (-16)], vm := .none },
  { cls := 7, slots := #[.int (-15)], vm := .none },
  { cls := 7, slots := #[.int (-14)], vm := .none },
  { cls := 7, slots := #[.int (-13)], vm := .none },
  { cls := 7, slots := #[.int (-12)], vm := .none },
  { cls := 7, slots := #[.int (-11)], vm := .none },
  { cls := 7, slots := #[.int (-10)], vm := .none },
  { cls := 7, slots := #[.int (-9)], vm := .none },
  { cls := 7, slots := #[.int (-8)], vm := .none },
  { cls := 7, slots := #[.int (-7)], vm := .none },
  { cls := 7, slots := #[.int (-6)], vm := .none },
  { cls := 7, slots := #[.int (-5)], vm := .none },
  { cls := 7, slots := #[.int (-4)], vm := .none },
  { cls := 7, slots := #[.int (-3)], vm := .none },
  { cls := 7, slots := #[.int (-2)], vm := .none },
  { cls := 7, slots := #[.int (-1)], vm := .none },
  { cls := 7, slots := #[.int (0)], vm := .none },
  { cls := 7, slots := #[.int (1)], vm := .none },
  { cls := 7, slots := #[.int (2)], vm := .none },
  { cls := 7, slots := #[.int (3)], vm := .none },
  { cls := 7, slots := #[.int (4)], vm := .none },
  { cls := 7, slots := #[.int (5)], vm := .none },
  { cls := 7, slots := #[.int (6)], vm := .none },
  { cls := 7, slots := #[.int (7)], vm := .none },
  { cls := 7, slots := #[.int (8)], vm := .none },
  { cls := 7, slots := #[.int (9)], vm := .none },
  { cls := 7, slots := #[.int (10)], vm := .none },
  { cls := 7, slots := #[.int (11)], vm := .none },
  { cls := 7, slots := #[.int (12)], vm := .none },
  { cls := 7, slots := #[.int (13)], vm := .none },
  { cls := 7, slots := #[.int (14)], vm := .none },
  { cls := 7, slots := #[.int (15)], vm := .none },
  { cls := 7, slots := #[.int (16)], vm := .none },
  { cls := 7, slots := #[.int (17)], vm := .none },
  { cls := 7, slots := #[.int (18)], vm := .none },
  { cls := 7, slots := #[.int (19)], vm := .none },
  { cls := 7, slots := #[.int (20)], vm := .none },
  { cls := 7, slots := #[.int (21)], vm := .none },
  { cls := 7, slots := #[.int (22)], vm := .none },
  { cls := 7, slots := #[.int (23)], vm := .none },
  { cls := 7, slots := #[.int (24)], vm := .none },
  { cls := 7, slots := #[.int (25)], vm := .none },
  { cls := 7, slots := #[.int (26)], vm := .none },
  { cls := 7, slots := #[.int (27)], vm := .none },
  { cls := 7, slots := #[.int (28)], vm := .none },
  { cls := 7, slots := #[.int (29)], vm := .none },
  { cls := 7, slots := #[.int (30)], vm := .none },
  { cls := 7, slots := #[.int (31)], vm := .none },
  { cls := 7, slots := #[.int (32)], vm := .none },
  { cls := 7, slots := #[.int (33)], vm := .none },
  { cls := 7, slots := #[.int (34)], vm := .none },
  { cls := 7, slots := #[.int (35)], vm := .none },
  { cls := 7, slots := #[.int (36)], vm := .none },
  { cls := 7, slots := #[.int (37)], vm := .none },
  { cls := 7, slots := #[.int (38)], vm := .none },
  { cls := 7, slots := #[.int (39)], vm := .none },
  { cls := 7, slots := #[.int (40)], vm := .none },
  { cls := 7, slots := #[.int (41)], vm := .none },
  { cls := 7, slots := #[.int (42)], vm := .none },
  { cls := 7, slots := #[.int (43)], vm := .none },
  { cls := 7, slots := #[.int (44)], vm := .none },
  { cls := 7, slots := #[.int (45)], vm := .none },
  { cls := 7, slots := #[.int (46)], vm := .none },
  { cls := 7, slots := #[.int (47)], vm := .none },
  { cls := 7, slots := #[.int (48)], vm := .none },
  { cls := 7, slots := #[.int (49)], vm := .none },
  { cls := 7, slots := #[.int (50)], vm := .none },
  { cls := 7, slots := #[.int (51)], vm := .none },
  { cls := 7, slots := #[.int (52)], vm := .none },
  { cls := 7, slots := #[.int (53)], vm := .none },
  { cls := 7, slots := #[.int (54)], vm := .none },
  { cls := 7, slots := #[.int (55)], vm := .none },
  { cls := 7, slots := #[.int (56)], vm := .none },
  { cls := 7, slots := #[.int (57)], vm := .none },
  { cls := 7, slots := #[.int (58)], vm := .none },
  { cls := 7, slots := #[.int (59)], vm := .none },
  { cls := 7, slots := #[.int (60)], vm := .none },
  { cls := 7, slots := #[.int (61)], vm := .none },
  { cls := 7, slots := #[.int (62)], vm := .none },
  { cls := 7, slots := #[.int (63)], vm := .none },
  { cls := 7, slots := #[.int (64)], vm := .none },
  { cls := 7, slots := #[.int (65)], vm := .none },
  { cls := 7, slots := #[.int (66)], vm := .none },
  { cls := 7, slots := #[.int (67)], vm := .none },
  { cls := 7, slots := #[.int (68)], vm := .none },
  { cls := 7, slots := #[.int (69)], vm := .none },
  { cls := 7, slots := #[.int (70)], vm := .none },
  { cls := 7, slots := #[.int (71)], vm := .none },
  { cls := 7, slots := #[.int (72)], vm := .none },
  { cls := 7, slots := #[.int (73)], vm := .none },
  { cls := 7, slots := #[.int (74)], vm := .none },
  { cls := 7, slots := #[.int (75)], vm := .none },
  { cls := 7, slots := #[.int (76)], vm := .none },
  { cls := 7, slots := #[.int (77)], vm := .none },
  { cls := 7, slots := #[.int (78)], vm := .none },
  { cls := 7, slots := #[.int (79)], vm := .none },
  { cls := 7, slots := #[.int (80)], vm := .none },
  { cls := 7, slots := #[.int (81)], vm := .none },
  { cls := 7, slots := #[.int (82)], vm := .none },
  { cls := 7, slots := #[.int (83)], vm := .none },
  { cls := 7, slots := #[.int (84)], vm := .none },
  { cls := 7, slots := #[.int (85)], vm := .none },
  { cls := 7, slots := #[.int (86)], vm := .none },
  { cls := 7, slots := #[.int (87)], vm := .none },
  { cls := 7, slots := #[.int (88)], vm := .none },
  { cls := 7, slots := #[.int (89)], vm := .none },
  { cls := 7, slots := #[.int (90)], vm := .none },
  { cls := 7, slots := #[.int (91)], vm := .none },
  { cls := 7, slots := #[.int (92)], vm := .none },
  { cls := 7, slots := #[.int (93)], vm := .none },
  { cls := 7, slots := #[.int (94)], vm := .none },
  { cls := 7, slots := #[.int (95)], vm := .none },
  { cls := 7, slots := #[.int (96)], vm := .none },
  { cls := 7, slots := #[.int (97)], vm := .none },
  { cls := 7, slots := #[.int (98)], vm := .none },
  { cls := 7, slots := #[.int (99)], vm := .none },
  { cls := 7, slots := #[.int (100)], vm := .none },
  { cls := 7, slots := #[.int (101)], vm := .none },
  { cls := 7, slots := #[.int (102)], vm := .none },
  { cls := 7, slots := #[.int (103)], vm := .none },
  { cls := 7, slots := #[.int (104)], vm := .none },
  { cls := 7, slots := #[.int (105)], vm := .none },
  { cls := 7, slots := #[.int (106)], vm := .none },
  { cls := 7, slots := #[.int (107)], vm := .none },
  { cls := 7, slots := #[.int (108)], vm := .none },
  { cls := 7, slots := #[.int (109)], vm := .none },
  { cls := 7, slots := #[.int (110)], vm := .none },
  { cls := 7, slots := #[.int (111)], vm := .none },
  { cls := 7, slots := #[.int (112)], vm := .none },
  { cls := 7, slots := #[.int (113)], vm := .none },
  { cls := 7, slots := #[.int (114)], vm := .none },
  { cls := 7, slots := #[.int (115)], vm := .none },
  { cls := 7, slots := #[.int (116)], vm := .none },
  { cls := 7, slots := #[.int (117)], vm := .none },
  { cls := 7, slots := #[.int (118)], vm := .none },
  { cls := 7, slots := #[.int (119)], vm := .none },
  { cls := 7, slots := #[.int (120)], vm := .none },
  { cls := 7, slots := #[.int (121)], vm := .none },
  { cls := 7, slots := #[.int (122)], vm := .none },
  { cls := 7, slots := #[.int (123)], vm := .none },
  { cls := 7, slots := #[.int (124)], vm := .none },
  { cls := 7, slots := #[.int (125)], vm := .none },
  { cls := 7, slots := #[.int (126)], vm := .none },
  { cls := 7, slots := #[.int (127)], vm := .none }]
def classes : Array Class := #[k0, k1, k2, k3, k4, k5, k6, k7, k8, k9, k10, k11, k12, k13, k14, k15, k16, k17, k18]
def interned : List (Array UInt16 × Addr) := []
def slotsUsed : Nat := 517
def theMethod : MethodId := ⟨1, 2⟩
def args0 : Array Value := #[.int 5, .int 7, .int 7, .int 5, .int 7, .int 7]
def aboutOver (below : List Frame) : State where
  vm := { classes := classes, interned := interned.toArray }
  heap := heap
  slotsUsed := slotsUsed
  threads := #[{ frames := .invoking theMethod args0 :: below }]
def below0 : List Frame := [.native { method := ⟨0, 0⟩, args := #[] }]
def about1 : State := aboutOver below0
def p0 : Program := .bare "" "" ""
def e0 : Env := launch0.env 0 0 0
theorem w_frames : about1.frames = Frame.invoking theMethod args0 :: below0 := rfl
set_option maxRecDepth 65536 in
theorem w_args : argsFit about1.vm theMethod args0 = true := by decide +kernel
set_option maxRecDepth 65536 in
theorem w_heap : heapFits about1 = true := by decide +kernel
set_option maxRecDepth 65536 in
theorem w_runnable : about1.curStatus? = some .runnable := by decide +kernel
set_option maxRecDepth 65536 in
theorem w_alone : about1.alone = true := by decide +kernel
set_option maxRecDepth 65536 in
theorem w_named : about1.methodNamed? x = some theMethod := by decide +kernel
set_option maxRecDepth 65536 in
theorem w_hears : about1.hears theMethod below0 = true := by decide +kernel
set_option maxRecDepth 65536 in
theorem w_ripe : about1.ripe theMethod args0 below0 = true := by decide +kernel
theorem w_running : about1.status = .running := rfl
set_option maxRecDepth 65536 in
theorem w_room : about1.hasRoom e0.platform room_1 = true :=
  launch0.hasRoom_least _ room_1 (by decide +kernel) (by decide +kernel) (by decide +kernel) (by decide +kernel) (by decide +kernel) (by decide +kernel)
theorem allAtoms_all (ts : List Jvm.Cond) (a : Array Jvm.Value) (st : Jvm.State) : (allAtoms ts).before a st = ts.all (fun c => c.before a st) := by
  induction ts with
  | nil => rfl
  | cons c t ih =>
    show (Jvm.Cond.and c (allAtoms t)).before a st = _
    rw [Jvm.Cond.before_and, ih, List.all_cons]
def words1 : List Jvm.Cond := Jvm.Cond.code x code maxLocals ret :: tables_1
/-- a 'code' word, met by the world's own term for the bytes: nothing is compared byte by byte -/
theorem code_word {y : MethodName} {bytes : ByteArray} {mx : Nat} {rt : Option FieldType} {a : Array Value} {s : State} {m : MethodId} {meth : Method} {c : Code} (h1 : s.methodNamed? y = some m) (h2 : s.vm.method? m = some meth) (h3 : meth.code = some c) (h4 : c.code = bytes)
    (h5 : (c.maxLocals == mx && c.exceptionTable.isEmpty && decide (c.maxStack ≤ mostOperands) && decide (meth.sig.returnType = rt) && !meth.locks && decide (parseMethodDescriptor y.desc = some meth.sig)) = true) : (Jvm.Cond.code y bytes mx rt).before a s = true := by
  simp only [Bool.and_eq_true, beq_iff_eq, Bool.not_eq_true', decide_eq_true_eq] at h5
  obtain ⟨⟨⟨⟨⟨g1, g2⟩, g3⟩, g4⟩, g5⟩, g6⟩ := h5
  simp [Cond.before, Cond.holds, Cond.value, h1, h2, h3, h4, g1, g2, g3, g4, g5, g6]
def isCode : Jvm.Cond → Bool
  | .code _ _ _ _ => true
  | _ => false
theorem all_split {L : List Jvm.Cond} {P : Jvm.Cond → Bool} (h1 : L.all (fun c => isCode c || P c) = true) (h2 : ∀ c ∈ L.filter isCode, P c = true) : L.all P = true := by
  refine List.all_eq_true.mpr fun c hc => ?_
  have h := List.all_eq_true.mp h1 c hc
  rcases Bool.eq_false_or_eq_true (isCode c) with hi | hi
  · exact h2 c (List.mem_filter.mpr ⟨hc, hi⟩)
  · simpa [hi] using h
set_option maxRecDepth 65536 in
theorem w_c0 : (Jvm.Cond.code x code maxLocals ret).before args0 about1 = true := code_word (m := ⟨1, 2⟩) (meth := k1m2) (c := k1c2) (by decide +kernel) rfl rfl rfl (by decide +kernel)
set_option maxRecDepth 65536 in
theorem w_c1 : (Jvm.Cond.code ({ cls := "java/lang/Integer", name := "valueOf", desc := "(I)Ljava/lang/Integer;" } : Jvm.MethodName) jdk_33_method_22_code (1 : Nat) (Option.some (Jvm.ClassFile.FieldType.object "java/lang/Integer"))).before args0 about1 = true := code_word (m := ⟨7, 0⟩) (meth := k7m0) (c := k7c0) (by decide +kernel) rfl rfl rfl (by decide +kernel)
set_option maxRecDepth 65536 in
theorem w_c2 : (Jvm.Cond.code ({ cls := "com/example/listwright/listwright/ArrayStorage", name := "<init>", desc := "()V" } : Jvm.MethodName) prog_12_method_1_code (1 : Nat) (Option.none : Option Jvm.ClassFile.FieldType)).before args0 about1 = true := code_word (m := ⟨10, 0⟩) (meth := k10m0) (c := k10c0) (by decide +kernel) rfl rfl rfl (by decide +kernel)
set_option maxRecDepth 65536 in
theorem w_c3 : (Jvm.Cond.code ({ cls := "com/example/listwright/listwright/Storage", name := "<init>", desc := "()V" } : Jvm.MethodName) prog_32_method_1_code (1 : Nat) (Option.none : Option Jvm.ClassFile.FieldType)).before args0 about1 = true := code_word (m := ⟨9, 0⟩) (meth := k9m0) (c := k9c0) (by decide +kernel) rfl rfl rfl (by decide +kernel)
set_option maxRecDepth 65536 in
theorem w_c4 : (Jvm.Cond.code ({ cls := "java/lang/Object", name := "<init>", desc := "()V" } : Jvm.MethodName) object_method_1_code (1 : Nat) (Option.none : Option Jvm.ClassFile.FieldType)).before args0 about1 = true := code_word (m := ⟨0, 0⟩) (meth := k0m0) (c := k0c0) (by decide +kernel) rfl rfl rfl (by decide +kernel)
set_option maxRecDepth 65536 in
theorem w_c5 : (Jvm.Cond.code ({ cls := "com/example/listwright/listwright/ArrayStorage", name := "insert", desc := "(ILjava/lang/Object;)V" } : Jvm.MethodName) prog_12_method_6_code (3 : Nat) (Option.none : Option Jvm.ClassFile.FieldType)).before args0 about1 = true := code_word (m := ⟨10, 4⟩) (meth := k10m4) (c := k10c4) (by decide +kernel) rfl rfl rfl (by decide +kernel)
set_option maxRecDepth 65536 in
theorem w_c6 : (Jvm.Cond.code ({ cls := "com/example/listwright/listwright/ArrayStorage", name := "makeRoomFor", desc := "(I)V" } : Jvm.MethodName) prog_12_method_14_code (5 : Nat) (Option.none : Option Jvm.ClassFile.FieldType)).before args0 about1 = true := code_word (m := ⟨10, 5⟩) (meth := k10m5) (c := k10c5) (by decide +kernel) rfl rfl rfl (by decide +kernel)
set_option maxRecDepth 65536 in
theorem w_c7 : (Jvm.Cond.code ({ cls := "com/example/listwright/listwright/ArrayStorage", name := "set", desc := "(ILjava/lang/Object;)Ljava/lang/Object;" } : Jvm.MethodName) prog_12_method_4_code (4 : Nat) (Option.some (Jvm.ClassFile.FieldType.object "java/lang/Object"))).before args0 about1 = true := code_word (m := ⟨10, 3⟩) (meth := k10m3) (c := k10c3) (by decide +kernel) rfl rfl rfl (by decide +kernel)
set_option maxRecDepth 65536 in
theorem w_c8 : (Jvm.Cond.code ({ cls := "com/example/listwright/listwright/ArrayStorage", name := "get", desc := "(I)Ljava/lang/Object;" } : Jvm.MethodName) prog_12_method_3_code (2 : Nat) (Option.some (Jvm.ClassFile.FieldType.object "java/lang/Object"))).before args0 about1 = true := code_word (m := ⟨10, 2⟩) (meth := k10m2) (c := k10c2) (by decide +kernel) rfl rfl rfl (by decide +kernel)
set_option maxRecDepth 65536 in
theorem w_c9 : (Jvm.Cond.code ({ cls := "com/example/listwright/listwright/ArrayStorage", name := "size", desc := "()I" } : Jvm.MethodName) prog_12_method_2_code (1 : Nat) (Option.some Jvm.ClassFile.FieldType.int)).before args0 about1 = true := code_word (m := ⟨10, 1⟩) (meth := k10m1) (c := k10c1) (by decide +kernel) rfl rfl rfl (by decide +kernel)
set_option maxRecDepth 65536 in
theorem w_c10 : (Jvm.Cond.code ({ cls := "com/example/listwright/listwright/ArrayStorageSetPinLaw", name := "expectedAt", desc := "(IILjava/lang/Integer;Ljava/lang/Integer;Ljava/lang/Integer;Ljava/lang/Integer;)Ljava/lang/Integer;" } : Jvm.MethodName) method_2_code (6 : Nat) (Option.some (Jvm.ClassFile.FieldType.object "java/lang/Integer"))).before args0 about1 = true := code_word (m := ⟨1, 1⟩) (meth := k1m1) (c := k1c1) (by decide +kernel) rfl rfl rfl (by decide +kernel)
set_option maxRecDepth 65536 in
theorem w_c11 : (Jvm.Cond.code ({ cls := "java/lang/Integer", name := "<init>", desc := "(I)V" } : Jvm.MethodName) jdk_33_method_23_code (2 : Nat) (Option.none : Option Jvm.ClassFile.FieldType)).before args0 about1 = true := code_word (m := ⟨7, 1⟩) (meth := k7m1) (c := k7c1) (by decide +kernel) rfl rfl rfl (by decide +kernel)
set_option maxRecDepth 65536 in
theorem w_c12 : (Jvm.Cond.code ({ cls := "java/lang/Number", name := "<init>", desc := "()V" } : Jvm.MethodName) jdk_18_method_1_code (1 : Nat) (Option.none : Option Jvm.ClassFile.FieldType)).before args0 about1 = true := code_word (m := ⟨3, 0⟩) (meth := k3m0) (c := k3c0) (by decide +kernel) rfl rfl rfl (by decide +kernel)
def codes1 : List Jvm.Cond := [Jvm.Cond.code x code maxLocals ret, Jvm.Cond.code ({ cls := "java/lang/Integer", name := "valueOf", desc := "(I)Ljava/lang/Integer;" } : Jvm.MethodName) jdk_33_method_22_code (1 : Nat) (Option.some (Jvm.ClassFile.FieldType.object "java/lang/Integer")), Jvm.Cond.code ({ cls := "com/example/listwright/listwright/ArrayStorage", name := "<init>", desc := "()V" } : Jvm.MethodName) prog_12_method_1_code (1 : Nat) (Option.none : Option Jvm.ClassFile.FieldType), Jvm.Cond.code ({ cls := "com/example/listwright/listwright/Storage", name := "<init>", desc := "()V" } : Jvm.MethodName) prog_32_method_1_code (1 : Nat) (Option.none : Option Jvm.ClassFile.FieldType), Jvm.Cond.code ({ cls := "java/lang/Object", name := "<init>", desc := "()V" } : Jvm.MethodName) object_method_1_code (1 : Nat) (Option.none : Option Jvm.ClassFile.FieldType), Jvm.Cond.code ({ cls := "com/example/listwright/listwright/ArrayStorage", name := "insert", desc := "(ILjava/lang/Object;)V" } : Jvm.MethodName) prog_12_method_6_code (3 : Nat) (Option.none : Option Jvm.ClassFile.FieldType), Jvm.Cond.code ({ cls := "com/example/listwright/listwright/ArrayStorage", name := "makeRoomFor", desc := "(I)V" } : Jvm.MethodName) prog_12_method_14_code (5 : Nat) (Option.none : Option Jvm.ClassFile.FieldType), Jvm.Cond.code ({ cls := "com/example/listwright/listwright/ArrayStorage", name := "set", desc := "(ILjava/lang/Object;)Ljava/lang/Object;" } : Jvm.MethodName) prog_12_method_4_code (4 : Nat) (Option.some (Jvm.ClassFile.FieldType.object "java/lang/Object")), Jvm.Cond.code ({ cls := "com/example/listwright/listwright/ArrayStorage", name := "get", desc := "(I)Ljava/lang/Object;" } : Jvm.MethodName) prog_12_method_3_code (2 : Nat) (Option.some (Jvm.ClassFile.FieldType.object "java/lang/Object")), Jvm.Cond.code ({ cls := "com/example/listwright/listwright/ArrayStorage", name := "size", desc := "()I" } : Jvm.MethodName) prog_12_method_2_code (1 : Nat) (Option.some Jvm.ClassFile.FieldType.int), Jvm.Cond.code ({ cls := "com/example/listwright/listwright/ArrayStorageSetPinLaw", name := "expectedAt", desc := "(IILjava/lang/Integer;Ljava/lang/Integer;Ljava/lang/Integer;Ljava/lang/Integer;)Ljava/lang/Integer;" } : Jvm.MethodName) method_2_code (6 : Nat) (Option.some (Jvm.ClassFile.FieldType.object "java/lang/Integer")), Jvm.Cond.code ({ cls := "java/lang/Integer", name := "<init>", desc := "(I)V" } : Jvm.MethodName) jdk_33_method_23_code (2 : Nat) (Option.none : Option Jvm.ClassFile.FieldType), Jvm.Cond.code ({ cls := "java/lang/Number", name := "<init>", desc := "()V" } : Jvm.MethodName) jdk_18_method_1_code (1 : Nat) (Option.none : Option Jvm.ClassFile.FieldType)]
set_option maxRecDepth 65536 in
theorem codes_eq : words1.filter isCode = codes1 := rfl
theorem w_codes : ∀ c ∈ words1.filter isCode, c.before args0 about1 = true := by
  rw [codes_eq]
  intro c hc
  simp only [codes1, List.mem_cons, List.not_mem_nil, or_false] at hc
  rcases hc with rfl | rfl | rfl | rfl | rfl | rfl | rfl | rfl | rfl | rfl | rfl | rfl | rfl
  · exact w_c0
  · exact w_c1
  · exact w_c2
  · exact w_c3
  · exact w_c4
  · exact w_c5
  · exact w_c6
  · exact w_c7
  · exact w_c8
  · exact w_c9
  · exact w_c10
  · exact w_c11
  · exact w_c12
set_option maxRecDepth 65536 in
theorem w_t1 : (words1.take 24).all (fun c => isCode c || c.before args0 about1) = true := by decide +kernel
set_option maxRecDepth 65536 in
theorem w_t2 : ((words1.drop 24).take 24).all (fun c => isCode c || c.before args0 about1) = true := by decide +kernel
set_option maxRecDepth 65536 in
theorem w_t3 : (((words1.drop 24).drop 24).take 24).all (fun c => isCode c || c.before args0 about1) = true := by decide +kernel
set_option maxRecDepth 65536 in
theorem w_t4 : (((words1.drop 24).drop 24).drop 24).all (fun c => isCode c || c.before args0 about1) = true := by decide +kernel
theorem w_tables : (allAtoms (Jvm.Cond.code x code maxLocals ret :: tables_1)).before args0 about1 = true := by
  rw [allAtoms_all]
  show words1.all (fun c => c.before args0 about1) = true
  refine all_split ?_ w_codes
  rw [← List.take_append_drop 24 words1, List.all_append, w_t1, ← List.take_append_drop 24 (words1.drop 24), List.all_append, w_t2, ← List.take_append_drop 24 ((words1.drop 24).drop 24), List.all_append, w_t3, w_t4]
  rfl
set_option maxRecDepth 65536 in
theorem w_rest : rest_1_c.before args0 about1 = true := by decide +kernel
set_option maxRecDepth 65536 in
theorem w_case : (Jvm.Cond.and given_1 narrow_1).before args0 about1 = true := by decide +kernel
theorem w_applies : (headSpec (Jvm.Cond.code x code maxLocals ret :: tables_1) room_1).applies x e0.platform about1 = true :=
  (Spec.applies_iff w_frames).mpr ⟨w_running, w_runnable, w_alone, w_named, w_hears, w_ripe, w_room, w_tables⟩
theorem atStart : AtStart classFile x code maxLocals ret World_1 tables_1 room_1 Calls_1 rest_1 Pre_1 launch0 p0 e0 about1 theMethod args0 below0 :=
  ⟨lists_1, trivial, launch0.admits_env _ _ _, launch0.least_env, fairChoices_fair.cas, fairChoices_fair.clock, w_frames, w_args, w_heap, w_applies, trivial, w_rest, w_case⟩
end start1
theorem witness_1 : WitnessClaimed_1 := ⟨start1.p0, start1.e0, start1.about1, start1.theMethod, start1.args0, start1.below0, start1.atStart⟩
end Jvm.Pilot.@@N@@
