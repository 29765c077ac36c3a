import JvmDerived
import JvmDerived.Pilot.@@N@@Statement
import JvmDerived.Pilot.@@N@@Code
set_option linter.unusedVariables false
set_option linter.unusedSimpArgs false
namespace Jvm.Pilot.@@N@@
open Jvm Jvm.ClassFile Sem Op Lib Jvm.Free Jvm.Stand Jvm.LawKit Jvm.RoadKit Bundle Jvm.Pilot.@@N@@.Jvm.D
section OwnKit
variable {p : Program} {l : Launch} {e : Env} {R : Room} {s : State} {m : MethodId} {args : Array Value} {below : List Frame} {meth : Method} {c : Code} {T : State} {locs : List Loc} {cells slots : Nat} {Z : State} {a0 : Array Value} {h : Heap} {Q : Option Value → Heap → List Loc → Prop} {cl sl : Nat}
/-- from the state U the run comes back, and what it leaves is as Q says -/
def Fin1 (p : Program) (e : Env) (below : List Frame) (s : State) (Q : Option Value → Heap → List Loc → Prop) (cl sl : Nat) (U : State) : Prop :=
  ∃ s₂ o, Steps p.tables e below U s₂ ∧ s₂.status = .running ∧ Ended s₂ below o ∧ ∃ v L, o = .returned v ∧ Q v s₂.heap L ∧ FrameEnd s o s₂ L cl sl
theorem own_st {U V : State} (h : ∀ t, Steps p.tables e below V t → Steps p.tables e below U t) (k : Fin1 p e below s Q cl sl V) : Fin1 p e below s Q cl sl U := by
  obtain ⟨s₂, o, h1, r⟩ := k
  exact ⟨s₂, o, h _ h1, r⟩
/-- a contract -/
def Ct (l : Launch) (Z : State) (ws : List Jvm.Cond) (y : MethodName) (bytes : ByteArray) (maxL : Nat) (ret : Option FieldType) (rm : Room) (as' : Array Value) (h : Heap) (Q : Option Value → Heap → List Loc → Prop) : Prop :=
  MetFree l y (head1 (Jvm.Cond.code y bytes maxL ret :: ws) rm) (fun a U => a = as' ∧ Z.Warmed39 U.vm ∧ U.heap = h) (fun _ _ _ _ _ => True) (fun _ U o U' => ∃ v L, o = .returned v ∧ Q v U'.heap L ∧ FrameEnd U o U' L rm.cells rm.slots)
theorem own_enter {ws : List Jvm.Cond} {y : MethodName} {bytes : ByteArray} {maxL : Nat} {ret : Option FieldType} {rm : Room} {as' : Array Value} (hp : plainFor y = true)
    (body : ∀ (p : Program) (e : Env) (s : State) (m : MethodId) (below : List Frame) (meth : Method) (c : Code) (T : State), Stand p l e rm s m as' below meth c T [] 0 0 → p.tables.exec = Jvm.exec → c.code = bytes → c.maxLocals = maxL → Z.Warmed39 s.vm → s.vm.findClass y.cls = some m.cls → meth.name = y.name →
      meth.sig.returnType = ret → meth.locks = false → T.heap = h → Fin1 p e below s Q rm.cells rm.slots (T.setTop (entryFrame m as' maxL))) : Ct l Z ws y bytes maxL ret rm as' h Q := by
  refine MetFree.of_bodySF hp hisR ?_
  intro p e s m args below meth c s₁ Bd hml hP _
  obtain ⟨rfl, hZ, hh⟩ := hP
  exact body p e s m below meth c s₁ (Stand.of_body Bd) Bd.exec Bd.bytes hml hZ (findClass_of_methodNamed Bd.named) (name_of_methodNamed Bd.named Bd.method).1 Bd.returns (BodyLoose.notSynchronized Bd) (by rw [← hh, Bd.state]; rfl)
/-- a stronger promise pays a weaker one -/
theorem Ct.mono {ws : List Jvm.Cond} {y : MethodName} {bytes : ByteArray} {maxL : Nat} {ret : Option FieldType} {rm : Room} {as' : Array Value} {Q' : Option Value → Heap → List Loc → Prop} (hC : Ct l Z ws y bytes maxL ret rm as' h Q) (hQ : ∀ v h' L, Q v h' L → Q' v h' L) : Ct l Z ws y bytes maxL ret rm as' h Q' := by
  intro p e ha hc hk s m args below hf happ hP hK
  obtain ⟨n, o, h1, h2, h3, v, L, h4, h5, h6⟩ := hC p e ha hc hk s m args below hf happ hP hK
  exact ⟨n, o, h1, h2, h3, v, L, h4, hQ _ _ _ h5, h6⟩
theorem own_leave (X : Stand p l e R s m args below meth c T locs cells slots) (hlk : meth.locks = false) {v : Option Value} (hv : meth.sig.returnType = none → v = none) {U : State}
    (hst : ∀ fs, (∀ (f : JFrame) (acts : List Action), f.method = m → f.locked = none → f.entered = [] → (doReturn e (T.setTop f) acts v).1 = T.setFrames fs) → Steps p.tables e below U (T.setFrames fs))
    (hQ : Q v T.heap locs) (hc : cells ≤ cl) (hs : slots ≤ sl) : Fin1 p e below s Q cl sl U := by
  obtain ⟨fs, hr, hrun, hended, hW, hsame⟩ := X.leave (v := v) hv hlk
  exact ⟨_, _, hst fs hr, hrun, hended, v, locs, rfl, hQ, ⟨_, rfl⟩, hW, hsame.mono hc hs⟩
theorem own_retV (X : Stand p l e R s m args below meth c T locs cells slots) (hx : p.tables.exec = Jvm.exec) (hlk : meth.locks = false) {pc : Nat} {Ls : Array Slot} (hret : meth.sig.returnType = none) (hd : decode c.code pc = .ok (.return_, 1))
    (hQ : Q none T.heap locs) (hc : cells ≤ cl) (hs : slots ≤ sl) : Fin1 p e below s Q cl sl (T.setTop (mkF m pc Ls [])) :=
  own_leave X hlk (fun _ => rfl) (fun fs hr => X.returnOut hx hret hd hr) hQ hc hs
theorem own_retI (X : Stand p l e R s m args below meth c T locs cells slots) (hx : p.tables.exec = Jvm.exec) (hlk : meth.locks = false) {pc : Nat} {Ls : Array Slot} {z : Int32} {rest : List Value} (hret : meth.sig.returnType = some .int) (hd : decode c.code pc = .ok (.ireturn, 1))
    (hQ : Q (some (.int z)) T.heap locs) (hc : cells ≤ cl) (hs : slots ≤ sl) : Fin1 p e below s Q cl sl (T.setTop (mkF m pc Ls (.int z :: rest))) :=
  own_leave X hlk (fun h => by rw [hret] at h; cases h) (fun fs hr => retOut X hx hret rfl (Or.inl ⟨rfl, Or.inl rfl, _, rfl⟩) hd hr) hQ hc hs
theorem own_retZ (X : Stand p l e R s m args below meth c T locs cells slots) (hx : p.tables.exec = Jvm.exec) (hlk : meth.locks = false) {pc : Nat} {Ls : Array Slot} {rest : List Value} (hret : meth.sig.returnType = some .boolean) (hd : decode c.code pc = .ok (.ireturn, 1)) {z : Int32} (hz : z = 0 ∨ z = 1)
    (hQ : Q (some (.int z)) T.heap locs) (hc : cells ≤ cl) (hs : slots ≤ sl) : Fin1 p e below s Q cl sl (T.setTop (mkF m pc Ls (.int z :: rest))) :=
  own_leave X hlk (fun h => by rw [hret] at h; cases h) (fun fs hr => retOut X hx hret (by rcases hz with rfl | rfl <;> rfl) (Or.inl ⟨rfl, Or.inr (Or.inl rfl), _, rfl⟩) hd hr) hQ hc hs
theorem own_retJ (X : Stand p l e R s m args below meth c T locs cells slots) (hx : p.tables.exec = Jvm.exec) (hlk : meth.locks = false) {pc : Nat} {Ls : Array Slot} {z : Int64} {rest : List Value} (hret : meth.sig.returnType = some .long) (hd : decode c.code pc = .ok (.lreturn, 1))
    (hQ : Q (some (.long z)) T.heap locs) (hc : cells ≤ cl) (hs : slots ≤ sl) : Fin1 p e below s Q cl sl (T.setTop (mkF m pc Ls (.long z :: rest))) :=
  own_leave X hlk (fun h => by rw [hret] at h; cases h) (fun fs hr => retOut X hx hret rfl (Or.inr (Or.inl ⟨rfl, rfl, _, rfl⟩)) hd hr) hQ hc hs
theorem own_retA (X : Stand p l e R s m args below meth c T locs cells slots) (hx : p.tables.exec = Jvm.exec) (hlk : meth.locks = false) {pc : Nat} {Ls : Array Slot} {z : Value} {rest : List Value} {t : FieldType} (hret : meth.sig.returnType = some t) (ht : t.isReference = true) (hz : z.isRef = true) (hd : decode c.code pc = .ok (.areturn, 1))
    (hQ : Q (some z) T.heap locs) (hc : cells ≤ cl) (hs : slots ≤ sl) : Fin1 p e below s Q cl sl (T.setTop (mkF m pc Ls (z :: rest))) :=
  own_leave X hlk (fun h => by rw [hret] at h; cases h) (fun fs hr => retOut X hx hret (by cases t <;> first | (cases ht; done) | (cases z <;> first | (cases hz; done) | rfl)) (Or.inr (Or.inr (Or.inr (Or.inr ⟨rfl, ht, hz⟩)))) hd hr) hQ hc hs
variable {own : String} {index : Nat} {y z : MethodName} {bytes : ByteArray} {maxL : Nat} {ret : Option FieldType} {rm : Room} {argsL rest : List Value} {a : Addr}
theorem own_static (X : Stand p l e R s m args below meth c T locs cells slots) (hx : p.tables.exec = Jvm.exec) (hZ : Z.Warmed39 s.vm) (hown : s.vm.findClass own = some m.cls) (w1 : (Jvm.Cond.methodLink own index y).before a0 Z = true) (w2 : (Jvm.Cond.static y).before a0 Z = true) (w3 : (Jvm.Cond.initialized y.cls).before a0 Z = true)
    (w4 : (Jvm.Cond.code y bytes maxL ret).before a0 Z = true) (hy : y.cls ≠ "java/lang/invoke/MethodHandle" ∧ y.cls ≠ "java/lang/invoke/VarHandle") (hC : Ct l Z [] y bytes maxL ret rm argsL.toArray h Q) (eT : T.heap = h) {g : JFrame} (hg : g.method = m) (hsize : g.locals.size = c.maxLocals)
    (hlen : ∀ sig, parseMethodDescriptor y.desc = some sig → argsL.length = sig.parameters.length) (hs : g.stack = argsL.reverse ++ rest) {W : Nat} (hW : 2 * g.monitorRoom + (rest.map fun v => v.category).sum ≤ W) (hd : decode c.code g.pc = .ok (.invokestatic index, 3))
    (hf : rm.frames + 1 ≤ R.frames) (hl : W + (maxL + 11) + rm.locals ≤ R.locals) (hc : cells + rm.cells ≤ R.cells) (hsl : slots + rm.slots ≤ R.slots) :
    ∃ v T' h' L, Stand p l e R s m args below meth c T' (locs ++ L) (cells + rm.cells) (slots + rm.slots) ∧ T'.heap = h' ∧ Q v h' L ∧ ∀ t, Steps p.tables e below (T'.setTop { g with pc := g.pc + 3, stack := v.toList ++ rest }) t → Steps p.tables e below (T.setTop g) t := by
  obtain ⟨v, _, ⟨T', L', k', n'⟩, -, X', ⟨Lc, hQ, l1, y1, z1⟩, st⟩ := Jvm.LawKit.callS X hx (y := y) hown (mvT hZ w1) (mvT hZ w2) (mvT hZ w3) (mvT hZ w4) hy (backOf (W := W) hC hZ w4 w3 hf hl) hg hsize hlen hs hW hd (fun _ _ => ⟨rfl, eT, hc, hsl⟩)
  dsimp only [Pt.U, Pt.locs, Pt.cells, Pt.slots] at X' l1 y1 z1 st hQ
  subst l1 y1 z1
  exact ⟨v, T', _, Lc, X', rfl, hQ, st⟩
theorem own_special (X : Stand p l e R s m args below meth c T locs cells slots) (hx : p.tables.exec = Jvm.exec) (hZ : Z.Warmed39 s.vm) (hown : s.vm.findClass own = some m.cls) (hy1 : y.name = "<init>") (w1 : (Jvm.Cond.methodLink own index y).before a0 Z = true) (w2 : (Jvm.Cond.instanceMethod y).before a0 Z = true)
    (w4 : (Jvm.Cond.code y bytes maxL none).before a0 Z = true) (w3 : (Jvm.Cond.initialized y.cls).before a0 Z = true) (hy : y.cls ≠ "java/lang/invoke/MethodHandle" ∧ y.cls ≠ "java/lang/invoke/VarHandle") (hC : Ct l Z [] y bytes maxL none rm (.ref a :: argsL).toArray h Q) (eT : T.heap = h) {g : JFrame} (hg : g.method = m) (hsize : g.locals.size = c.maxLocals)
    (hlen : ∀ sig, parseMethodDescriptor y.desc = some sig → argsL.length = sig.parameters.length) (hs : g.stack = argsL.reverse ++ .ref a :: rest) {W : Nat} (hW : 2 * g.monitorRoom + (rest.map fun v => v.category).sum ≤ W) (hd : decode c.code g.pc = .ok (.invokespecial index, 3))
    (hf : rm.frames + 1 ≤ R.frames) (hl : W + (maxL + 11) + rm.locals ≤ R.locals) (hc : cells + rm.cells ≤ R.cells) (hsl : slots + rm.slots ≤ R.slots) :
    ∃ v T' h' L, Stand p l e R s m args below meth c T' (locs ++ L) (cells + rm.cells) (slots + rm.slots) ∧ T'.heap = h' ∧ Q v h' L ∧ ∀ t, Steps p.tables e below (T'.setTop { g with pc := g.pc + 3, stack := v.toList ++ rest }) t → Steps p.tables e below (T.setTop g) t := by
  obtain ⟨v, _, ⟨T', L', k', n'⟩, -, X', ⟨Lc, hQ, l1, y1, z1⟩, st⟩ := X.specialBack hx (y := y) hy1 hown (mvT hZ w1) (mvT hZ w2) (mvT hZ w4) hy (backOf (W := W) hC hZ w4 w3 hf hl) hg hsize (Steps.refl _) (a := a) hlen hs hW hd (fun _ _ => ⟨rfl, eT, hc, hsl⟩)
  dsimp only [Pt.U, Pt.locs, Pt.cells, Pt.slots] at X' l1 y1 z1 st hQ
  subst l1 y1 z1
  exact ⟨v, T', _, Lc, X', rfl, hQ, fun t k => st.trans k⟩
theorem own_virtual {C : String} (X : Stand p l e R s m args below meth c T locs cells slots) (hx : p.tables.exec = Jvm.exec) (hZ : Z.Warmed39 s.vm) (hown : s.vm.findClass own = some m.cls) (w1 : (Jvm.Cond.methodLink own index y).before a0 Z = true) (w2 : (Jvm.Cond.declares y).before a0 Z = true) (w5 : (Jvm.Cond.selects C y y).before a0 Z = true)
    (w6 : (Jvm.Cond.instanceMethod y).before a0 Z = true) (w4 : (Jvm.Cond.code y bytes maxL ret).before a0 Z = true) (w3 : (Jvm.Cond.initialized y.cls).before a0 Z = true) (hy : y.cls ≠ "java/lang/invoke/MethodHandle" ∧ y.cls ≠ "java/lang/invoke/VarHandle") (E : Exa Z h a C) (hC : Ct l Z [] y bytes maxL ret rm (.ref a :: argsL).toArray h Q) (eT : T.heap = h) {g : JFrame} (hg : g.method = m) (hsize : g.locals.size = c.maxLocals)
    (hlen : ∀ sig, parseMethodDescriptor y.desc = some sig → argsL.length = sig.parameters.length) (hs : g.stack = argsL.reverse ++ .ref a :: rest) {W : Nat} (hW : 2 * g.monitorRoom + (rest.map fun v => v.category).sum ≤ W) (hd : decode c.code g.pc = .ok (.invokevirtual index, 3))
    (hf : rm.frames + 1 ≤ R.frames) (hl : W + (maxL + 11) + rm.locals ≤ R.locals) (hc : cells + rm.cells ≤ R.cells) (hsl : slots + rm.slots ≤ R.slots) :
    ∃ v T' h' L, Stand p l e R s m args below meth c T' (locs ++ L) (cells + rm.cells) (slots + rm.slots) ∧ T'.heap = h' ∧ Q v h' L ∧ ∀ t, Steps p.tables e below (T'.setTop { g with pc := g.pc + 3, stack := v.toList ++ rest }) t → Steps p.tables e below (T.setTop g) t := by
  obtain ⟨cq, kq, qa, qb, qc⟩ := isOf hZ eT E
  obtain ⟨v, _, ⟨T', L', k', n'⟩, -, X', ⟨Lc, hQ, l1, y1, z1⟩, st⟩ := X.virtualBack hx (y := y) (z := y) hown (mvT hZ w1) (mvT hZ w2) (notFace_of_selects (args := #[]) (mvT hZ w5)) (mvT hZ w5) (mvT hZ w6) hy (backOf (W := W) hC hZ w4 w3 hf hl) qa qc hg hsize (Steps.refl _) hlen hs hW hd (fun _ _ => ⟨rfl, eT, hc, hsl⟩)
  dsimp only [Pt.U, Pt.locs, Pt.cells, Pt.slots] at X' l1 y1 z1 st hQ
  subst l1 y1 z1
  exact ⟨v, T', _, Lc, X', rfl, hQ, fun t k => st.trans k⟩
theorem own_private {nn : Nat} (X : Stand p l e R s m args below meth c T locs cells slots) (hx : p.tables.exec = Jvm.exec) (hZ : Z.Warmed39 s.vm) (hown : s.vm.findClass own = some m.cls) (w1 : (Jvm.Cond.methodLink own index y).before a0 Z = true) (w2 : (Jvm.Cond.instanceMethod y).before a0 Z = true) (wi : (Jvm.Cond.instantiable y.cls nn).before a0 Z = true)
    (wp : (Jvm.Cond.privateMethod y).before a0 Z = true) (w4 : (Jvm.Cond.code y bytes maxL ret).before a0 Z = true) (w3 : (Jvm.Cond.initialized y.cls).before a0 Z = true) (hy : y.cls ≠ "java/lang/invoke/MethodHandle" ∧ y.cls ≠ "java/lang/invoke/VarHandle") (E : Exa Z h a y.cls) (hC : Ct l Z [] y bytes maxL ret rm (.ref a :: argsL).toArray h Q) (eT : T.heap = h) {g : JFrame} (hg : g.method = m) (hsize : g.locals.size = c.maxLocals)
    (hlen : ∀ sig, parseMethodDescriptor y.desc = some sig → argsL.length = sig.parameters.length) (hs : g.stack = argsL.reverse ++ .ref a :: rest) {W : Nat} (hW : 2 * g.monitorRoom + (rest.map fun v => v.category).sum ≤ W) (hd : decode c.code g.pc = .ok (.invokevirtual index, 3))
    (hf : rm.frames + 1 ≤ R.frames) (hl : W + (maxL + 11) + rm.locals ≤ R.locals) (hc : cells + rm.cells ≤ R.cells) (hsl : slots + rm.slots ≤ R.slots) :
    ∃ v T' h' L, Stand p l e R s m args below meth c T' (locs ++ L) (cells + rm.cells) (slots + rm.slots) ∧ T'.heap = h' ∧ Q v h' L ∧ ∀ t, Steps p.tables e below (T'.setTop { g with pc := g.pc + 3, stack := v.toList ++ rest }) t → Steps p.tables e below (T.setTop g) t := by
  obtain ⟨cell, hcell, hobj⟩ := E.cell
  have hsel : (Jvm.Cond.selects y.cls y y).before args s = true := by
    obtain ⟨c', k', i1, i2, -, i4, -⟩ := Cond.instantiable_spec (mvT hZ wi : (Jvm.Cond.instantiable y.cls nn).before args s = true)
    exact selects_self_of_private i1 i2 (Bool.or_eq_false_iff.mp i4).1 (Cond.privateMethod_at (mvP hZ wp (args := args))) (mvT hZ w2) hy
  obtain ⟨v, _, ⟨T', L', k', n'⟩, -, X', ⟨Lc, hQ, l1, y1, z1⟩, st⟩ := X.privateBack hx (y := y) hown (mvT hZ w1) (mvT hZ w2) hsel (Cond.privateMethod_at (mvP hZ wp (args := #[]))) (mvT hZ w4) hy (backOf (W := W) hC hZ w4 w3 hf hl) hg hsize (Steps.refl _) (a := a) (by rw [eT]; exact hcell) hobj hlen hs hW hd (fun _ _ => ⟨rfl, eT, hc, hsl⟩)
  dsimp only [Pt.U, Pt.locs, Pt.cells, Pt.slots] at X' l1 y1 z1 st hQ
  subst l1 y1 z1
  exact ⟨v, T', _, Lc, X', rfl, hQ, fun t k => st.trans k⟩
theorem own_virtualUp {C owner : String} (X : Stand p l e R s m args below meth c T locs cells slots) (hx : p.tables.exec = Jvm.exec) (hZ : Z.Warmed39 s.vm) (hown : s.vm.findClass own = some m.cls) (w1 : (Jvm.Cond.methodLink own index y).before a0 Z = true) (ws : (Jvm.Cond.sameMethod y.cls owner y.name y.desc).before a0 Z = true) (w2 : (Jvm.Cond.declares ⟨owner, y.name, y.desc⟩).before a0 Z = true) (w5 : (Jvm.Cond.selects C y z).before a0 Z = true)
    (w6 : (Jvm.Cond.instanceMethod z).before a0 Z = true) (w4 : (Jvm.Cond.code z bytes maxL ret).before a0 Z = true) (w3 : (Jvm.Cond.initialized z.cls).before a0 Z = true) (ho : owner ≠ "java/lang/invoke/MethodHandle" ∧ owner ≠ "java/lang/invoke/VarHandle") (E : Exa Z h a C) (hC : Ct l Z [] z bytes maxL ret rm (.ref a :: argsL).toArray h Q) (eT : T.heap = h) {g : JFrame} (hg : g.method = m) (hsize : g.locals.size = c.maxLocals)
    (hlen : ∀ sig, parseMethodDescriptor y.desc = some sig → argsL.length = sig.parameters.length) (hs : g.stack = argsL.reverse ++ .ref a :: rest) {W : Nat} (hW : 2 * g.monitorRoom + (rest.map fun v => v.category).sum ≤ W) (hd : decode c.code g.pc = .ok (.invokevirtual index, 3))
    (hf : rm.frames + 1 ≤ R.frames) (hl : W + (maxL + 11) + rm.locals ≤ R.locals) (hc : cells + rm.cells ≤ R.cells) (hsl : slots + rm.slots ≤ R.slots) :
    ∃ v T' h' L, Stand p l e R s m args below meth c T' (locs ++ L) (cells + rm.cells) (slots + rm.slots) ∧ T'.heap = h' ∧ Q v h' L ∧ ∀ t, Steps p.tables e below (T'.setTop { g with pc := g.pc + 3, stack := v.toList ++ rest }) t → Steps p.tables e below (T.setTop g) t := by
  obtain ⟨cq, kq, qa, qb, qc⟩ := isOf hZ eT E
  obtain ⟨v, _, ⟨T', L', k', n'⟩, -, X', ⟨Lc, hQ, l1, y1, z1⟩, st⟩ := X.virtualBackUp hx (x := y) (y := z) (owner := owner) hown (mvT hZ w1) (mvT hZ ws) (mvT hZ w2) ho (mvT hZ w5) (mvT hZ w6) (backOf (W := W) hC hZ w4 w3 hf hl) qa qc hg hsize (Steps.refl _) hlen hs hW hd (fun _ _ => ⟨rfl, eT, hc, hsl⟩)
  dsimp only [Pt.U, Pt.locs, Pt.cells, Pt.slots] at X' l1 y1 z1 st hQ
  subst l1 y1 z1
  exact ⟨v, T', _, Lc, X', rfl, hQ, fun t k => st.trans k⟩
theorem own_ref {x : Value} (hq : x = .null ∨ ∃ b, x = .ref b) : x.isRef = true := by rcases hq with rfl | ⟨_, rfl⟩ <;> rfl
theorem own_cat {x : Value} (hq : x = .null ∨ ∃ b, x = .ref b) : x.category = 1 := by rcases hq with rfl | ⟨_, rfl⟩ <;> rfl
theorem own_nar {x : Value} {t : FieldType} (hq : x = .null ∨ ∃ b, x = .ref b) (ht : t.isReference = true) : narrow t x = x := by rcases hq with rfl | ⟨_, rfl⟩ <;> cases t <;> first | rfl | (cases ht; done)
theorem own_fit {x : Value} {t : FieldType} (hq : x = .null ∨ ∃ b, x = .ref b) (ht : t.isReference = true) : fits t x = true := by rcases hq with rfl | ⟨_, rfl⟩ <;> cases t <;> first | rfl | (cases ht; done)
variable {k : ClassId} {ty : FieldType} {n j : Int32} {vs : List Value} {dv v : Value}
theorem own_ld (X : Stand p l e R s m args below meth c T locs cells slots) (hx : p.tables.exec = Jvm.exec) (hZ : Z.Warmed39 s.vm) (eT : T.heap = h) (F : Arv Z h a k ty n vs dv) (hj : ¬ j < 0 ∧ j < n) (hv : vs.getD j.toNatClampNeg dv = v) {g : JFrame} (hg : g.method = m) (hs : g.stack = .int j :: .ref a :: rest) {i : Instr}
    (hi : (i = .iaload ∧ ty = .int) ∨ (i = .laload ∧ ty = .long) ∨ (i = .aaload ∧ ty.isReference = true)) (hd : decode c.code g.pc = .ok (i, 1)) : ∀ t, Steps p.tables e below (T.setTop { g with pc := g.pc + 1, stack := v :: rest }) t → Steps p.tables e below (T.setTop g) t := by
  obtain ⟨cl, A, -, S, -, H, -⟩ := F
  have hin := inb_of S hj
  have hat := H.at hin hv
  rcases hi with ⟨rfl, rfl⟩ | ⟨rfl, rfl⟩ | ⟨rfl, ht⟩
  · exact X.iaload hx (j := j) (v := v) (by rw [eT]; exact A.1) (State.isArrayOf_alike hZ.alike A.2.1) A.2.2 hin hat hg hs hd
  · exact X.laload hx (j := j) (v := v) (by rw [eT]; exact A.1) (State.isArrayOf_alike hZ.alike A.2.1) A.2.2 hin hat hg hs hd
  · exact X.aaload hx (j := j) (v := v) (by rw [eT]; exact A.1) (State.isArrayOf_alike hZ.alike A.2.1) ht A.2.2 hin hat hg hs hd
theorem own_len (X : Stand p l e R s m args below meth c T locs cells slots) (hx : p.tables.exec = Jvm.exec) (hZ : Z.Warmed39 s.vm) (eT : T.heap = h) (F : Arv Z h a k ty n vs dv) {g : JFrame} (hg : g.method = m) (hs : g.stack = .ref a :: rest) (hd : decode c.code g.pc = .ok (.arraylength, 1)) :
    ∀ t, Steps p.tables e below (T.setTop { g with pc := g.pc + 1, stack := .int n :: rest }) t → Steps p.tables e below (T.setTop g) t := by
  obtain ⟨cl, A, -, S, q, -, -⟩ := F
  intro t kt
  refine X.arraylength hx (by rw [eT]; exact A.1) (State.isArrayOf_alike hZ.alike A.2.1) hg hs hd t ?_
  rw [len_of S q]
  exact kt
theorem own_lenA {cc : Cell} (X : Stand p l e R s m args below meth c T locs cells slots) (hx : p.tables.exec = Jvm.exec) (hZ : Z.Warmed39 s.vm) (eT : T.heap = h) (A : Arr Z h a cc ty) (hn : cc.slots.size.toInt32 = n) {g : JFrame} (hg : g.method = m) (hs : g.stack = .ref a :: rest) (hd : decode c.code g.pc = .ok (.arraylength, 1)) :
    ∀ t, Steps p.tables e below (T.setTop { g with pc := g.pc + 1, stack := .int n :: rest }) t → Steps p.tables e below (T.setTop g) t := by
  intro t kt
  refine X.arraylength hx (by rw [eT]; exact A.1) (State.isArrayOf_alike hZ.alike A.2.1) hg hs hd t ?_
  rw [hn]
  exact kt
theorem own_stI (X : Stand p l e R s m args below meth c T locs cells slots) (hx : p.tables.exec = Jvm.exec) (hZ : Z.Warmed39 s.vm) (eT : T.heap = h) (F : Arv Z h a k .int n vs dv) (hj : ¬ j < 0 ∧ j < n) (i : Nat) (hi : j.toNatClampNeg = i) (hl : i < vs.length) {x : Int32} {g : JFrame} (hg : g.method = m) (hs : g.stack = .int x :: .int j :: .ref a :: rest) (hd : decode c.code g.pc = .ok (.iastore, 1)) :
    ∃ T' h', Stand p l e R s m args below meth c T' (locs ++ [⟨a, j.toNatClampNeg⟩]) cells slots ∧ T'.heap = h' ∧ Wr h h' a j.toNatClampNeg (.int x) ∧ Arv Z h' a k .int n (vs.set i (.int x)) dv ∧ ∀ t, Steps p.tables e below (T'.setTop { g with pc := g.pc + 1, stack := rest }) t → Steps p.tables e below (T.setTop g) t := by
  obtain ⟨cl, A, q1, S, q3, H, G⟩ := F
  obtain ⟨T', h', X', e', W, st⟩ := stI X hx hZ eT A (inb_of S hj) hg hs hd
  exact ⟨T', h', X', e', W, Arv.set A q1 S q3 H G rfl W i hi hl, st⟩
theorem own_stJ (X : Stand p l e R s m args below meth c T locs cells slots) (hx : p.tables.exec = Jvm.exec) (hZ : Z.Warmed39 s.vm) (eT : T.heap = h) (F : Arv Z h a k .long n vs dv) (hj : ¬ j < 0 ∧ j < n) (i : Nat) (hi : j.toNatClampNeg = i) (hl : i < vs.length) {x : Int64} {g : JFrame} (hg : g.method = m) (hs : g.stack = .long x :: .int j :: .ref a :: rest) (hd : decode c.code g.pc = .ok (.lastore, 1)) :
    ∃ T' h', Stand p l e R s m args below meth c T' (locs ++ [⟨a, j.toNatClampNeg⟩]) cells slots ∧ T'.heap = h' ∧ Wr h h' a j.toNatClampNeg (.long x) ∧ Arv Z h' a k .long n (vs.set i (.long x)) dv ∧ ∀ t, Steps p.tables e below (T'.setTop { g with pc := g.pc + 1, stack := rest }) t → Steps p.tables e below (T.setTop g) t := by
  obtain ⟨cl, A, q1, S, q3, H, G⟩ := F
  obtain ⟨T', h', X', e', W, st⟩ := stJ X hx hZ eT A (inb_of S hj) hg hs hd
  exact ⟨T', h', X', e', W, Arv.set A q1 S q3 H G rfl W i hi hl, st⟩
theorem own_stR {C : String} {y : Value} (X : Stand p l e R s m args below meth c T locs cells slots) (hx : p.tables.exec = Jvm.exec) (hZ : Z.Warmed39 s.vm) (eT : T.heap = h) (F : Arv Z h a k ty n vs dv) (ht : ty.isReference = true) (hf : fits ty y = true) (O : y = .null ∨ ∃ b, y = .ref b ∧ Ovr Z k C ∧ Ins Z h b C true) (hj : ¬ j < 0 ∧ j < n) (i : Nat) (hi : j.toNatClampNeg = i) (hl : i < vs.length) {g : JFrame} (hg : g.method = m) (hs : g.stack = y :: .int j :: .ref a :: rest) (hd : decode c.code g.pc = .ok (.aastore, 1)) :
    ∃ T' h', Stand p l e R s m args below meth c T' (locs ++ [⟨a, j.toNatClampNeg⟩]) cells slots ∧ T'.heap = h' ∧ Wr h h' a j.toNatClampNeg y ∧ Arv Z h' a k ty n (vs.set i y) dv ∧ ∀ t, Steps p.tables e below (T'.setTop { g with pc := g.pc + 1, stack := rest }) t → Steps p.tables e below (T.setTop g) t := by
  obtain ⟨cl, A, q1, S, q3, H, G⟩ := F
  obtain ⟨T', h', X', e', W, st⟩ := stR X hx hZ eT A (inb_of S hj) ht (by rcases O with rfl | ⟨b, rfl, O, I⟩; exact Or.inl rfl; exact Sto.ofV A q1 O I) hg hs hd
  exact ⟨T', h', X', e', W, Arv.set A q1 S q3 H G hf W i hi hl, st⟩
end OwnKit
def own_pick (x0 x1 x2 x3 k : Int32) : Int32 := if k = (0 : Int32) then x0 else if k = (1 : Int32) then x1 else if k = (2 : Int32) then x2 else x3
theorem own_four (y : Int32) (h : ¬ y < (0 : Int32) ∧ y < (4 : Int32)) : y = 0 ∨ y = 1 ∨ y = 2 ∨ y = 3 := by
  obtain ⟨h1, h2⟩ := h
  rw [Int32.lt_iff_toInt_lt] at h1 h2
  have e0 : (0 : Int32).toInt = 0 := rfl
  have e1 : (1 : Int32).toInt = 1 := rfl
  have e2 : (2 : Int32).toInt = 2 := rfl
  have e3 : (3 : Int32).toInt = 3 := rfl
  have e4 : (4 : Int32).toInt = 4 := rfl
  have q : y.toInt = 0 ∨ y.toInt = 1 ∨ y.toInt = 2 ∨ y.toInt = 3 := by omega
  rcases q with q | q | q | q
  · exact Or.inl (Int32.toInt_inj.mp (q.trans e0.symm))
  · exact Or.inr (Or.inl (Int32.toInt_inj.mp (q.trans e1.symm)))
  · exact Or.inr (Or.inr (Or.inl (Int32.toInt_inj.mp (q.trans e2.symm))))
  · exact Or.inr (Or.inr (Or.inr (Int32.toInt_inj.mp (q.trans e3.symm))))
theorem own_get (x0 x1 x2 x3 y : Int32) (h : ¬ y < (0 : Int32) ∧ y < (4 : Int32)) : ([.int x0, .int x1, .int x2, .int x3] : List Value).getD y.toNatClampNeg (.int (0 : Int32)) = .int (own_pick x0 x1 x2 x3 y) := by
  rcases own_four y h with rfl | rfl | rfl | rfl <;> rfl
theorem own_rng (x : Int32) : ¬ (x &&& (3 : Int32)) < (0 : Int32) ∧ (x &&& (3 : Int32)) < (4 : Int32) := by
  have q := c_and x (3 : Int32) (by decide)
  have e0 : (0 : Int32).toInt = 0 := rfl
  have e3 : (3 : Int32).toInt = 3 := rfl
  have e4 : (4 : Int32).toInt = 4 := rfl
  rw [Int32.lt_iff_toInt_lt, Int32.lt_iff_toInt_lt]
  omega
theorem own_cnt (x : Int32) : ((x &&& (2147483647 : Int32)) % (5 : Int32)) = 0 ∨ ((x &&& (2147483647 : Int32)) % (5 : Int32)) = 1 ∨ ((x &&& (2147483647 : Int32)) % (5 : Int32)) = 2 ∨ ((x &&& (2147483647 : Int32)) % (5 : Int32)) = 3 ∨ ((x &&& (2147483647 : Int32)) % (5 : Int32)) = 4 := by
  have q := (c_and x (2147483647 : Int32) (by decide)).1
  have r := (c_irem (x &&& (2147483647 : Int32)) (5 : Int32) 5 rfl).1 q
  generalize (x &&& (2147483647 : Int32)) % (5 : Int32) = y at r ⊢
  have q : y.toInt = 0 ∨ y.toInt = 1 ∨ y.toInt = 2 ∨ y.toInt = 3 ∨ y.toInt = 4 := by omega
  rcases q with q | q | q | q | q
  · exact Or.inl (Int32.toInt_inj.mp q)
  · exact Or.inr (Or.inl (Int32.toInt_inj.mp q))
  · exact Or.inr (Or.inr (Or.inl (Int32.toInt_inj.mp q)))
  · exact Or.inr (Or.inr (Or.inr (Or.inl (Int32.toInt_inj.mp q))))
  · exact Or.inr (Or.inr (Or.inr (Or.inr (Int32.toInt_inj.mp q))))
theorem d2_0 : decode method_3_code 0 = .ok (.iload 4, 2) := by decide +kernel
theorem d2_2 : decode method_3_code 2 = .ok (.ifCond .ne 5, 3) := by decide +kernel
theorem d2_5 : decode method_3_code 5 = .ok (.iload_n 0, 1) := by decide +kernel
theorem d2_6 : decode method_3_code 6 = .ok (.ireturn, 1) := by decide +kernel
theorem d2_7 : decode method_3_code 7 = .ok (.iload 4, 2) := by decide +kernel
theorem d2_9 : decode method_3_code 9 = .ok (.iconst 1, 1) := by decide +kernel
theorem d2_10 : decode method_3_code 10 = .ok (.if_icmp .ne 5, 3) := by decide +kernel
theorem d2_13 : decode method_3_code 13 = .ok (.iload_n 1, 1) := by decide +kernel
theorem d2_14 : decode method_3_code 14 = .ok (.ireturn, 1) := by decide +kernel
theorem d2_15 : decode method_3_code 15 = .ok (.iload 4, 2) := by decide +kernel
theorem d2_17 : decode method_3_code 17 = .ok (.iconst 2, 1) := by decide +kernel
theorem d2_18 : decode method_3_code 18 = .ok (.if_icmp .ne 5, 3) := by decide +kernel
theorem d2_21 : decode method_3_code 21 = .ok (.iload_n 2, 1) := by decide +kernel
theorem d2_22 : decode method_3_code 22 = .ok (.ireturn, 1) := by decide +kernel
theorem d2_23 : decode method_3_code 23 = .ok (.iload_n 3, 1) := by decide +kernel
theorem d2_24 : decode method_3_code 24 = .ok (.ireturn, 1) := by decide +kernel
theorem pn_0 : plainName "com/example/mistgraph/mistgraph/core/ConnectionsSomePinLaw" = true := by first | (simp [plainName, overriddenIn]; done) | decide +kernel
def rmPQ (Z : State) (x0 : Int32) (x1 : Int32) (x2 : Int32) (x3 : Int32) (y : Int32) (h0 : Heap) (n0 : Nat) (v : Option Value) (h : Heap) (L : List Loc) : Prop := v = some (.int (own_pick x0 x1 x2 x3 y)) ∧ Fr n0 L ∧ h = h0
set_option maxRecDepth 65536 in
set_option maxHeartbeats 40000000 in
theorem rmP (l : Launch) (Z : State) (a0 : Array Value) (hw : ∀ d ∈ tables_1, d.before a0 Z = true) (x0 : Int32) (x1 : Int32) (x2 : Int32) (x3 : Int32) (y : Int32) (h0 : Heap) (n0 : Nat) (Z0 : n0 ≤ h0.size) :
    Ct l Z [] (⟨"com/example/mistgraph/mistgraph/core/ConnectionsSomePinLaw", "pick", "(IIIII)I"⟩ : MethodName) method_3_code 5 (some .int) ({ frames := 0, cells := 0, slots := 0, locals := 0 } : Room) #[(.int x0), (.int x1), (.int x2), (.int x3), (.int y)] h0 (rmPQ Z x0 x1 x2 x3 y h0 n0) := by
  refine own_enter (plainFor_of_name pn_0) ?_
  intro p e s m below meth c T0 X0 hx hby hml hZ hown hnm hret hlk e0
  have hown : s.vm.findClass "com/example/mistgraph/mistgraph/core/ConnectionsSomePinLaw" = some m.cls := hown
  have N0 := Fr.nil n0
  have K0 := Keep.refl h0 []
  refine own_st (fun wt wk => castTop (g' := mkF m 0 #[.val (.int x0), .val (.int x1), .val (.int x2), .val (.int x3), .val (.int y)] []) (by first | (simp [entryFrame, mkF, argsToLocals, Value.category]; done) | rfl) wk) ?_
  show Fin1 p e below s (rmPQ Z x0 x1 x2 x3 y h0 n0) ({ frames := 0, cells := 0, slots := 0, locals := 0 } : Room).cells ({ frames := 0, cells := 0, slots := 0, locals := 0 } : Room).slots (T0.setTop (mkF m 0 #[.val (.int x0), .val (.int x1), .val (.int x2), .val (.int x3), .val (.int y)] []))
  refine own_st (fun wt wk => XS.iload X0.here hx rfl (hb hby d2_0) rfl wk) ?_
  show Fin1 p e below s (rmPQ Z x0 x1 x2 x3 y h0 n0) ({ frames := 0, cells := 0, slots := 0, locals := 0 } : Room).cells ({ frames := 0, cells := 0, slots := 0, locals := 0 } : Room).slots (T0.setTop (mkF m 2 #[.val (.int x0), .val (.int x1), .val (.int x2), .val (.int x3), .val (.int y)] [(.int y)]))
  by_cases c2 : y = (0 : Int32)
  · refine own_st (fun wt wk => XS.ifNo X0.here hx rfl (hb hby d2_2) rfl ((if0 _ _).trans (teq c2).2) wk) ?_
    show Fin1 p e below s (rmPQ Z x0 x1 x2 x3 y h0 n0) ({ frames := 0, cells := 0, slots := 0, locals := 0 } : Room).cells ({ frames := 0, cells := 0, slots := 0, locals := 0 } : Room).slots (T0.setTop (mkF m 5 #[.val (.int x0), .val (.int x1), .val (.int x2), .val (.int x3), .val (.int y)] []))
    refine own_st (fun wt wk => XS.iloadN X0.here hx rfl (hb hby d2_5) rfl wk) ?_
    show Fin1 p e below s (rmPQ Z x0 x1 x2 x3 y h0 n0) ({ frames := 0, cells := 0, slots := 0, locals := 0 } : Room).cells ({ frames := 0, cells := 0, slots := 0, locals := 0 } : Room).slots (T0.setTop (mkF m 6 #[.val (.int x0), .val (.int x1), .val (.int x2), .val (.int x3), .val (.int y)] [(.int x0)]))
    exact own_retI X0 hx hlk hret (hb hby d2_6) (by rw [e0]; exact ⟨(by simp [own_pick, c2]), N0, rfl⟩) (by decide) (by decide)
  · refine own_st (fun wt wk => XS.ifYes X0.here hx rfl (pc0 := 2) (pc' := 7) rfl (hb hby d2_2) rfl ((if0 _ _).trans (feq c2).2) (by decide) (by decide) wk) ?_
    show Fin1 p e below s (rmPQ Z x0 x1 x2 x3 y h0 n0) ({ frames := 0, cells := 0, slots := 0, locals := 0 } : Room).cells ({ frames := 0, cells := 0, slots := 0, locals := 0 } : Room).slots (T0.setTop (mkF m 7 #[.val (.int x0), .val (.int x1), .val (.int x2), .val (.int x3), .val (.int y)] []))
    refine own_st (fun wt wk => XS.iload X0.here hx rfl (hb hby d2_7) rfl wk) ?_
    show Fin1 p e below s (rmPQ Z x0 x1 x2 x3 y h0 n0) ({ frames := 0, cells := 0, slots := 0, locals := 0 } : Room).cells ({ frames := 0, cells := 0, slots := 0, locals := 0 } : Room).slots (T0.setTop (mkF m 9 #[.val (.int x0), .val (.int x1), .val (.int x2), .val (.int x3), .val (.int y)] [(.int y)]))
    refine own_st (fun wt wk => XS.iconst X0.here hx rfl (hb hby d2_9) wk) ?_
    show Fin1 p e below s (rmPQ Z x0 x1 x2 x3 y h0 n0) ({ frames := 0, cells := 0, slots := 0, locals := 0 } : Room).cells ({ frames := 0, cells := 0, slots := 0, locals := 0 } : Room).slots (T0.setTop (mkF m 10 #[.val (.int x0), .val (.int x1), .val (.int x2), .val (.int x3), .val (.int y)] [(.int (1 : Int32)), (.int y)]))
    by_cases c10 : y = (1 : Int32)
    · refine own_st (fun wt wk => XS.icmpNo X0.here hx rfl (hb hby d2_10) rfl (teq c10).2 wk) ?_
      show Fin1 p e below s (rmPQ Z x0 x1 x2 x3 y h0 n0) ({ frames := 0, cells := 0, slots := 0, locals := 0 } : Room).cells ({ frames := 0, cells := 0, slots := 0, locals := 0 } : Room).slots (T0.setTop (mkF m 13 #[.val (.int x0), .val (.int x1), .val (.int x2), .val (.int x3), .val (.int y)] []))
      refine own_st (fun wt wk => XS.iloadN X0.here hx rfl (hb hby d2_13) rfl wk) ?_
      show Fin1 p e below s (rmPQ Z x0 x1 x2 x3 y h0 n0) ({ frames := 0, cells := 0, slots := 0, locals := 0 } : Room).cells ({ frames := 0, cells := 0, slots := 0, locals := 0 } : Room).slots (T0.setTop (mkF m 14 #[.val (.int x0), .val (.int x1), .val (.int x2), .val (.int x3), .val (.int y)] [(.int x1)]))
      exact own_retI X0 hx hlk hret (hb hby d2_14) (by rw [e0]; exact ⟨(by simp [own_pick, c2, c10]), N0, rfl⟩) (by decide) (by decide)
    · refine own_st (fun wt wk => XS.icmpYes X0.here hx rfl (pc0 := 10) (pc' := 15) rfl (hb hby d2_10) rfl (feq c10).2 (by decide) (by decide) wk) ?_
      show Fin1 p e below s (rmPQ Z x0 x1 x2 x3 y h0 n0) ({ frames := 0, cells := 0, slots := 0, locals := 0 } : Room).cells ({ frames := 0, cells := 0, slots := 0, locals := 0 } : Room).slots (T0.setTop (mkF m 15 #[.val (.int x0), .val (.int x1), .val (.int x2), .val (.int x3), .val (.int y)] []))
      refine own_st (fun wt wk => XS.iload X0.here hx rfl (hb hby d2_15) rfl wk) ?_
      show Fin1 p e below s (rmPQ Z x0 x1 x2 x3 y h0 n0) ({ frames := 0, cells := 0, slots := 0, locals := 0 } : Room).cells ({ frames := 0, cells := 0, slots := 0, locals := 0 } : Room).slots (T0.setTop (mkF m 17 #[.val (.int x0), .val (.int x1), .val (.int x2), .val (.int x3), .val (.int y)] [(.int y)]))
      refine own_st (fun wt wk => XS.iconst X0.here hx rfl (hb hby d2_17) wk) ?_
      show Fin1 p e below s (rmPQ Z x0 x1 x2 x3 y h0 n0) ({ frames := 0, cells := 0, slots := 0, locals := 0 } : Room).cells ({ frames := 0, cells := 0, slots := 0, locals := 0 } : Room).slots (T0.setTop (mkF m 18 #[.val (.int x0), .val (.int x1), .val (.int x2), .val (.int x3), .val (.int y)] [(.int (2 : Int32)), (.int y)]))
      by_cases c18 : y = (2 : Int32)
      · refine own_st (fun wt wk => XS.icmpNo X0.here hx rfl (hb hby d2_18) rfl (teq c18).2 wk) ?_
        show Fin1 p e below s (rmPQ Z x0 x1 x2 x3 y h0 n0) ({ frames := 0, cells := 0, slots := 0, locals := 0 } : Room).cells ({ frames := 0, cells := 0, slots := 0, locals := 0 } : Room).slots (T0.setTop (mkF m 21 #[.val (.int x0), .val (.int x1), .val (.int x2), .val (.int x3), .val (.int y)] []))
        refine own_st (fun wt wk => XS.iloadN X0.here hx rfl (hb hby d2_21) rfl wk) ?_
        show Fin1 p e below s (rmPQ Z x0 x1 x2 x3 y h0 n0) ({ frames := 0, cells := 0, slots := 0, locals := 0 } : Room).cells ({ frames := 0, cells := 0, slots := 0, locals := 0 } : Room).slots (T0.setTop (mkF m 22 #[.val (.int x0), .val (.int x1), .val (.int x2), .val (.int x3), .val (.int y)] [(.int x2)]))
        exact own_retI X0 hx hlk hret (hb hby d2_22) (by rw [e0]; exact ⟨(by simp [own_pick, c2, c10, c18]), N0, rfl⟩) (by decide) (by decide)
      · refine own_st (fun wt wk => XS.icmpYes X0.here hx rfl (pc0 := 18) (pc' := 23) rfl (hb hby d2_18) rfl (feq c18).2 (by decide) (by decide) wk) ?_
        show Fin1 p e below s (rmPQ Z x0 x1 x2 x3 y h0 n0) ({ frames := 0, cells := 0, slots := 0, locals := 0 } : Room).cells ({ frames := 0, cells := 0, slots := 0, locals := 0 } : Room).slots (T0.setTop (mkF m 23 #[.val (.int x0), .val (.int x1), .val (.int x2), .val (.int x3), .val (.int y)] []))
        refine own_st (fun wt wk => XS.iloadN X0.here hx rfl (hb hby d2_23) rfl wk) ?_
        show Fin1 p e below s (rmPQ Z x0 x1 x2 x3 y h0 n0) ({ frames := 0, cells := 0, slots := 0, locals := 0 } : Room).cells ({ frames := 0, cells := 0, slots := 0, locals := 0 } : Room).slots (T0.setTop (mkF m 24 #[.val (.int x0), .val (.int x1), .val (.int x2), .val (.int x3), .val (.int y)] [(.int x3)]))
        exact own_retI X0 hx hlk hret (hb hby d2_24) (by rw [e0]; exact ⟨(by simp [own_pick, c2, c10, c18]), N0, rfl⟩) (by decide) (by decide)
theorem d1_0 : decode prog_39_method_8_code 0 = .ok (.iload_n 2, 1) := by decide +kernel
theorem d1_1 : decode prog_39_method_8_code 1 = .ok (.newarray .int, 2) := by decide +kernel
theorem d1_3 : decode prog_39_method_8_code 3 = .ok (.astore_n 3, 1) := by decide +kernel
theorem d1_4 : decode prog_39_method_8_code 4 = .ok (.iconst 0, 1) := by decide +kernel
theorem d1_5 : decode prog_39_method_8_code 5 = .ok (.istore 4, 2) := by decide +kernel
theorem d1_7 : decode prog_39_method_8_code 7 = .ok (.iload 4, 2) := by decide +kernel
theorem d1_9 : decode prog_39_method_8_code 9 = .ok (.iload_n 2, 1) := by decide +kernel
theorem d1_10 : decode prog_39_method_8_code 10 = .ok (.if_icmp .ge 19, 3) := by decide +kernel
theorem d1_13 : decode prog_39_method_8_code 13 = .ok (.aload_n 3, 1) := by decide +kernel
theorem d1_14 : decode prog_39_method_8_code 14 = .ok (.iload 4, 2) := by decide +kernel
theorem d1_16 : decode prog_39_method_8_code 16 = .ok (.aload_n 0, 1) := by decide +kernel
theorem d1_17 : decode prog_39_method_8_code 17 = .ok (.aload_n 1, 1) := by decide +kernel
theorem d1_18 : decode prog_39_method_8_code 18 = .ok (.iload 4, 2) := by decide +kernel
theorem d1_20 : decode prog_39_method_8_code 20 = .ok (.iaload, 1) := by decide +kernel
theorem d1_21 : decode prog_39_method_8_code 21 = .ok (.iaload, 1) := by decide +kernel
theorem d1_22 : decode prog_39_method_8_code 22 = .ok (.iastore, 1) := by decide +kernel
theorem d1_23 : decode prog_39_method_8_code 23 = .ok (.iinc 4 1, 3) := by decide +kernel
theorem d1_26 : decode prog_39_method_8_code 26 = .ok (.goto (-19), 3) := by decide +kernel
theorem d1_29 : decode prog_39_method_8_code 29 = .ok (.aload_n 3, 1) := by decide +kernel
theorem d1_30 : decode prog_39_method_8_code 30 = .ok (.areturn, 1) := by decide +kernel
theorem pn_1 : plainName "com/example/mistgraph/mistgraph/core/Connections" = true := by first | (simp [plainName, overriddenIn]; done) | decide +kernel
def rmS0Q (Z : State) (aa : Addr) (an : Addr) (ka : ClassId) (kn : ClassId) (x0 : Int32) (x1 : Int32) (x2 : Int32) (x3 : Int32) (y0 : Int32) (y1 : Int32) (y2 : Int32) (y3 : Int32) (h0 : Heap) (n0 : Nat) (v : Option Value) (h : Heap) (L : List Loc) : Prop := ∃ (b : Addr) (kb : ClassId), v = some (.ref b) ∧ Fr n0 L ∧ h0.size ≤ b ∧ Keep h0 h [] ∧ Arv Z h b kb .int (0 : Int32) [] (.int (0 : Int32))
set_option maxRecDepth 65536 in
set_option maxHeartbeats 40000000 in
theorem rmS0 (l : Launch) (Z : State) (a0 : Array Value) (hw : ∀ d ∈ tables_1, d.before a0 Z = true) (aa : Addr) (an : Addr) (ka : ClassId) (kn : ClassId) (x0 : Int32) (x1 : Int32) (x2 : Int32) (x3 : Int32) (y0 : Int32) (y1 : Int32) (y2 : Int32) (y3 : Int32) (h0 : Heap) (n0 : Nat) (Z0 : n0 ≤ h0.size) (V_aa : Arv Z h0 aa ka .int (4 : Int32) [(.int x0), (.int x1), (.int x2), (.int x3)] (.int (0 : Int32))) (V_an : Arv Z h0 an kn .int (4 : Int32) [(.int y0), (.int y1), (.int y2), (.int y3)] (.int (0 : Int32))) (r0 : ¬ y0 < (0 : Int32) ∧ y0 < (4 : Int32)) (r1 : ¬ y1 < (0 : Int32) ∧ y1 < (4 : Int32)) (r2 : ¬ y2 < (0 : Int32) ∧ y2 < (4 : Int32)) (r3 : ¬ y3 < (0 : Int32) ∧ y3 < (4 : Int32)) :
    Ct l Z [] (⟨"com/example/mistgraph/mistgraph/core/Connections", "some", "([I[II)[I"⟩ : MethodName) prog_39_method_8_code 5 (some (.array .int)) ({ frames := 0, cells := 1, slots := 0, locals := 0 } : Room) #[(.ref aa), (.ref an), (.int (0 : Int32))] h0 (rmS0Q Z aa an ka kn x0 x1 x2 x3 y0 y1 y2 y3 h0 n0) := by
  refine own_enter (plainFor_of_name pn_1) ?_
  intro p e s m below meth c T0 X0 hx hby hml hZ hown hnm hret hlk e0
  have hown : s.vm.findClass "com/example/mistgraph/mistgraph/core/Connections" = some m.cls := hown
  have N0 := Fr.nil n0
  have K0 := Keep.refl h0 []
  refine own_st (fun wt wk => castTop (g' := mkF m 0 #[.val (.ref aa), .val (.ref an), .val (.int (0 : Int32)), .unset, .unset] []) (by first | (simp [entryFrame, mkF, argsToLocals, Value.category]; done) | rfl) wk) ?_
  show Fin1 p e below s (rmS0Q Z aa an ka kn x0 x1 x2 x3 y0 y1 y2 y3 h0 n0) ({ frames := 0, cells := 1, slots := 0, locals := 0 } : Room).cells ({ frames := 0, cells := 1, slots := 0, locals := 0 } : Room).slots (T0.setTop (mkF m 0 #[.val (.ref aa), .val (.ref an), .val (.int (0 : Int32)), .unset, .unset] []))
  refine own_st (fun wt wk => XS.iloadN X0.here hx rfl (hb hby d1_0) rfl wk) ?_
  show Fin1 p e below s (rmS0Q Z aa an ka kn x0 x1 x2 x3 y0 y1 y2 y3 h0 n0) ({ frames := 0, cells := 1, slots := 0, locals := 0 } : Room).cells ({ frames := 0, cells := 1, slots := 0, locals := 0 } : Room).slots (T0.setTop (mkF m 1 #[.val (.ref aa), .val (.ref an), .val (.int (0 : Int32)), .unset, .unset] [(.int (0 : Int32))]))
  obtain ⟨T1, h1, kc1, X1, e1, E1, A1, st1⟩ := newP X0 hx hZ (hw _ (List.mem_of_getElem? (i := 0) rfl)) e0 (g := (mkF m 1 #[.val (.ref aa), .val (.ref an), .val (.int (0 : Int32)), .unset, .unset] [(.int (0 : Int32))])) rfl (hb hby d1_1) rfl (by decide) (cap := 0) (by decide) (by decide) (by decide) (by decide)
  obtain ⟨b1, gz_b1⟩ : ∃ z, z = h0.size := ⟨_, rfl⟩
  rw [← gz_b1] at A1 st1
  have ne_aa_b1 : aa ≠ b1 := Nat.ne_of_lt (Nat.lt_of_lt_of_le V_aa.lt (Nat.le_of_eq gz_b1.symm))
  have ne_an_b1 : an ≠ b1 := Nat.ne_of_lt (Nat.lt_of_lt_of_le V_an.lt (Nat.le_of_eq gz_b1.symm))
  have sz_b1 : h0.size ≤ b1 := Nat.le_trans K0.1 (Nat.le_of_eq gz_b1.symm)
  have g_b1 : n0 ≤ b1 := Nat.le_trans Z0 (Nat.le_of_eq gz_b1.symm)
  have Z0 := Nat.le_trans Z0 E1.1
  have K0 := K0.ext E1
  have V_aa := V_aa.ext E1
  have V_an := V_an.ext E1
  refine own_st st1 ?_
  have V_b1 : Arv Z h1 b1 kc1 .int (0 : Int32) [] (.int (0 : Int32)) := (Arv.new A1 (by decide)).pad (pad_rep [] (.int (0 : Int32)) 0)
  show Fin1 p e below s (rmS0Q Z aa an ka kn x0 x1 x2 x3 y0 y1 y2 y3 h0 n0) ({ frames := 0, cells := 1, slots := 0, locals := 0 } : Room).cells ({ frames := 0, cells := 1, slots := 0, locals := 0 } : Room).slots (T1.setTop (mkF m 3 #[.val (.ref aa), .val (.ref an), .val (.int (0 : Int32)), .unset, .unset] [(.ref b1)]))
  refine own_st (fun wt wk => XS.astoreN X1.here hx rfl (hb hby d1_3) rfl rfl (l' := #[.val (.ref aa), .val (.ref an), .val (.int (0 : Int32)), .val (.ref b1), .unset]) rfl wk) ?_
  show Fin1 p e below s (rmS0Q Z aa an ka kn x0 x1 x2 x3 y0 y1 y2 y3 h0 n0) ({ frames := 0, cells := 1, slots := 0, locals := 0 } : Room).cells ({ frames := 0, cells := 1, slots := 0, locals := 0 } : Room).slots (T1.setTop (mkF m 4 #[.val (.ref aa), .val (.ref an), .val (.int (0 : Int32)), .val (.ref b1), .unset] []))
  refine own_st (fun wt wk => XS.iconst X1.here hx rfl (hb hby d1_4) wk) ?_
  show Fin1 p e below s (rmS0Q Z aa an ka kn x0 x1 x2 x3 y0 y1 y2 y3 h0 n0) ({ frames := 0, cells := 1, slots := 0, locals := 0 } : Room).cells ({ frames := 0, cells := 1, slots := 0, locals := 0 } : Room).slots (T1.setTop (mkF m 5 #[.val (.ref aa), .val (.ref an), .val (.int (0 : Int32)), .val (.ref b1), .unset] [(.int (0 : Int32))]))
  refine own_st (fun wt wk => XS.istore X1.here hx rfl (hb hby d1_5) rfl (l' := #[.val (.ref aa), .val (.ref an), .val (.int (0 : Int32)), .val (.ref b1), .val (.int (0 : Int32))]) rfl wk) ?_
  show Fin1 p e below s (rmS0Q Z aa an ka kn x0 x1 x2 x3 y0 y1 y2 y3 h0 n0) ({ frames := 0, cells := 1, slots := 0, locals := 0 } : Room).cells ({ frames := 0, cells := 1, slots := 0, locals := 0 } : Room).slots (T1.setTop (mkF m 7 #[.val (.ref aa), .val (.ref an), .val (.int (0 : Int32)), .val (.ref b1), .val (.int (0 : Int32))] []))
  refine own_st (fun wt wk => XS.iload X1.here hx rfl (hb hby d1_7) rfl wk) ?_
  show Fin1 p e below s (rmS0Q Z aa an ka kn x0 x1 x2 x3 y0 y1 y2 y3 h0 n0) ({ frames := 0, cells := 1, slots := 0, locals := 0 } : Room).cells ({ frames := 0, cells := 1, slots := 0, locals := 0 } : Room).slots (T1.setTop (mkF m 9 #[.val (.ref aa), .val (.ref an), .val (.int (0 : Int32)), .val (.ref b1), .val (.int (0 : Int32))] [(.int (0 : Int32))]))
  refine own_st (fun wt wk => XS.iloadN X1.here hx rfl (hb hby d1_9) rfl wk) ?_
  show Fin1 p e below s (rmS0Q Z aa an ka kn x0 x1 x2 x3 y0 y1 y2 y3 h0 n0) ({ frames := 0, cells := 1, slots := 0, locals := 0 } : Room).cells ({ frames := 0, cells := 1, slots := 0, locals := 0 } : Room).slots (T1.setTop (mkF m 10 #[.val (.ref aa), .val (.ref an), .val (.int (0 : Int32)), .val (.ref b1), .val (.int (0 : Int32))] [(.int (0 : Int32)), (.int (0 : Int32))]))
  refine own_st (fun wt wk => XS.icmpYes X1.here hx rfl (pc0 := 10) (pc' := 29) rfl (hb hby d1_10) rfl (flt (by decide)).2.1 (by decide) (by decide) wk) ?_
  show Fin1 p e below s (rmS0Q Z aa an ka kn x0 x1 x2 x3 y0 y1 y2 y3 h0 n0) ({ frames := 0, cells := 1, slots := 0, locals := 0 } : Room).cells ({ frames := 0, cells := 1, slots := 0, locals := 0 } : Room).slots (T1.setTop (mkF m 29 #[.val (.ref aa), .val (.ref an), .val (.int (0 : Int32)), .val (.ref b1), .val (.int (0 : Int32))] []))
  refine own_st (fun wt wk => XS.aloadN X1.here hx rfl (hb hby d1_29) rfl rfl wk) ?_
  show Fin1 p e below s (rmS0Q Z aa an ka kn x0 x1 x2 x3 y0 y1 y2 y3 h0 n0) ({ frames := 0, cells := 1, slots := 0, locals := 0 } : Room).cells ({ frames := 0, cells := 1, slots := 0, locals := 0 } : Room).slots (T1.setTop (mkF m 30 #[.val (.ref aa), .val (.ref an), .val (.int (0 : Int32)), .val (.ref b1), .val (.int (0 : Int32))] [(.ref b1)]))
  exact own_retA X1 hx hlk hret rfl rfl (hb hby d1_30) (by rw [e1]; exact ⟨b1, kc1, rfl, N0, sz_b1, K0, V_b1⟩) (by decide) (by decide)
def rmS1Q (Z : State) (aa : Addr) (an : Addr) (ka : ClassId) (kn : ClassId) (x0 : Int32) (x1 : Int32) (x2 : Int32) (x3 : Int32) (y0 : Int32) (y1 : Int32) (y2 : Int32) (y3 : Int32) (h0 : Heap) (n0 : Nat) (v : Option Value) (h : Heap) (L : List Loc) : Prop := ∃ (b : Addr) (kb : ClassId), v = some (.ref b) ∧ Fr n0 L ∧ h0.size ≤ b ∧ Keep h0 h [] ∧ Arv Z h b kb .int (1 : Int32) [(.int (own_pick x0 x1 x2 x3 y0))] (.int (0 : Int32))
set_option maxRecDepth 65536 in
set_option maxHeartbeats 40000000 in
theorem rmS1 (l : Launch) (Z : State) (a0 : Array Value) (hw : ∀ d ∈ tables_1, d.before a0 Z = true) (aa : Addr) (an : Addr) (ka : ClassId) (kn : ClassId) (x0 : Int32) (x1 : Int32) (x2 : Int32) (x3 : Int32) (y0 : Int32) (y1 : Int32) (y2 : Int32) (y3 : Int32) (h0 : Heap) (n0 : Nat) (Z0 : n0 ≤ h0.size) (V_aa : Arv Z h0 aa ka .int (4 : Int32) [(.int x0), (.int x1), (.int x2), (.int x3)] (.int (0 : Int32))) (V_an : Arv Z h0 an kn .int (4 : Int32) [(.int y0), (.int y1), (.int y2), (.int y3)] (.int (0 : Int32))) (r0 : ¬ y0 < (0 : Int32) ∧ y0 < (4 : Int32)) (r1 : ¬ y1 < (0 : Int32) ∧ y1 < (4 : Int32)) (r2 : ¬ y2 < (0 : Int32) ∧ y2 < (4 : Int32)) (r3 : ¬ y3 < (0 : Int32) ∧ y3 < (4 : Int32)) :
    Ct l Z [] (⟨"com/example/mistgraph/mistgraph/core/Connections", "some", "([I[II)[I"⟩ : MethodName) prog_39_method_8_code 5 (some (.array .int)) ({ frames := 0, cells := 1, slots := 1, locals := 0 } : Room) #[(.ref aa), (.ref an), (.int (1 : Int32))] h0 (rmS1Q Z aa an ka kn x0 x1 x2 x3 y0 y1 y2 y3 h0 n0) := by
  refine own_enter (plainFor_of_name pn_1) ?_
  intro p e s m below meth c T0 X0 hx hby hml hZ hown hnm hret hlk e0
  have hown : s.vm.findClass "com/example/mistgraph/mistgraph/core/Connections" = some m.cls := hown
  have N0 := Fr.nil n0
  have K0 := Keep.refl h0 []
  refine own_st (fun wt wk => castTop (g' := mkF m 0 #[.val (.ref aa), .val (.ref an), .val (.int (1 : Int32)), .unset, .unset] []) (by first | (simp [entryFrame, mkF, argsToLocals, Value.category]; done) | rfl) wk) ?_
  show Fin1 p e below s (rmS1Q Z aa an ka kn x0 x1 x2 x3 y0 y1 y2 y3 h0 n0) ({ frames := 0, cells := 1, slots := 1, locals := 0 } : Room).cells ({ frames := 0, cells := 1, slots := 1, locals := 0 } : Room).slots (T0.setTop (mkF m 0 #[.val (.ref aa), .val (.ref an), .val (.int (1 : Int32)), .unset, .unset] []))
  refine own_st (fun wt wk => XS.iloadN X0.here hx rfl (hb hby d1_0) rfl wk) ?_
  show Fin1 p e below s (rmS1Q Z aa an ka kn x0 x1 x2 x3 y0 y1 y2 y3 h0 n0) ({ frames := 0, cells := 1, slots := 1, locals := 0 } : Room).cells ({ frames := 0, cells := 1, slots := 1, locals := 0 } : Room).slots (T0.setTop (mkF m 1 #[.val (.ref aa), .val (.ref an), .val (.int (1 : Int32)), .unset, .unset] [(.int (1 : Int32))]))
  obtain ⟨T1, h1, kc1, X1, e1, E1, A1, st1⟩ := newP X0 hx hZ (hw _ (List.mem_of_getElem? (i := 0) rfl)) e0 (g := (mkF m 1 #[.val (.ref aa), .val (.ref an), .val (.int (1 : Int32)), .unset, .unset] [(.int (1 : Int32))])) rfl (hb hby d1_1) rfl (by decide) (cap := 1) (by decide) (by decide) (by decide) (by decide)
  obtain ⟨b1, gz_b1⟩ : ∃ z, z = h0.size := ⟨_, rfl⟩
  rw [← gz_b1] at A1 st1
  have ne_aa_b1 : aa ≠ b1 := Nat.ne_of_lt (Nat.lt_of_lt_of_le V_aa.lt (Nat.le_of_eq gz_b1.symm))
  have ne_an_b1 : an ≠ b1 := Nat.ne_of_lt (Nat.lt_of_lt_of_le V_an.lt (Nat.le_of_eq gz_b1.symm))
  have sz_b1 : h0.size ≤ b1 := Nat.le_trans K0.1 (Nat.le_of_eq gz_b1.symm)
  have g_b1 : n0 ≤ b1 := Nat.le_trans Z0 (Nat.le_of_eq gz_b1.symm)
  have Z0 := Nat.le_trans Z0 E1.1
  have K0 := K0.ext E1
  have V_aa := V_aa.ext E1
  have V_an := V_an.ext E1
  refine own_st st1 ?_
  have V_b1 : Arv Z h1 b1 kc1 .int (1 : Int32) [(.int (0 : Int32))] (.int (0 : Int32)) := (Arv.new A1 (by decide)).pad (pad_rep [] (.int (0 : Int32)) 1)
  show Fin1 p e below s (rmS1Q Z aa an ka kn x0 x1 x2 x3 y0 y1 y2 y3 h0 n0) ({ frames := 0, cells := 1, slots := 1, locals := 0 } : Room).cells ({ frames := 0, cells := 1, slots := 1, locals := 0 } : Room).slots (T1.setTop (mkF m 3 #[.val (.ref aa), .val (.ref an), .val (.int (1 : Int32)), .unset, .unset] [(.ref b1)]))
  refine own_st (fun wt wk => XS.astoreN X1.here hx rfl (hb hby d1_3) rfl rfl (l' := #[.val (.ref aa), .val (.ref an), .val (.int (1 : Int32)), .val (.ref b1), .unset]) rfl wk) ?_
  show Fin1 p e below s (rmS1Q Z aa an ka kn x0 x1 x2 x3 y0 y1 y2 y3 h0 n0) ({ frames := 0, cells := 1, slots := 1, locals := 0 } : Room).cells ({ frames := 0, cells := 1, slots := 1, locals := 0 } : Room).slots (T1.setTop (mkF m 4 #[.val (.ref aa), .val (.ref an), .val (.int (1 : Int32)), .val (.ref b1), .unset] []))
  refine own_st (fun wt wk => XS.iconst X1.here hx rfl (hb hby d1_4) wk) ?_
  show Fin1 p e below s (rmS1Q Z aa an ka kn x0 x1 x2 x3 y0 y1 y2 y3 h0 n0) ({ frames := 0, cells := 1, slots := 1, locals := 0 } : Room).cells ({ frames := 0, cells := 1, slots := 1, locals := 0 } : Room).slots (T1.setTop (mkF m 5 #[.val (.ref aa), .val (.ref an), .val (.int (1 : Int32)), .val (.ref b1), .unset] [(.int (0 : Int32))]))
  refine own_st (fun wt wk => XS.istore X1.here hx rfl (hb hby d1_5) rfl (l' := #[.val (.ref aa), .val (.ref an), .val (.int (1 : Int32)), .val (.ref b1), .val (.int (0 : Int32))]) rfl wk) ?_
  show Fin1 p e below s (rmS1Q Z aa an ka kn x0 x1 x2 x3 y0 y1 y2 y3 h0 n0) ({ frames := 0, cells := 1, slots := 1, locals := 0 } : Room).cells ({ frames := 0, cells := 1, slots := 1, locals := 0 } : Room).slots (T1.setTop (mkF m 7 #[.val (.ref aa), .val (.ref an), .val (.int (1 : Int32)), .val (.ref b1), .val (.int (0 : Int32))] []))
  refine own_st (fun wt wk => XS.iload X1.here hx rfl (hb hby d1_7) rfl wk) ?_
  show Fin1 p e below s (rmS1Q Z aa an ka kn x0 x1 x2 x3 y0 y1 y2 y3 h0 n0) ({ frames := 0, cells := 1, slots := 1, locals := 0 } : Room).cells ({ frames := 0, cells := 1, slots := 1, locals := 0 } : Room).slots (T1.setTop (mkF m 9 #[.val (.ref aa), .val (.ref an), .val (.int (1 : Int32)), .val (.ref b1), .val (.int (0 : Int32))] [(.int (0 : Int32))]))
  refine own_st (fun wt wk => XS.iloadN X1.here hx rfl (hb hby d1_9) rfl wk) ?_
  show Fin1 p e below s (rmS1Q Z aa an ka kn x0 x1 x2 x3 y0 y1 y2 y3 h0 n0) ({ frames := 0, cells := 1, slots := 1, locals := 0 } : Room).cells ({ frames := 0, cells := 1, slots := 1, locals := 0 } : Room).slots (T1.setTop (mkF m 10 #[.val (.ref aa), .val (.ref an), .val (.int (1 : Int32)), .val (.ref b1), .val (.int (0 : Int32))] [(.int (1 : Int32)), (.int (0 : Int32))]))
  refine own_st (fun wt wk => XS.icmpNo X1.here hx rfl (hb hby d1_10) rfl (tlt (by decide)).2.1 wk) ?_
  show Fin1 p e below s (rmS1Q Z aa an ka kn x0 x1 x2 x3 y0 y1 y2 y3 h0 n0) ({ frames := 0, cells := 1, slots := 1, locals := 0 } : Room).cells ({ frames := 0, cells := 1, slots := 1, locals := 0 } : Room).slots (T1.setTop (mkF m 13 #[.val (.ref aa), .val (.ref an), .val (.int (1 : Int32)), .val (.ref b1), .val (.int (0 : Int32))] []))
  refine own_st (fun wt wk => XS.aloadN X1.here hx rfl (hb hby d1_13) rfl rfl wk) ?_
  show Fin1 p e below s (rmS1Q Z aa an ka kn x0 x1 x2 x3 y0 y1 y2 y3 h0 n0) ({ frames := 0, cells := 1, slots := 1, locals := 0 } : Room).cells ({ frames := 0, cells := 1, slots := 1, locals := 0 } : Room).slots (T1.setTop (mkF m 14 #[.val (.ref aa), .val (.ref an), .val (.int (1 : Int32)), .val (.ref b1), .val (.int (0 : Int32))] [(.ref b1)]))
  refine own_st (fun wt wk => XS.iload X1.here hx rfl (hb hby d1_14) rfl wk) ?_
  show Fin1 p e below s (rmS1Q Z aa an ka kn x0 x1 x2 x3 y0 y1 y2 y3 h0 n0) ({ frames := 0, cells := 1, slots := 1, locals := 0 } : Room).cells ({ frames := 0, cells := 1, slots := 1, locals := 0 } : Room).slots (T1.setTop (mkF m 16 #[.val (.ref aa), .val (.ref an), .val (.int (1 : Int32)), .val (.ref b1), .val (.int (0 : Int32))] [(.int (0 : Int32)), (.ref b1)]))
  refine own_st (fun wt wk => XS.aloadN X1.here hx rfl (hb hby d1_16) rfl rfl wk) ?_
  show Fin1 p e below s (rmS1Q Z aa an ka kn x0 x1 x2 x3 y0 y1 y2 y3 h0 n0) ({ frames := 0, cells := 1, slots := 1, locals := 0 } : Room).cells ({ frames := 0, cells := 1, slots := 1, locals := 0 } : Room).slots (T1.setTop (mkF m 17 #[.val (.ref aa), .val (.ref an), .val (.int (1 : Int32)), .val (.ref b1), .val (.int (0 : Int32))] [(.ref aa), (.int (0 : Int32)), (.ref b1)]))
  refine own_st (fun wt wk => XS.aloadN X1.here hx rfl (hb hby d1_17) rfl rfl wk) ?_
  show Fin1 p e below s (rmS1Q Z aa an ka kn x0 x1 x2 x3 y0 y1 y2 y3 h0 n0) ({ frames := 0, cells := 1, slots := 1, locals := 0 } : Room).cells ({ frames := 0, cells := 1, slots := 1, locals := 0 } : Room).slots (T1.setTop (mkF m 18 #[.val (.ref aa), .val (.ref an), .val (.int (1 : Int32)), .val (.ref b1), .val (.int (0 : Int32))] [(.ref an), (.ref aa), (.int (0 : Int32)), (.ref b1)]))
  refine own_st (fun wt wk => XS.iload X1.here hx rfl (hb hby d1_18) rfl wk) ?_
  show Fin1 p e below s (rmS1Q Z aa an ka kn x0 x1 x2 x3 y0 y1 y2 y3 h0 n0) ({ frames := 0, cells := 1, slots := 1, locals := 0 } : Room).cells ({ frames := 0, cells := 1, slots := 1, locals := 0 } : Room).slots (T1.setTop (mkF m 20 #[.val (.ref aa), .val (.ref an), .val (.int (1 : Int32)), .val (.ref b1), .val (.int (0 : Int32))] [(.int (0 : Int32)), (.ref an), (.ref aa), (.int (0 : Int32)), (.ref b1)]))
  refine own_st (own_ld (j := (0 : Int32)) (v := (.int y0)) X1 hx hZ e1 V_an ⟨by decide, by decide⟩ rfl (g := (mkF m 20 #[.val (.ref aa), .val (.ref an), .val (.int (1 : Int32)), .val (.ref b1), .val (.int (0 : Int32))] [(.int (0 : Int32)), (.ref an), (.ref aa), (.int (0 : Int32)), (.ref b1)])) rfl rfl (Or.inl ⟨rfl, rfl⟩) (hb hby d1_20)) ?_
  show Fin1 p e below s (rmS1Q Z aa an ka kn x0 x1 x2 x3 y0 y1 y2 y3 h0 n0) ({ frames := 0, cells := 1, slots := 1, locals := 0 } : Room).cells ({ frames := 0, cells := 1, slots := 1, locals := 0 } : Room).slots (T1.setTop (mkF m 21 #[.val (.ref aa), .val (.ref an), .val (.int (1 : Int32)), .val (.ref b1), .val (.int (0 : Int32))] [(.int y0), (.ref aa), (.int (0 : Int32)), (.ref b1)]))
  refine own_st (own_ld (j := y0) (v := (.int (own_pick x0 x1 x2 x3 y0))) X1 hx hZ e1 V_aa r0 (own_get _ _ _ _ _ r0) (g := (mkF m 21 #[.val (.ref aa), .val (.ref an), .val (.int (1 : Int32)), .val (.ref b1), .val (.int (0 : Int32))] [(.int y0), (.ref aa), (.int (0 : Int32)), (.ref b1)])) rfl rfl (Or.inl ⟨rfl, rfl⟩) (hb hby d1_21)) ?_
  show Fin1 p e below s (rmS1Q Z aa an ka kn x0 x1 x2 x3 y0 y1 y2 y3 h0 n0) ({ frames := 0, cells := 1, slots := 1, locals := 0 } : Room).cells ({ frames := 0, cells := 1, slots := 1, locals := 0 } : Room).slots (T1.setTop (mkF m 22 #[.val (.ref aa), .val (.ref an), .val (.int (1 : Int32)), .val (.ref b1), .val (.int (0 : Int32))] [(.int (own_pick x0 x1 x2 x3 y0)), (.int (0 : Int32)), (.ref b1)]))
  obtain ⟨T2, h2, X2, e2, W2, U2, st2⟩ := own_stI (j := (0 : Int32)) X1 hx hZ e1 V_b1 ⟨by decide, by decide⟩ 0 rfl (by simp) (g := (mkF m 22 #[.val (.ref aa), .val (.ref an), .val (.int (1 : Int32)), .val (.ref b1), .val (.int (0 : Int32))] [(.int (own_pick x0 x1 x2 x3 y0)), (.int (0 : Int32)), (.ref b1)])) rfl rfl (hb hby d1_22)
  have N2 := Fr.snoc X2 N0 g_b1
  have Z0 := Nat.le_trans Z0 (Nat.le_of_eq W2.size.symm)
  have K0 := K0.wr W2 (Or.inr sz_b1)
  have V_aa := V_aa.other W2 ne_aa_b1
  have V_an := V_an.other W2 ne_an_b1
  have V_b1 : Arv Z h2 b1 kc1 .int (1 : Int32) [(.int (own_pick x0 x1 x2 x3 y0))] (.int (0 : Int32)) := U2
  refine own_st st2 ?_
  show Fin1 p e below s (rmS1Q Z aa an ka kn x0 x1 x2 x3 y0 y1 y2 y3 h0 n0) ({ frames := 0, cells := 1, slots := 1, locals := 0 } : Room).cells ({ frames := 0, cells := 1, slots := 1, locals := 0 } : Room).slots (T2.setTop (mkF m 23 #[.val (.ref aa), .val (.ref an), .val (.int (1 : Int32)), .val (.ref b1), .val (.int (0 : Int32))] []))
  refine own_st (fun wt wk => XS.iinc X2.here hx rfl (hb hby d1_23) rfl (l' := #[.val (.ref aa), .val (.ref an), .val (.int (1 : Int32)), .val (.ref b1), .val (.int (1 : Int32))]) rfl wk) ?_
  show Fin1 p e below s (rmS1Q Z aa an ka kn x0 x1 x2 x3 y0 y1 y2 y3 h0 n0) ({ frames := 0, cells := 1, slots := 1, locals := 0 } : Room).cells ({ frames := 0, cells := 1, slots := 1, locals := 0 } : Room).slots (T2.setTop (mkF m 26 #[.val (.ref aa), .val (.ref an), .val (.int (1 : Int32)), .val (.ref b1), .val (.int (1 : Int32))] []))
  refine own_st (fun wt wk => XS.goto X2.here hx rfl (pc0 := 26) (pc' := 7) rfl (hb hby d1_26) (by decide) (by decide) wk) ?_
  show Fin1 p e below s (rmS1Q Z aa an ka kn x0 x1 x2 x3 y0 y1 y2 y3 h0 n0) ({ frames := 0, cells := 1, slots := 1, locals := 0 } : Room).cells ({ frames := 0, cells := 1, slots := 1, locals := 0 } : Room).slots (T2.setTop (mkF m 7 #[.val (.ref aa), .val (.ref an), .val (.int (1 : Int32)), .val (.ref b1), .val (.int (1 : Int32))] []))
  refine own_st (fun wt wk => XS.iload X2.here hx rfl (hb hby d1_7) rfl wk) ?_
  show Fin1 p e below s (rmS1Q Z aa an ka kn x0 x1 x2 x3 y0 y1 y2 y3 h0 n0) ({ frames := 0, cells := 1, slots := 1, locals := 0 } : Room).cells ({ frames := 0, cells := 1, slots := 1, locals := 0 } : Room).slots (T2.setTop (mkF m 9 #[.val (.ref aa), .val (.ref an), .val (.int (1 : Int32)), .val (.ref b1), .val (.int (1 : Int32))] [(.int (1 : Int32))]))
  refine own_st (fun wt wk => XS.iloadN X2.here hx rfl (hb hby d1_9) rfl wk) ?_
  show Fin1 p e below s (rmS1Q Z aa an ka kn x0 x1 x2 x3 y0 y1 y2 y3 h0 n0) ({ frames := 0, cells := 1, slots := 1, locals := 0 } : Room).cells ({ frames := 0, cells := 1, slots := 1, locals := 0 } : Room).slots (T2.setTop (mkF m 10 #[.val (.ref aa), .val (.ref an), .val (.int (1 : Int32)), .val (.ref b1), .val (.int (1 : Int32))] [(.int (1 : Int32)), (.int (1 : Int32))]))
  refine own_st (fun wt wk => XS.icmpYes X2.here hx rfl (pc0 := 10) (pc' := 29) rfl (hb hby d1_10) rfl (flt (by decide)).2.1 (by decide) (by decide) wk) ?_
  show Fin1 p e below s (rmS1Q Z aa an ka kn x0 x1 x2 x3 y0 y1 y2 y3 h0 n0) ({ frames := 0, cells := 1, slots := 1, locals := 0 } : Room).cells ({ frames := 0, cells := 1, slots := 1, locals := 0 } : Room).slots (T2.setTop (mkF m 29 #[.val (.ref aa), .val (.ref an), .val (.int (1 : Int32)), .val (.ref b1), .val (.int (1 : Int32))] []))
  refine own_st (fun wt wk => XS.aloadN X2.here hx rfl (hb hby d1_29) rfl rfl wk) ?_
  show Fin1 p e below s (rmS1Q Z aa an ka kn x0 x1 x2 x3 y0 y1 y2 y3 h0 n0) ({ frames := 0, cells := 1, slots := 1, locals := 0 } : Room).cells ({ frames := 0, cells := 1, slots := 1, locals := 0 } : Room).slots (T2.setTop (mkF m 30 #[.val (.ref aa), .val (.ref an), .val (.int (1 : Int32)), .val (.ref b1), .val (.int (1 : Int32))] [(.ref b1)]))
  exact own_retA X2 hx hlk hret rfl rfl (hb hby d1_30) (by rw [e2]; exact ⟨b1, kc1, rfl, N2, sz_b1, K0, V_b1⟩) (by decide) (by decide)
def rmS2Q (Z : State) (aa : Addr) (an : Addr) (ka : ClassId) (kn : ClassId) (x0 : Int32) (x1 : Int32) (x2 : Int32) (x3 : Int32) (y0 : Int32) (y1 : Int32) (y2 : Int32) (y3 : Int32) (h0 : Heap) (n0 : Nat) (v : Option Value) (h : Heap) (L : List Loc) : Prop := ∃ (b : Addr) (kb : ClassId), v = some (.ref b) ∧ Fr n0 L ∧ h0.size ≤ b ∧ Keep h0 h [] ∧ Arv Z h b kb .int (2 : Int32) [(.int (own_pick x0 x1 x2 x3 y0)), (.int (own_pick x0 x1 x2 x3 y1))] (.int (0 : Int32))
set_option maxRecDepth 65536 in
set_option maxHeartbeats 40000000 in
theorem rmS2 (l : Launch) (Z : State) (a0 : Array Value) (hw : ∀ d ∈ tables_1, d.before a0 Z = true) (aa : Addr) (an : Addr) (ka : ClassId) (kn : ClassId) (x0 : Int32) (x1 : Int32) (x2 : Int32) (x3 : Int32) (y0 : Int32) (y1 : Int32) (y2 : Int32) (y3 : Int32) (h0 : Heap) (n0 : Nat) (Z0 : n0 ≤ h0.size) (V_aa : Arv Z h0 aa ka .int (4 : Int32) [(.int x0), (.int x1), (.int x2), (.int x3)] (.int (0 : Int32))) (V_an : Arv Z h0 an kn .int (4 : Int32) [(.int y0), (.int y1), (.int y2), (.int y3)] (.int (0 : Int32))) (r0 : ¬ y0 < (0 : Int32) ∧ y0 < (4 : Int32)) (r1 : ¬ y1 < (0 : Int32) ∧ y1 < (4 : Int32)) (r2 : ¬ y2 < (0 : Int32) ∧ y2 < (4 : Int32)) (r3 : ¬ y3 < (0 : Int32) ∧ y3 < (4 : Int32)) :
    Ct l Z [] (⟨"com/example/mistgraph/mistgraph/core/Connections", "some", "([I[II)[I"⟩ : MethodName) prog_39_method_8_code 5 (some (.array .int)) ({ frames := 0, cells := 1, slots := 2, locals := 0 } : Room) #[(.ref aa), (.ref an), (.int (2 : Int32))] h0 (rmS2Q Z aa an ka kn x0 x1 x2 x3 y0 y1 y2 y3 h0 n0) := by
  refine own_enter (plainFor_of_name pn_1) ?_
  intro p e s m below meth c T0 X0 hx hby hml hZ hown hnm hret hlk e0
  have hown : s.vm.findClass "com/example/mistgraph/mistgraph/core/Connections" = some m.cls := hown
  have N0 := Fr.nil n0
  have K0 := Keep.refl h0 []
  refine own_st (fun wt wk => castTop (g' := mkF m 0 #[.val (.ref aa), .val (.ref an), .val (.int (2 : Int32)), .unset, .unset] []) (by first | (simp [entryFrame, mkF, argsToLocals, Value.category]; done) | rfl) wk) ?_
  show Fin1 p e below s (rmS2Q Z aa an ka kn x0 x1 x2 x3 y0 y1 y2 y3 h0 n0) ({ frames := 0, cells := 1, slots := 2, locals := 0 } : Room).cells ({ frames := 0, cells := 1, slots := 2, locals := 0 } : Room).slots (T0.setTop (mkF m 0 #[.val (.ref aa), .val (.ref an), .val (.int (2 : Int32)), .unset, .unset] []))
  refine own_st (fun wt wk => XS.iloadN X0.here hx rfl (hb hby d1_0) rfl wk) ?_
  show Fin1 p e below s (rmS2Q Z aa an ka kn x0 x1 x2 x3 y0 y1 y2 y3 h0 n0) ({ frames := 0, cells := 1, slots := 2, locals := 0 } : Room).cells ({ frames := 0, cells := 1, slots := 2, locals := 0 } : Room).slots (T0.setTop (mkF m 1 #[.val (.ref aa), .val (.ref an), .val (.int (2 : Int32)), .unset, .unset] [(.int (2 : Int32))]))
  obtain ⟨T1, h1, kc1, X1, e1, E1, A1, st1⟩ := newP X0 hx hZ (hw _ (List.mem_of_getElem? (i := 0) rfl)) e0 (g := (mkF m 1 #[.val (.ref aa), .val (.ref an), .val (.int (2 : Int32)), .unset, .unset] [(.int (2 : Int32))])) rfl (hb hby d1_1) rfl (by decide) (cap := 2) (by decide) (by decide) (by decide) (by decide)
  obtain ⟨b1, gz_b1⟩ : ∃ z, z = h0.size := ⟨_, rfl⟩
  rw [← gz_b1] at A1 st1
  have ne_aa_b1 : aa ≠ b1 := Nat.ne_of_lt (Nat.lt_of_lt_of_le V_aa.lt (Nat.le_of_eq gz_b1.symm))
  have ne_an_b1 : an ≠ b1 := Nat.ne_of_lt (Nat.lt_of_lt_of_le V_an.lt (Nat.le_of_eq gz_b1.symm))
  have sz_b1 : h0.size ≤ b1 := Nat.le_trans K0.1 (Nat.le_of_eq gz_b1.symm)
  have g_b1 : n0 ≤ b1 := Nat.le_trans Z0 (Nat.le_of_eq gz_b1.symm)
  have Z0 := Nat.le_trans Z0 E1.1
  have K0 := K0.ext E1
  have V_aa := V_aa.ext E1
  have V_an := V_an.ext E1
  refine own_st st1 ?_
  have V_b1 : Arv Z h1 b1 kc1 .int (2 : Int32) [(.int (0 : Int32)), (.int (0 : Int32))] (.int (0 : Int32)) := (Arv.new A1 (by decide)).pad (pad_rep [] (.int (0 : Int32)) 2)
  show Fin1 p e below s (rmS2Q Z aa an ka kn x0 x1 x2 x3 y0 y1 y2 y3 h0 n0) ({ frames := 0, cells := 1, slots := 2, locals := 0 } : Room).cells ({ frames := 0, cells := 1, slots := 2, locals := 0 } : Room).slots (T1.setTop (mkF m 3 #[.val (.ref aa), .val (.ref an), .val (.int (2 : Int32)), .unset, .unset] [(.ref b1)]))
  refine own_st (fun wt wk => XS.astoreN X1.here hx rfl (hb hby d1_3) rfl rfl (l' := #[.val (.ref aa), .val (.ref an), .val (.int (2 : Int32)), .val (.ref b1), .unset]) rfl wk) ?_
  show Fin1 p e below s (rmS2Q Z aa an ka kn x0 x1 x2 x3 y0 y1 y2 y3 h0 n0) ({ frames := 0, cells := 1, slots := 2, locals := 0 } : Room).cells ({ frames := 0, cells := 1, slots := 2, locals := 0 } : Room).slots (T1.setTop (mkF m 4 #[.val (.ref aa), .val (.ref an), .val (.int (2 : Int32)), .val (.ref b1), .unset] []))
  refine own_st (fun wt wk => XS.iconst X1.here hx rfl (hb hby d1_4) wk) ?_
  show Fin1 p e below s (rmS2Q Z aa an ka kn x0 x1 x2 x3 y0 y1 y2 y3 h0 n0) ({ frames := 0, cells := 1, slots := 2, locals := 0 } : Room).cells ({ frames := 0, cells := 1, slots := 2, locals := 0 } : Room).slots (T1.setTop (mkF m 5 #[.val (.ref aa), .val (.ref an), .val (.int (2 : Int32)), .val (.ref b1), .unset] [(.int (0 : Int32))]))
  refine own_st (fun wt wk => XS.istore X1.here hx rfl (hb hby d1_5) rfl (l' := #[.val (.ref aa), .val (.ref an), .val (.int (2 : Int32)), .val (.ref b1), .val (.int (0 : Int32))]) rfl wk) ?_
  show Fin1 p e below s (rmS2Q Z aa an ka kn x0 x1 x2 x3 y0 y1 y2 y3 h0 n0) ({ frames := 0, cells := 1, slots := 2, locals := 0 } : Room).cells ({ frames := 0, cells := 1, slots := 2, locals := 0 } : Room).slots (T1.setTop (mkF m 7 #[.val (.ref aa), .val (.ref an), .val (.int (2 : Int32)), .val (.ref b1), .val (.int (0 : Int32))] []))
  refine own_st (fun wt wk => XS.iload X1.here hx rfl (hb hby d1_7) rfl wk) ?_
  show Fin1 p e below s (rmS2Q Z aa an ka kn x0 x1 x2 x3 y0 y1 y2 y3 h0 n0) ({ frames := 0, cells := 1, slots := 2, locals := 0 } : Room).cells ({ frames := 0, cells := 1, slots := 2, locals := 0 } : Room).slots (T1.setTop (mkF m 9 #[.val (.ref aa), .val (.ref an), .val (.int (2 : Int32)), .val (.ref b1), .val (.int (0 : Int32))] [(.int (0 : Int32))]))
  refine own_st (fun wt wk => XS.iloadN X1.here hx rfl (hb hby d1_9) rfl wk) ?_
  show Fin1 p e below s (rmS2Q Z aa an ka kn x0 x1 x2 x3 y0 y1 y2 y3 h0 n0) ({ frames := 0, cells := 1, slots := 2, locals := 0 } : Room).cells ({ frames := 0, cells := 1, slots := 2, locals := 0 } : Room).slots (T1.setTop (mkF m 10 #[.val (.ref aa), .val (.ref an), .val (.int (2 : Int32)), .val (.ref b1), .val (.int (0 : Int32))] [(.int (2 : Int32)), (.int (0 : Int32))]))
  refine own_st (fun wt wk => XS.icmpNo X1.here hx rfl (hb hby d1_10) rfl (tlt (by decide)).2.1 wk) ?_
  show Fin1 p e below s (rmS2Q Z aa an ka kn x0 x1 x2 x3 y0 y1 y2 y3 h0 n0) ({ frames := 0, cells := 1, slots := 2, locals := 0 } : Room).cells ({ frames := 0, cells := 1, slots := 2, locals := 0 } : Room).slots (T1.setTop (mkF m 13 #[.val (.ref aa), .val (.ref an), .val (.int (2 : Int32)), .val (.ref b1), .val (.int (0 : Int32))] []))
  refine own_st (fun wt wk => XS.aloadN X1.here hx rfl (hb hby d1_13) rfl rfl wk) ?_
  show Fin1 p e below s (rmS2Q Z aa an ka kn x0 x1 x2 x3 y0 y1 y2 y3 h0 n0) ({ frames := 0, cells := 1, slots := 2, locals := 0 } : Room).cells ({ frames := 0, cells := 1, slots := 2, locals := 0 } : Room).slots (T1.setTop (mkF m 14 #[.val (.ref aa), .val (.ref an), .val (.int (2 : Int32)), .val (.ref b1), .val (.int (0 : Int32))] [(.ref b1)]))
  refine own_st (fun wt wk => XS.iload X1.here hx rfl (hb hby d1_14) rfl wk) ?_
  show Fin1 p e below s (rmS2Q Z aa an ka kn x0 x1 x2 x3 y0 y1 y2 y3 h0 n0) ({ frames := 0, cells := 1, slots := 2, locals := 0 } : Room).cells ({ frames := 0, cells := 1, slots := 2, locals := 0 } : Room).slots (T1.setTop (mkF m 16 #[.val (.ref aa), .val (.ref an), .val (.int (2 : Int32)), .val (.ref b1), .val (.int (0 : Int32))] [(.int (0 : Int32)), (.ref b1)]))
  refine own_st (fun wt wk => XS.aloadN X1.here hx rfl (hb hby d1_16) rfl rfl wk) ?_
  show Fin1 p e below s (rmS2Q Z aa an ka kn x0 x1 x2 x3 y0 y1 y2 y3 h0 n0) ({ frames := 0, cells := 1, slots := 2, locals := 0 } : Room).cells ({ frames := 0, cells := 1, slots := 2, locals := 0 } : Room).slots (T1.setTop (mkF m 17 #[.val (.ref aa), .val (.ref an), .val (.int (2 : Int32)), .val (.ref b1), .val (.int (0 : Int32))] [(.ref aa), (.int (0 : Int32)), (.ref b1)]))
  refine own_st (fun wt wk => XS.aloadN X1.here hx rfl (hb hby d1_17) rfl rfl wk) ?_
  show Fin1 p e below s (rmS2Q Z aa an ka kn x0 x1 x2 x3 y0 y1 y2 y3 h0 n0) ({ frames := 0, cells := 1, slots := 2, locals := 0 } : Room).cells ({ frames := 0, cells := 1, slots := 2, locals := 0 } : Room).slots (T1.setTop (mkF m 18 #[.val (.ref aa), .val (.ref an), .val (.int (2 : Int32)), .val (.ref b1), .val (.int (0 : Int32))] [(.ref an), (.ref aa), (.int (0 : Int32)), (.ref b1)]))
  refine own_st (fun wt wk => XS.iload X1.here hx rfl (hb hby d1_18) rfl wk) ?_
  show Fin1 p e below s (rmS2Q Z aa an ka kn x0 x1 x2 x3 y0 y1 y2 y3 h0 n0) ({ frames := 0, cells := 1, slots := 2, locals := 0 } : Room).cells ({ frames := 0, cells := 1, slots := 2, locals := 0 } : Room).slots (T1.setTop (mkF m 20 #[.val (.ref aa), .val (.ref an), .val (.int (2 : Int32)), .val (.ref b1), .val (.int (0 : Int32))] [(.int (0 : Int32)), (.ref an), (.ref aa), (.int (0 : Int32)), (.ref b1)]))
  refine own_st (own_ld (j := (0 : Int32)) (v := (.int y0)) X1 hx hZ e1 V_an ⟨by decide, by decide⟩ rfl (g := (mkF m 20 #[.val (.ref aa), .val (.ref an), .val (.int (2 : Int32)), .val (.ref b1), .val (.int (0 : Int32))] [(.int (0 : Int32)), (.ref an), (.ref aa), (.int (0 : Int32)), (.ref b1)])) rfl rfl (Or.inl ⟨rfl, rfl⟩) (hb hby d1_20)) ?_
  show Fin1 p e below s (rmS2Q Z aa an ka kn x0 x1 x2 x3 y0 y1 y2 y3 h0 n0) ({ frames := 0, cells := 1, slots := 2, locals := 0 } : Room).cells ({ frames := 0, cells := 1, slots := 2, locals := 0 } : Room).slots (T1.setTop (mkF m 21 #[.val (.ref aa), .val (.ref an), .val (.int (2 : Int32)), .val (.ref b1), .val (.int (0 : Int32))] [(.int y0), (.ref aa), (.int (0 : Int32)), (.ref b1)]))
  refine own_st (own_ld (j := y0) (v := (.int (own_pick x0 x1 x2 x3 y0))) X1 hx hZ e1 V_aa r0 (own_get _ _ _ _ _ r0) (g := (mkF m 21 #[.val (.ref aa), .val (.ref an), .val (.int (2 : Int32)), .val (.ref b1), .val (.int (0 : Int32))] [(.int y0), (.ref aa), (.int (0 : Int32)), (.ref b1)])) rfl rfl (Or.inl ⟨rfl, rfl⟩) (hb hby d1_21)) ?_
  show Fin1 p e below s (rmS2Q Z aa an ka kn x0 x1 x2 x3 y0 y1 y2 y3 h0 n0) ({ frames := 0, cells := 1, slots := 2, locals := 0 } : Room).cells ({ frames := 0, cells := 1, slots := 2, locals := 0 } : Room).slots (T1.setTop (mkF m 22 #[.val (.ref aa), .val (.ref an), .val (.int (2 : Int32)), .val (.ref b1), .val (.int (0 : Int32))] [(.int (own_pick x0 x1 x2 x3 y0)), (.int (0 : Int32)), (.ref b1)]))
  obtain ⟨T2, h2, X2, e2, W2, U2, st2⟩ := own_stI (j := (0 : Int32)) X1 hx hZ e1 V_b1 ⟨by decide, by decide⟩ 0 rfl (by simp) (g := (mkF m 22 #[.val (.ref aa), .val (.ref an), .val (.int (2 : Int32)), .val (.ref b1), .val (.int (0 : Int32))] [(.int (own_pick x0 x1 x2 x3 y0)), (.int (0 : Int32)), (.ref b1)])) rfl rfl (hb hby d1_22)
  have N2 := Fr.snoc X2 N0 g_b1
  have Z0 := Nat.le_trans Z0 (Nat.le_of_eq W2.size.symm)
  have K0 := K0.wr W2 (Or.inr sz_b1)
  have V_aa := V_aa.other W2 ne_aa_b1
  have V_an := V_an.other W2 ne_an_b1
  have V_b1 : Arv Z h2 b1 kc1 .int (2 : Int32) [(.int (own_pick x0 x1 x2 x3 y0)), (.int (0 : Int32))] (.int (0 : Int32)) := U2
  refine own_st st2 ?_
  show Fin1 p e below s (rmS2Q Z aa an ka kn x0 x1 x2 x3 y0 y1 y2 y3 h0 n0) ({ frames := 0, cells := 1, slots := 2, locals := 0 } : Room).cells ({ frames := 0, cells := 1, slots := 2, locals := 0 } : Room).slots (T2.setTop (mkF m 23 #[.val (.ref aa), .val (.ref an), .val (.int (2 : Int32)), .val (.ref b1), .val (.int (0 : Int32))] []))
  refine own_st (fun wt wk => XS.iinc X2.here hx rfl (hb hby d1_23) rfl (l' := #[.val (.ref aa), .val (.ref an), .val (.int (2 : Int32)), .val (.ref b1), .val (.int (1 : Int32))]) rfl wk) ?_
  show Fin1 p e below s (rmS2Q Z aa an ka kn x0 x1 x2 x3 y0 y1 y2 y3 h0 n0) ({ frames := 0, cells := 1, slots := 2, locals := 0 } : Room).cells ({ frames := 0, cells := 1, slots := 2, locals := 0 } : Room).slots (T2.setTop (mkF m 26 #[.val (.ref aa), .val (.ref an), .val (.int (2 : Int32)), .val (.ref b1), .val (.int (1 : Int32))] []))
  refine own_st (fun wt wk => XS.goto X2.here hx rfl (pc0 := 26) (pc' := 7) rfl (hb hby d1_26) (by decide) (by decide) wk) ?_
  show Fin1 p e below s (rmS2Q Z aa an ka kn x0 x1 x2 x3 y0 y1 y2 y3 h0 n0) ({ frames := 0, cells := 1, slots := 2, locals := 0 } : Room).cells ({ frames := 0, cells := 1, slots := 2, locals := 0 } : Room).slots (T2.setTop (mkF m 7 #[.val (.ref aa), .val (.ref an), .val (.int (2 : Int32)), .val (.ref b1), .val (.int (1 : Int32))] []))
  refine own_st (fun wt wk => XS.iload X2.here hx rfl (hb hby d1_7) rfl wk) ?_
  show Fin1 p e below s (rmS2Q Z aa an ka kn x0 x1 x2 x3 y0 y1 y2 y3 h0 n0) ({ frames := 0, cells := 1, slots := 2, locals := 0 } : Room).cells ({ frames := 0, cells := 1, slots := 2, locals := 0 } : Room).slots (T2.setTop (mkF m 9 #[.val (.ref aa), .val (.ref an), .val (.int (2 : Int32)), .val (.ref b1), .val (.int (1 : Int32))] [(.int (1 : Int32))]))
  refine own_st (fun wt wk => XS.iloadN X2.here hx rfl (hb hby d1_9) rfl wk) ?_
  show Fin1 p e below s (rmS2Q Z aa an ka kn x0 x1 x2 x3 y0 y1 y2 y3 h0 n0) ({ frames := 0, cells := 1, slots := 2, locals := 0 } : Room).cells ({ frames := 0, cells := 1, slots := 2, locals := 0 } : Room).slots (T2.setTop (mkF m 10 #[.val (.ref aa), .val (.ref an), .val (.int (2 : Int32)), .val (.ref b1), .val (.int (1 : Int32))] [(.int (2 : Int32)), (.int (1 : Int32))]))
  refine own_st (fun wt wk => XS.icmpNo X2.here hx rfl (hb hby d1_10) rfl (tlt (by decide)).2.1 wk) ?_
  show Fin1 p e below s (rmS2Q Z aa an ka kn x0 x1 x2 x3 y0 y1 y2 y3 h0 n0) ({ frames := 0, cells := 1, slots := 2, locals := 0 } : Room).cells ({ frames := 0, cells := 1, slots := 2, locals := 0 } : Room).slots (T2.setTop (mkF m 13 #[.val (.ref aa), .val (.ref an), .val (.int (2 : Int32)), .val (.ref b1), .val (.int (1 : Int32))] []))
  refine own_st (fun wt wk => XS.aloadN X2.here hx rfl (hb hby d1_13) rfl rfl wk) ?_
  show Fin1 p e below s (rmS2Q Z aa an ka kn x0 x1 x2 x3 y0 y1 y2 y3 h0 n0) ({ frames := 0, cells := 1, slots := 2, locals := 0 } : Room).cells ({ frames := 0, cells := 1, slots := 2, locals := 0 } : Room).slots (T2.setTop (mkF m 14 #[.val (.ref aa), .val (.ref an), .val (.int (2 : Int32)), .val (.ref b1), .val (.int (1 : Int32))] [(.ref b1)]))
  refine own_st (fun wt wk => XS.iload X2.here hx rfl (hb hby d1_14) rfl wk) ?_
  show Fin1 p e below s (rmS2Q Z aa an ka kn x0 x1 x2 x3 y0 y1 y2 y3 h0 n0) ({ frames := 0, cells := 1, slots := 2, locals := 0 } : Room).cells ({ frames := 0, cells := 1, slots := 2, locals := 0 } : Room).slots (T2.setTop (mkF m 16 #[.val (.ref aa), .val (.ref an), .val (.int (2 : Int32)), .val (.ref b1), .val (.int (1 : Int32))] [(.int (1 : Int32)), (.ref b1)]))
  refine own_st (fun wt wk => XS.aloadN X2.here hx rfl (hb hby d1_16) rfl rfl wk) ?_
  show Fin1 p e below s (rmS2Q Z aa an ka kn x0 x1 x2 x3 y0 y1 y2 y3 h0 n0) ({ frames := 0, cells := 1, slots := 2, locals := 0 } : Room).cells ({ frames := 0, cells := 1, slots := 2, locals := 0 } : Room).slots (T2.setTop (mkF m 17 #[.val (.ref aa), .val (.ref an), .val (.int (2 : Int32)), .val (.ref b1), .val (.int (1 : Int32))] [(.ref aa), (.int (1 : Int32)), (.ref b1)]))
  refine own_st (fun wt wk => XS.aloadN X2.here hx rfl (hb hby d1_17) rfl rfl wk) ?_
  show Fin1 p e below s (rmS2Q Z aa an ka kn x0 x1 x2 x3 y0 y1 y2 y3 h0 n0) ({ frames := 0, cells := 1, slots := 2, locals := 0 } : Room).cells ({ frames := 0, cells := 1, slots := 2, locals := 0 } : Room).slots (T2.setTop (mkF m 18 #[.val (.ref aa), .val (.ref an), .val (.int (2 : Int32)), .val (.ref b1), .val (.int (1 : Int32))] [(.ref an), (.ref aa), (.int (1 : Int32)), (.ref b1)]))
  refine own_st (fun wt wk => XS.iload X2.here hx rfl (hb hby d1_18) rfl wk) ?_
  show Fin1 p e below s (rmS2Q Z aa an ka kn x0 x1 x2 x3 y0 y1 y2 y3 h0 n0) ({ frames := 0, cells := 1, slots := 2, locals := 0 } : Room).cells ({ frames := 0, cells := 1, slots := 2, locals := 0 } : Room).slots (T2.setTop (mkF m 20 #[.val (.ref aa), .val (.ref an), .val (.int (2 : Int32)), .val (.ref b1), .val (.int (1 : Int32))] [(.int (1 : Int32)), (.ref an), (.ref aa), (.int (1 : Int32)), (.ref b1)]))
  refine own_st (own_ld (j := (1 : Int32)) (v := (.int y1)) X2 hx hZ e2 V_an ⟨by decide, by decide⟩ rfl (g := (mkF m 20 #[.val (.ref aa), .val (.ref an), .val (.int (2 : Int32)), .val (.ref b1), .val (.int (1 : Int32))] [(.int (1 : Int32)), (.ref an), (.ref aa), (.int (1 : Int32)), (.ref b1)])) rfl rfl (Or.inl ⟨rfl, rfl⟩) (hb hby d1_20)) ?_
  show Fin1 p e below s (rmS2Q Z aa an ka kn x0 x1 x2 x3 y0 y1 y2 y3 h0 n0) ({ frames := 0, cells := 1, slots := 2, locals := 0 } : Room).cells ({ frames := 0, cells := 1, slots := 2, locals := 0 } : Room).slots (T2.setTop (mkF m 21 #[.val (.ref aa), .val (.ref an), .val (.int (2 : Int32)), .val (.ref b1), .val (.int (1 : Int32))] [(.int y1), (.ref aa), (.int (1 : Int32)), (.ref b1)]))
  refine own_st (own_ld (j := y1) (v := (.int (own_pick x0 x1 x2 x3 y1))) X2 hx hZ e2 V_aa r1 (own_get _ _ _ _ _ r1) (g := (mkF m 21 #[.val (.ref aa), .val (.ref an), .val (.int (2 : Int32)), .val (.ref b1), .val (.int (1 : Int32))] [(.int y1), (.ref aa), (.int (1 : Int32)), (.ref b1)])) rfl rfl (Or.inl ⟨rfl, rfl⟩) (hb hby d1_21)) ?_
  show Fin1 p e below s (rmS2Q Z aa an ka kn x0 x1 x2 x3 y0 y1 y2 y3 h0 n0) ({ frames := 0, cells := 1, slots := 2, locals := 0 } : Room).cells ({ frames := 0, cells := 1, slots := 2, locals := 0 } : Room).slots (T2.setTop (mkF m 22 #[.val (.ref aa), .val (.ref an), .val (.int (2 : Int32)), .val (.ref b1), .val (.int (1 : Int32))] [(.int (own_pick x0 x1 x2 x3 y1)), (.int (1 : Int32)), (.ref b1)]))
  obtain ⟨T3, h3, X3, e3, W3, U3, st3⟩ := own_stI (j := (1 : Int32)) X2 hx hZ e2 V_b1 ⟨by decide, by decide⟩ 1 rfl (by simp) (g := (mkF m 22 #[.val (.ref aa), .val (.ref an), .val (.int (2 : Int32)), .val (.ref b1), .val (.int (1 : Int32))] [(.int (own_pick x0 x1 x2 x3 y1)), (.int (1 : Int32)), (.ref b1)])) rfl rfl (hb hby d1_22)
  have N3 := Fr.snoc X3 N2 g_b1
  have Z0 := Nat.le_trans Z0 (Nat.le_of_eq W3.size.symm)
  have K0 := K0.wr W3 (Or.inr sz_b1)
  have V_aa := V_aa.other W3 ne_aa_b1
  have V_an := V_an.other W3 ne_an_b1
  have V_b1 : Arv Z h3 b1 kc1 .int (2 : Int32) [(.int (own_pick x0 x1 x2 x3 y0)), (.int (own_pick x0 x1 x2 x3 y1))] (.int (0 : Int32)) := U3
  refine own_st st3 ?_
  show Fin1 p e below s (rmS2Q Z aa an ka kn x0 x1 x2 x3 y0 y1 y2 y3 h0 n0) ({ frames := 0, cells := 1, slots := 2, locals := 0 } : Room).cells ({ frames := 0, cells := 1, slots := 2, locals := 0 } : Room).slots (T3.setTop (mkF m 23 #[.val (.ref aa), .val (.ref an), .val (.int (2 : Int32)), .val (.ref b1), .val (.int (1 : Int32))] []))
  refine own_st (fun wt wk => XS.iinc X3.here hx rfl (hb hby d1_23) rfl (l' := #[.val (.ref aa), .val (.ref an), .val (.int (2 : Int32)), .val (.ref b1), .val (.int (2 : Int32))]) rfl wk) ?_
  show Fin1 p e below s (rmS2Q Z aa an ka kn x0 x1 x2 x3 y0 y1 y2 y3 h0 n0) ({ frames := 0, cells := 1, slots := 2, locals := 0 } : Room).cells ({ frames := 0, cells := 1, slots := 2, locals := 0 } : Room).slots (T3.setTop (mkF m 26 #[.val (.ref aa), .val (.ref an), .val (.int (2 : Int32)), .val (.ref b1), .val (.int (2 : Int32))] []))
  refine own_st (fun wt wk => XS.goto X3.here hx rfl (pc0 := 26) (pc' := 7) rfl (hb hby d1_26) (by decide) (by decide) wk) ?_
  show Fin1 p e below s (rmS2Q Z aa an ka kn x0 x1 x2 x3 y0 y1 y2 y3 h0 n0) ({ frames := 0, cells := 1, slots := 2, locals := 0 } : Room).cells ({ frames := 0, cells := 1, slots := 2, locals := 0 } : Room).slots (T3.setTop (mkF m 7 #[.val (.ref aa), .val (.ref an), .val (.int (2 : Int32)), .val (.ref b1), .val (.int (2 : Int32))] []))
  refine own_st (fun wt wk => XS.iload X3.here hx rfl (hb hby d1_7) rfl wk) ?_
  show Fin1 p e below s (rmS2Q Z aa an ka kn x0 x1 x2 x3 y0 y1 y2 y3 h0 n0) ({ frames := 0, cells := 1, slots := 2, locals := 0 } : Room).cells ({ frames := 0, cells := 1, slots := 2, locals := 0 } : Room).slots (T3.setTop (mkF m 9 #[.val (.ref aa), .val (.ref an), .val (.int (2 : Int32)), .val (.ref b1), .val (.int (2 : Int32))] [(.int (2 : Int32))]))
  refine own_st (fun wt wk => XS.iloadN X3.here hx rfl (hb hby d1_9) rfl wk) ?_
  show Fin1 p e below s (rmS2Q Z aa an ka kn x0 x1 x2 x3 y0 y1 y2 y3 h0 n0) ({ frames := 0, cells := 1, slots := 2, locals := 0 } : Room).cells ({ frames := 0, cells := 1, slots := 2, locals := 0 } : Room).slots (T3.setTop (mkF m 10 #[.val (.ref aa), .val (.ref an), .val (.int (2 : Int32)), .val (.ref b1), .val (.int (2 : Int32))] [(.int (2 : Int32)), (.int (2 : Int32))]))
  refine own_st (fun wt wk => XS.icmpYes X3.here hx rfl (pc0 := 10) (pc' := 29) rfl (hb hby d1_10) rfl (flt (by decide)).2.1 (by decide) (by decide) wk) ?_
  show Fin1 p e below s (rmS2Q Z aa an ka kn x0 x1 x2 x3 y0 y1 y2 y3 h0 n0) ({ frames := 0, cells := 1, slots := 2, locals := 0 } : Room).cells ({ frames := 0, cells := 1, slots := 2, locals := 0 } : Room).slots (T3.setTop (mkF m 29 #[.val (.ref aa), .val (.ref an), .val (.int (2 : Int32)), .val (.ref b1), .val (.int (2 : Int32))] []))
  refine own_st (fun wt wk => XS.aloadN X3.here hx rfl (hb hby d1_29) rfl rfl wk) ?_
  show Fin1 p e below s (rmS2Q Z aa an ka kn x0 x1 x2 x3 y0 y1 y2 y3 h0 n0) ({ frames := 0, cells := 1, slots := 2, locals := 0 } : Room).cells ({ frames := 0, cells := 1, slots := 2, locals := 0 } : Room).slots (T3.setTop (mkF m 30 #[.val (.ref aa), .val (.ref an), .val (.int (2 : Int32)), .val (.ref b1), .val (.int (2 : Int32))] [(.ref b1)]))
  exact own_retA X3 hx hlk hret rfl rfl (hb hby d1_30) (by rw [e3]; exact ⟨b1, kc1, rfl, N3, sz_b1, K0, V_b1⟩) (by decide) (by decide)
def rmS3Q (Z : State) (aa : Addr) (an : Addr) (ka : ClassId) (kn : ClassId) (x0 : Int32) (x1 : Int32) (x2 : Int32) (x3 : Int32) (y0 : Int32) (y1 : Int32) (y2 : Int32) (y3 : Int32) (h0 : Heap) (n0 : Nat) (v : Option Value) (h : Heap) (L : List Loc) : Prop := ∃ (b : Addr) (kb : ClassId), v = some (.ref b) ∧ Fr n0 L ∧ h0.size ≤ b ∧ Keep h0 h [] ∧ Arv Z h b kb .int (3 : Int32) [(.int (own_pick x0 x1 x2 x3 y0)), (.int (own_pick x0 x1 x2 x3 y1)), (.int (own_pick x0 x1 x2 x3 y2))] (.int (0 : Int32))
set_option maxRecDepth 65536 in
set_option maxHeartbeats 40000000 in
theorem rmS3 (l : Launch) (Z : State) (a0 : Array Value) (hw : ∀ d ∈ tables_1, d.before a0 Z = true) (aa : Addr) (an : Addr) (ka : ClassId) (kn : ClassId) (x0 : Int32) (x1 : Int32) (x2 : Int32) (x3 : Int32) (y0 : Int32) (y1 : Int32) (y2 : Int32) (y3 : Int32) (h0 : Heap) (n0 : Nat) (Z0 : n0 ≤ h0.size) (V_aa : Arv Z h0 aa ka .int (4 : Int32) [(.int x0), (.int x1), (.int x2), (.int x3)] (.int (0 : Int32))) (V_an : Arv Z h0 an kn .int (4 : Int32) [(.int y0), (.int y1), (.int y2), (.int y3)] (.int (0 : Int32))) (r0 : ¬ y0 < (0 : Int32) ∧ y0 < (4 : Int32)) (r1 : ¬ y1 < (0 : Int32) ∧ y1 < (4 : Int32)) (r2 : ¬ y2 < (0 : Int32) ∧ y2 < (4 : Int32)) (r3 : ¬ y3 < (0 : Int32) ∧ y3 < (4 : Int32)) :
    Ct l Z [] (⟨"com/example/mistgraph/mistgraph/core/Connections", "some", "([I[II)[I"⟩ : MethodName) prog_39_method_8_code 5 (some (.array .int)) ({ frames := 0, cells := 1, slots := 3, locals := 0 } : Room) #[(.ref aa), (.ref an), (.int (3 : Int32))] h0 (rmS3Q Z aa an ka kn x0 x1 x2 x3 y0 y1 y2 y3 h0 n0) := by
  refine own_enter (plainFor_of_name pn_1) ?_
  intro p e s m below meth c T0 X0 hx hby hml hZ hown hnm hret hlk e0
  have hown : s.vm.findClass "com/example/mistgraph/mistgraph/core/Connections" = some m.cls := hown
  have N0 := Fr.nil n0
  have K0 := Keep.refl h0 []
  refine own_st (fun wt wk => castTop (g' := mkF m 0 #[.val (.ref aa), .val (.ref an), .val (.int (3 : Int32)), .unset, .unset] []) (by first | (simp [entryFrame, mkF, argsToLocals, Value.category]; done) | rfl) wk) ?_
  show Fin1 p e below s (rmS3Q Z aa an ka kn x0 x1 x2 x3 y0 y1 y2 y3 h0 n0) ({ frames := 0, cells := 1, slots := 3, locals := 0 } : Room).cells ({ frames := 0, cells := 1, slots := 3, locals := 0 } : Room).slots (T0.setTop (mkF m 0 #[.val (.ref aa), .val (.ref an), .val (.int (3 : Int32)), .unset, .unset] []))
  refine own_st (fun wt wk => XS.iloadN X0.here hx rfl (hb hby d1_0) rfl wk) ?_
  show Fin1 p e below s (rmS3Q Z aa an ka kn x0 x1 x2 x3 y0 y1 y2 y3 h0 n0) ({ frames := 0, cells := 1, slots := 3, locals := 0 } : Room).cells ({ frames := 0, cells := 1, slots := 3, locals := 0 } : Room).slots (T0.setTop (mkF m 1 #[.val (.ref aa), .val (.ref an), .val (.int (3 : Int32)), .unset, .unset] [(.int (3 : Int32))]))
  obtain ⟨T1, h1, kc1, X1, e1, E1, A1, st1⟩ := newP X0 hx hZ (hw _ (List.mem_of_getElem? (i := 0) rfl)) e0 (g := (mkF m 1 #[.val (.ref aa), .val (.ref an), .val (.int (3 : Int32)), .unset, .unset] [(.int (3 : Int32))])) rfl (hb hby d1_1) rfl (by decide) (cap := 3) (by decide) (by decide) (by decide) (by decide)
  obtain ⟨b1, gz_b1⟩ : ∃ z, z = h0.size := ⟨_, rfl⟩
  rw [← gz_b1] at A1 st1
  have ne_aa_b1 : aa ≠ b1 := Nat.ne_of_lt (Nat.lt_of_lt_of_le V_aa.lt (Nat.le_of_eq gz_b1.symm))
  have ne_an_b1 : an ≠ b1 := Nat.ne_of_lt (Nat.lt_of_lt_of_le V_an.lt (Nat.le_of_eq gz_b1.symm))
  have sz_b1 : h0.size ≤ b1 := Nat.le_trans K0.1 (Nat.le_of_eq gz_b1.symm)
  have g_b1 : n0 ≤ b1 := Nat.le_trans Z0 (Nat.le_of_eq gz_b1.symm)
  have Z0 := Nat.le_trans Z0 E1.1
  have K0 := K0.ext E1
  have V_aa := V_aa.ext E1
  have V_an := V_an.ext E1
  refine own_st st1 ?_
  have V_b1 : Arv Z h1 b1 kc1 .int (3 : Int32) [(.int (0 : Int32)), (.int (0 : Int32)), (.int (0 : Int32))] (.int (0 : Int32)) := (Arv.new A1 (by decide)).pad (pad_rep [] (.int (0 : Int32)) 3)
  show Fin1 p e below s (rmS3Q Z aa an ka kn x0 x1 x2 x3 y0 y1 y2 y3 h0 n0) ({ frames := 0, cells := 1, slots := 3, locals := 0 } : Room).cells ({ frames := 0, cells := 1, slots := 3, locals := 0 } : Room).slots (T1.setTop (mkF m 3 #[.val (.ref aa), .val (.ref an), .val (.int (3 : Int32)), .unset, .unset] [(.ref b1)]))
  refine own_st (fun wt wk => XS.astoreN X1.here hx rfl (hb hby d1_3) rfl rfl (l' := #[.val (.ref aa), .val (.ref an), .val (.int (3 : Int32)), .val (.ref b1), .unset]) rfl wk) ?_
  show Fin1 p e below s (rmS3Q Z aa an ka kn x0 x1 x2 x3 y0 y1 y2 y3 h0 n0) ({ frames := 0, cells := 1, slots := 3, locals := 0 } : Room).cells ({ frames := 0, cells := 1, slots := 3, locals := 0 } : Room).slots (T1.setTop (mkF m 4 #[.val (.ref aa), .val (.ref an), .val (.int (3 : Int32)), .val (.ref b1), .unset] []))
  refine own_st (fun wt wk => XS.iconst X1.here hx rfl (hb hby d1_4) wk) ?_
  show Fin1 p e below s (rmS3Q Z aa an ka kn x0 x1 x2 x3 y0 y1 y2 y3 h0 n0) ({ frames := 0, cells := 1, slots := 3, locals := 0 } : Room).cells ({ frames := 0, cells := 1, slots := 3, locals := 0 } : Room).slots (T1.setTop (mkF m 5 #[.val (.ref aa), .val (.ref an), .val (.int (3 : Int32)), .val (.ref b1), .unset] [(.int (0 : Int32))]))
  refine own_st (fun wt wk => XS.istore X1.here hx rfl (hb hby d1_5) rfl (l' := #[.val (.ref aa), .val (.ref an), .val (.int (3 : Int32)), .val (.ref b1), .val (.int (0 : Int32))]) rfl wk) ?_
  show Fin1 p e below s (rmS3Q Z aa an ka kn x0 x1 x2 x3 y0 y1 y2 y3 h0 n0) ({ frames := 0, cells := 1, slots := 3, locals := 0 } : Room).cells ({ frames := 0, cells := 1, slots := 3, locals := 0 } : Room).slots (T1.setTop (mkF m 7 #[.val (.ref aa), .val (.ref an), .val (.int (3 : Int32)), .val (.ref b1), .val (.int (0 : Int32))] []))
  refine own_st (fun wt wk => XS.iload X1.here hx rfl (hb hby d1_7) rfl wk) ?_
  show Fin1 p e below s (rmS3Q Z aa an ka kn x0 x1 x2 x3 y0 y1 y2 y3 h0 n0) ({ frames := 0, cells := 1, slots := 3, locals := 0 } : Room).cells ({ frames := 0, cells := 1, slots := 3, locals := 0 } : Room).slots (T1.setTop (mkF m 9 #[.val (.ref aa), .val (.ref an), .val (.int (3 : Int32)), .val (.ref b1), .val (.int (0 : Int32))] [(.int (0 : Int32))]))
  refine own_st (fun wt wk => XS.iloadN X1.here hx rfl (hb hby d1_9) rfl wk) ?_
  show Fin1 p e below s (rmS3Q Z aa an ka kn x0 x1 x2 x3 y0 y1 y2 y3 h0 n0) ({ frames := 0, cells := 1, slots := 3, locals := 0 } : Room).cells ({ frames := 0, cells := 1, slots := 3, locals := 0 } : Room).slots (T1.setTop (mkF m 10 #[.val (.ref aa), .val (.ref an), .val (.int (3 : Int32)), .val (.ref b1), .val (.int (0 : Int32))] [(.int (3 : Int32)), (.int (0 : Int32))]))
  refine own_st (fun wt wk => XS.icmpNo X1.here hx rfl (hb hby d1_10) rfl (tlt (by decide)).2.1 wk) ?_
  show Fin1 p e below s (rmS3Q Z aa an ka kn x0 x1 x2 x3 y0 y1 y2 y3 h0 n0) ({ frames := 0, cells := 1, slots := 3, locals := 0 } : Room).cells ({ frames := 0, cells := 1, slots := 3, locals := 0 } : Room).slots (T1.setTop (mkF m 13 #[.val (.ref aa), .val (.ref an), .val (.int (3 : Int32)), .val (.ref b1), .val (.int (0 : Int32))] []))
  refine own_st (fun wt wk => XS.aloadN X1.here hx rfl (hb hby d1_13) rfl rfl wk) ?_
  show Fin1 p e below s (rmS3Q Z aa an ka kn x0 x1 x2 x3 y0 y1 y2 y3 h0 n0) ({ frames := 0, cells := 1, slots := 3, locals := 0 } : Room).cells ({ frames := 0, cells := 1, slots := 3, locals := 0 } : Room).slots (T1.setTop (mkF m 14 #[.val (.ref aa), .val (.ref an), .val (.int (3 : Int32)), .val (.ref b1), .val (.int (0 : Int32))] [(.ref b1)]))
  refine own_st (fun wt wk => XS.iload X1.here hx rfl (hb hby d1_14) rfl wk) ?_
  show Fin1 p e below s (rmS3Q Z aa an ka kn x0 x1 x2 x3 y0 y1 y2 y3 h0 n0) ({ frames := 0, cells := 1, slots := 3, locals := 0 } : Room).cells ({ frames := 0, cells := 1, slots := 3, locals := 0 } : Room).slots (T1.setTop (mkF m 16 #[.val (.ref aa), .val (.ref an), .val (.int (3 : Int32)), .val (.ref b1), .val (.int (0 : Int32))] [(.int (0 : Int32)), (.ref b1)]))
  refine own_st (fun wt wk => XS.aloadN X1.here hx rfl (hb hby d1_16) rfl rfl wk) ?_
  show Fin1 p e below s (rmS3Q Z aa an ka kn x0 x1 x2 x3 y0 y1 y2 y3 h0 n0) ({ frames := 0, cells := 1, slots := 3, locals := 0 } : Room).cells ({ frames := 0, cells := 1, slots := 3, locals := 0 } : Room).slots (T1.setTop (mkF m 17 #[.val (.ref aa), .val (.ref an), .val (.int (3 : Int32)), .val (.ref b1), .val (.int (0 : Int32))] [(.ref aa), (.int (0 : Int32)), (.ref b1)]))
  refine own_st (fun wt wk => XS.aloadN X1.here hx rfl (hb hby d1_17) rfl rfl wk) ?_
  show Fin1 p e below s (rmS3Q Z aa an ka kn x0 x1 x2 x3 y0 y1 y2 y3 h0 n0) ({ frames := 0, cells := 1, slots := 3, locals := 0 } : Room).cells ({ frames := 0, cells := 1, slots := 3, locals := 0 } : Room).slots (T1.setTop (mkF m 18 #[.val (.ref aa), .val (.ref an), .val (.int (3 : Int32)), .val (.ref b1), .val (.int (0 : Int32))] [(.ref an), (.ref aa), (.int (0 : Int32)), (.ref b1)]))
  refine own_st (fun wt wk => XS.iload X1.here hx rfl (hb hby d1_18) rfl wk) ?_
  show Fin1 p e below s (rmS3Q Z aa an ka kn x0 x1 x2 x3 y0 y1 y2 y3 h0 n0) ({ frames := 0, cells := 1, slots := 3, locals := 0 } : Room).cells ({ frames := 0, cells := 1, slots := 3, locals := 0 } : Room).slots (T1.setTop (mkF m 20 #[.val (.ref aa), .val (.ref an), .val (.int (3 : Int32)), .val (.ref b1), .val (.int (0 : Int32))] [(.int (0 : Int32)), (.ref an), (.ref aa), (.int (0 : Int32)), (.ref b1)]))
  refine own_st (own_ld (j := (0 : Int32)) (v := (.int y0)) X1 hx hZ e1 V_an ⟨by decide, by decide⟩ rfl (g := (mkF m 20 #[.val (.ref aa), .val (.ref an), .val (.int (3 : Int32)), .val (.ref b1), .val (.int (0 : Int32))] [(.int (0 : Int32)), (.ref an), (.ref aa), (.int (0 : Int32)), (.ref b1)])) rfl rfl (Or.inl ⟨rfl, rfl⟩) (hb hby d1_20)) ?_
  show Fin1 p e below s (rmS3Q Z aa an ka kn x0 x1 x2 x3 y0 y1 y2 y3 h0 n0) ({ frames := 0, cells := 1, slots := 3, locals := 0 } : Room).cells ({ frames := 0, cells := 1, slots := 3, locals := 0 } : Room).slots (T1.setTop (mkF m 21 #[.val (.ref aa), .val (.ref an), .val (.int (3 : Int32)), .val (.ref b1), .val (.int (0 : Int32))] [(.int y0), (.ref aa), (.int (0 : Int32)), (.ref b1)]))
  refine own_st (own_ld (j := y0) (v := (.int (own_pick x0 x1 x2 x3 y0))) X1 hx hZ e1 V_aa r0 (own_get _ _ _ _ _ r0) (g := (mkF m 21 #[.val (.ref aa), .val (.ref an), .val (.int (3 : Int32)), .val (.ref b1), .val (.int (0 : Int32))] [(.int y0), (.ref aa), (.int (0 : Int32)), (.ref b1)])) rfl rfl (Or.inl ⟨rfl, rfl⟩) (hb hby d1_21)) ?_
  show Fin1 p e below s (rmS3Q Z aa an ka kn x0 x1 x2 x3 y0 y1 y2 y3 h0 n0) ({ frames := 0, cells := 1, slots := 3, locals := 0 } : Room).cells ({ frames := 0, cells := 1, slots := 3, locals := 0 } : Room).slots (T1.setTop (mkF m 22 #[.val (.ref aa), .val (.ref an), .val (.int (3 : Int32)), .val (.ref b1), .val (.int (0 : Int32))] [(.int (own_pick x0 x1 x2 x3 y0)), (.int (0 : Int32)), (.ref b1)]))
  obtain ⟨T2, h2, X2, e2, W2, U2, st2⟩ := own_stI (j := (0 : Int32)) X1 hx hZ e1 V_b1 ⟨by decide, by decide⟩ 0 rfl (by simp) (g := (mkF m 22 #[.val (.ref aa), .val (.ref an), .val (.int (3 : Int32)), .val (.ref b1), .val (.int (0 : Int32))] [(.int (own_pick x0 x1 x2 x3 y0)), (.int (0 : Int32)), (.ref b1)])) rfl rfl (hb hby d1_22)
  have N2 := Fr.snoc X2 N0 g_b1
  have Z0 := Nat.le_trans Z0 (Nat.le_of_eq W2.size.symm)
  have K0 := K0.wr W2 (Or.inr sz_b1)
  have V_aa := V_aa.other W2 ne_aa_b1
  have V_an := V_an.other W2 ne_an_b1
  have V_b1 : Arv Z h2 b1 kc1 .int (3 : Int32) [(.int (own_pick x0 x1 x2 x3 y0)), (.int (0 : Int32)), (.int (0 : Int32))] (.int (0 : Int32)) := U2
  refine own_st st2 ?_
  show Fin1 p e below s (rmS3Q Z aa an ka kn x0 x1 x2 x3 y0 y1 y2 y3 h0 n0) ({ frames := 0, cells := 1, slots := 3, locals := 0 } : Room).cells ({ frames := 0, cells := 1, slots := 3, locals := 0 } : Room).slots (T2.setTop (mkF m 23 #[.val (.ref aa), .val (.ref an), .val (.int (3 : Int32)), .val (.ref b1), .val (.int (0 : Int32))] []))
  refine own_st (fun wt wk => XS.iinc X2.here hx rfl (hb hby d1_23) rfl (l' := #[.val (.ref aa), .val (.ref an), .val (.int (3 : Int32)), .val (.ref b1), .val (.int (1 : Int32))]) rfl wk) ?_
  show Fin1 p e below s (rmS3Q Z aa an ka kn x0 x1 x2 x3 y0 y1 y2 y3 h0 n0) ({ frames := 0, cells := 1, slots := 3, locals := 0 } : Room).cells ({ frames := 0, cells := 1, slots := 3, locals := 0 } : Room).slots (T2.setTop (mkF m 26 #[.val (.ref aa), .val (.ref an), .val (.int (3 : Int32)), .val (.ref b1), .val (.int (1 : Int32))] []))
  refine own_st (fun wt wk => XS.goto X2.here hx rfl (pc0 := 26) (pc' := 7) rfl (hb hby d1_26) (by decide) (by decide) wk) ?_
  show Fin1 p e below s (rmS3Q Z aa an ka kn x0 x1 x2 x3 y0 y1 y2 y3 h0 n0) ({ frames := 0, cells := 1, slots := 3, locals := 0 } : Room).cells ({ frames := 0, cells := 1, slots := 3, locals := 0 } : Room).slots (T2.setTop (mkF m 7 #[.val (.ref aa), .val (.ref an), .val (.int (3 : Int32)), .val (.ref b1), .val (.int (1 : Int32))] []))
  refine own_st (fun wt wk => XS.iload X2.here hx rfl (hb hby d1_7) rfl wk) ?_
  show Fin1 p e below s (rmS3Q Z aa an ka kn x0 x1 x2 x3 y0 y1 y2 y3 h0 n0) ({ frames := 0, cells := 1, slots := 3, locals := 0 } : Room).cells ({ frames := 0, cells := 1, slots := 3, locals := 0 } : Room).slots (T2.setTop (mkF m 9 #[.val (.ref aa), .val (.ref an), .val (.int (3 : Int32)), .val (.ref b1), .val (.int (1 : Int32))] [(.int (1 : Int32))]))
  refine own_st (fun wt wk => XS.iloadN X2.here hx rfl (hb hby d1_9) rfl wk) ?_
  show Fin1 p e below s (rmS3Q Z aa an ka kn x0 x1 x2 x3 y0 y1 y2 y3 h0 n0) ({ frames := 0, cells := 1, slots := 3, locals := 0 } : Room).cells ({ frames := 0, cells := 1, slots := 3, locals := 0 } : Room).slots (T2.setTop (mkF m 10 #[.val (.ref aa), .val (.ref an), .val (.int (3 : Int32)), .val (.ref b1), .val (.int (1 : Int32))] [(.int (3 : Int32)), (.int (1 : Int32))]))
  refine own_st (fun wt wk => XS.icmpNo X2.here hx rfl (hb hby d1_10) rfl (tlt (by decide)).2.1 wk) ?_
  show Fin1 p e below s (rmS3Q Z aa an ka kn x0 x1 x2 x3 y0 y1 y2 y3 h0 n0) ({ frames := 0, cells := 1, slots := 3, locals := 0 } : Room).cells ({ frames := 0, cells := 1, slots := 3, locals := 0 } : Room).slots (T2.setTop (mkF m 13 #[.val (.ref aa), .val (.ref an), .val (.int (3 : Int32)), .val (.ref b1), .val (.int (1 : Int32))] []))
  refine own_st (fun wt wk => XS.aloadN X2.here hx rfl (hb hby d1_13) rfl rfl wk) ?_
  show Fin1 p e below s (rmS3Q Z aa an ka kn x0 x1 x2 x3 y0 y1 y2 y3 h0 n0) ({ frames := 0, cells := 1, slots := 3, locals := 0 } : Room).cells ({ frames := 0, cells := 1, slots := 3, locals := 0 } : Room).slots (T2.setTop (mkF m 14 #[.val (.ref aa), .val (.ref an), .val (.int (3 : Int32)), .val (.ref b1), .val (.int (1 : Int32))] [(.ref b1)]))
  refine own_st (fun wt wk => XS.iload X2.here hx rfl (hb hby d1_14) rfl wk) ?_
  show Fin1 p e below s (rmS3Q Z aa an ka kn x0 x1 x2 x3 y0 y1 y2 y3 h0 n0) ({ frames := 0, cells := 1, slots := 3, locals := 0 } : Room).cells ({ frames := 0, cells := 1, slots := 3, locals := 0 } : Room).slots (T2.setTop (mkF m 16 #[.val (.ref aa), .val (.ref an), .val (.int (3 : Int32)), .val (.ref b1), .val (.int (1 : Int32))] [(.int (1 : Int32)), (.ref b1)]))
  refine own_st (fun wt wk => XS.aloadN X2.here hx rfl (hb hby d1_16) rfl rfl wk) ?_
  show Fin1 p e below s (rmS3Q Z aa an ka kn x0 x1 x2 x3 y0 y1 y2 y3 h0 n0) ({ frames := 0, cells := 1, slots := 3, locals := 0 } : Room).cells ({ frames := 0, cells := 1, slots := 3, locals := 0 } : Room).slots (T2.setTop (mkF m 17 #[.val (.ref aa), .val (.ref an), .val (.int (3 : Int32)), .val (.ref b1), .val (.int (1 : Int32))] [(.ref aa), (.int (1 : Int32)), (.ref b1)]))
  refine own_st (fun wt wk => XS.aloadN X2.here hx rfl (hb hby d1_17) rfl rfl wk) ?_
  show Fin1 p e below s (rmS3Q Z aa an ka kn x0 x1 x2 x3 y0 y1 y2 y3 h0 n0) ({ frames := 0, cells := 1, slots := 3, locals := 0 } : Room).cells ({ frames := 0, cells := 1, slots := 3, locals := 0 } : Room).slots (T2.setTop (mkF m 18 #[.val (.ref aa), .val (.ref an), .val (.int (3 : Int32)), .val (.ref b1), .val (.int (1 : Int32))] [(.ref an), (.ref aa), (.int (1 : Int32)), (.ref b1)]))
  refine own_st (fun wt wk => XS.iload X2.here hx rfl (hb hby d1_18) rfl wk) ?_
  show Fin1 p e below s (rmS3Q Z aa an ka kn x0 x1 x2 x3 y0 y1 y2 y3 h0 n0) ({ frames := 0, cells := 1, slots := 3, locals := 0 } : Room).cells ({ frames := 0, cells := 1, slots := 3, locals := 0 } : Room).slots (T2.setTop (mkF m 20 #[.val (.ref aa), .val (.ref an), .val (.int (3 : Int32)), .val (.ref b1), .val (.int (1 : Int32))] [(.int (1 : Int32)), (.ref an), (.ref aa), (.int (1 : Int32)), (.ref b1)]))
  refine own_st (own_ld (j := (1 : Int32)) (v := (.int y1)) X2 hx hZ e2 V_an ⟨by decide, by decide⟩ rfl (g := (mkF m 20 #[.val (.ref aa), .val (.ref an), .val (.int (3 : Int32)), .val (.ref b1), .val (.int (1 : Int32))] [(.int (1 : Int32)), (.ref an), (.ref aa), (.int (1 : Int32)), (.ref b1)])) rfl rfl (Or.inl ⟨rfl, rfl⟩) (hb hby d1_20)) ?_
  show Fin1 p e below s (rmS3Q Z aa an ka kn x0 x1 x2 x3 y0 y1 y2 y3 h0 n0) ({ frames := 0, cells := 1, slots := 3, locals := 0 } : Room).cells ({ frames := 0, cells := 1, slots := 3, locals := 0 } : Room).slots (T2.setTop (mkF m 21 #[.val (.ref aa), .val (.ref an), .val (.int (3 : Int32)), .val (.ref b1), .val (.int (1 : Int32))] [(.int y1), (.ref aa), (.int (1 : Int32)), (.ref b1)]))
  refine own_st (own_ld (j := y1) (v := (.int (own_pick x0 x1 x2 x3 y1))) X2 hx hZ e2 V_aa r1 (own_get _ _ _ _ _ r1) (g := (mkF m 21 #[.val (.ref aa), .val (.ref an), .val (.int (3 : Int32)), .val (.ref b1), .val (.int (1 : Int32))] [(.int y1), (.ref aa), (.int (1 : Int32)), (.ref b1)])) rfl rfl (Or.inl ⟨rfl, rfl⟩) (hb hby d1_21)) ?_
  show Fin1 p e below s (rmS3Q Z aa an ka kn x0 x1 x2 x3 y0 y1 y2 y3 h0 n0) ({ frames := 0, cells := 1, slots := 3, locals := 0 } : Room).cells ({ frames := 0, cells := 1, slots := 3, locals := 0 } : Room).slots (T2.setTop (mkF m 22 #[.val (.ref aa), .val (.ref an), .val (.int (3 : Int32)), .val (.ref b1), .val (.int (1 : Int32))] [(.int (own_pick x0 x1 x2 x3 y1)), (.int (1 : Int32)), (.ref b1)]))
  obtain ⟨T3, h3, X3, e3, W3, U3, st3⟩ := own_stI (j := (1 : Int32)) X2 hx hZ e2 V_b1 ⟨by decide, by decide⟩ 1 rfl (by simp) (g := (mkF m 22 #[.val (.ref aa), .val (.ref an), .val (.int (3 : Int32)), .val (.ref b1), .val (.int (1 : Int32))] [(.int (own_pick x0 x1 x2 x3 y1)), (.int (1 : Int32)), (.ref b1)])) rfl rfl (hb hby d1_22)
  have N3 := Fr.snoc X3 N2 g_b1
  have Z0 := Nat.le_trans Z0 (Nat.le_of_eq W3.size.symm)
  have K0 := K0.wr W3 (Or.inr sz_b1)
  have V_aa := V_aa.other W3 ne_aa_b1
  have V_an := V_an.other W3 ne_an_b1
  have V_b1 : Arv Z h3 b1 kc1 .int (3 : Int32) [(.int (own_pick x0 x1 x2 x3 y0)), (.int (own_pick x0 x1 x2 x3 y1)), (.int (0 : Int32))] (.int (0 : Int32)) := U3
  refine own_st st3 ?_
  show Fin1 p e below s (rmS3Q Z aa an ka kn x0 x1 x2 x3 y0 y1 y2 y3 h0 n0) ({ frames := 0, cells := 1, slots := 3, locals := 0 } : Room).cells ({ frames := 0, cells := 1, slots := 3, locals := 0 } : Room).slots (T3.setTop (mkF m 23 #[.val (.ref aa), .val (.ref an), .val (.int (3 : Int32)), .val (.ref b1), .val (.int (1 : Int32))] []))
  refine own_st (fun wt wk => XS.iinc X3.here hx rfl (hb hby d1_23) rfl (l' := #[.val (.ref aa), .val (.ref an), .val (.int (3 : Int32)), .val (.ref b1), .val (.int (2 : Int32))]) rfl wk) ?_
  show Fin1 p e below s (rmS3Q Z aa an ka kn x0 x1 x2 x3 y0 y1 y2 y3 h0 n0) ({ frames := 0, cells := 1, slots := 3, locals := 0 } : Room).cells ({ frames := 0, cells := 1, slots := 3, locals := 0 } : Room).slots (T3.setTop (mkF m 26 #[.val (.ref aa), .val (.ref an), .val (.int (3 : Int32)), .val (.ref b1), .val (.int (2 : Int32))] []))
  refine own_st (fun wt wk => XS.goto X3.here hx rfl (pc0 := 26) (pc' := 7) rfl (hb hby d1_26) (by decide) (by decide) wk) ?_
  show Fin1 p e below s (rmS3Q Z aa an ka kn x0 x1 x2 x3 y0 y1 y2 y3 h0 n0) ({ frames := 0, cells := 1, slots := 3, locals := 0 } : Room).cells ({ frames := 0, cells := 1, slots := 3, locals := 0 } : Room).slots (T3.setTop (mkF m 7 #[.val (.ref aa), .val (.ref an), .val (.int (3 : Int32)), .val (.ref b1), .val (.int (2 : Int32))] []))
  refine own_st (fun wt wk => XS.iload X3.here hx rfl (hb hby d1_7) rfl wk) ?_
  show Fin1 p e below s (rmS3Q Z aa an ka kn x0 x1 x2 x3 y0 y1 y2 y3 h0 n0) ({ frames := 0, cells := 1, slots := 3, locals := 0 } : Room).cells ({ frames := 0, cells := 1, slots := 3, locals := 0 } : Room).slots (T3.setTop (mkF m 9 #[.val (.ref aa), .val (.ref an), .val (.int (3 : Int32)), .val (.ref b1), .val (.int (2 : Int32))] [(.int (2 : Int32))]))
  refine own_st (fun wt wk => XS.iloadN X3.here hx rfl (hb hby d1_9) rfl wk) ?_
  show Fin1 p e below s (rmS3Q Z aa an ka kn x0 x1 x2 x3 y0 y1 y2 y3 h0 n0) ({ frames := 0, cells := 1, slots := 3, locals := 0 } : Room).cells ({ frames := 0, cells := 1, slots := 3, locals := 0 } : Room).slots (T3.setTop (mkF m 10 #[.val (.ref aa), .val (.ref an), .val (.int (3 : Int32)), .val (.ref b1), .val (.int (2 : Int32))] [(.int (3 : Int32)), (.int (2 : Int32))]))
  refine own_st (fun wt wk => XS.icmpNo X3.here hx rfl (hb hby d1_10) rfl (tlt (by decide)).2.1 wk) ?_
  show Fin1 p e below s (rmS3Q Z aa an ka kn x0 x1 x2 x3 y0 y1 y2 y3 h0 n0) ({ frames := 0, cells := 1, slots := 3, locals := 0 } : Room).cells ({ frames := 0, cells := 1, slots := 3, locals := 0 } : Room).slots (T3.setTop (mkF m 13 #[.val (.ref aa), .val (.ref an), .val (.int (3 : Int32)), .val (.ref b1), .val (.int (2 : Int32))] []))
  refine own_st (fun wt wk => XS.aloadN X3.here hx rfl (hb hby d1_13) rfl rfl wk) ?_
  show Fin1 p e below s (rmS3Q Z aa an ka kn x0 x1 x2 x3 y0 y1 y2 y3 h0 n0) ({ frames := 0, cells := 1, slots := 3, locals := 0 } : Room).cells ({ frames := 0, cells := 1, slots := 3, locals := 0 } : Room).slots (T3.setTop (mkF m 14 #[.val (.ref aa), .val (.ref an), .val (.int (3 : Int32)), .val (.ref b1), .val (.int (2 : Int32))] [(.ref b1)]))
  refine own_st (fun wt wk => XS.iload X3.here hx rfl (hb hby d1_14) rfl wk) ?_
  show Fin1 p e below s (rmS3Q Z aa an ka kn x0 x1 x2 x3 y0 y1 y2 y3 h0 n0) ({ frames := 0, cells := 1, slots := 3, locals := 0 } : Room).cells ({ frames := 0, cells := 1, slots := 3, locals := 0 } : Room).slots (T3.setTop (mkF m 16 #[.val (.ref aa), .val (.ref an), .val (.int (3 : Int32)), .val (.ref b1), .val (.int (2 : Int32))] [(.int (2 : Int32)), (.ref b1)]))
  refine own_st (fun wt wk => XS.aloadN X3.here hx rfl (hb hby d1_16) rfl rfl wk) ?_
  show Fin1 p e below s (rmS3Q Z aa an ka kn x0 x1 x2 x3 y0 y1 y2 y3 h0 n0) ({ frames := 0, cells := 1, slots := 3, locals := 0 } : Room).cells ({ frames := 0, cells := 1, slots := 3, locals := 0 } : Room).slots (T3.setTop (mkF m 17 #[.val (.ref aa), .val (.ref an), .val (.int (3 : Int32)), .val (.ref b1), .val (.int (2 : Int32))] [(.ref aa), (.int (2 : Int32)), (.ref b1)]))
  refine own_st (fun wt wk => XS.aloadN X3.here hx rfl (hb hby d1_17) rfl rfl wk) ?_
  show Fin1 p e below s (rmS3Q Z aa an ka kn x0 x1 x2 x3 y0 y1 y2 y3 h0 n0) ({ frames := 0, cells := 1, slots := 3, locals := 0 } : Room).cells ({ frames := 0, cells := 1, slots := 3, locals := 0 } : Room).slots (T3.setTop (mkF m 18 #[.val (.ref aa), .val (.ref an), .val (.int (3 : Int32)), .val (.ref b1), .val (.int (2 : Int32))] [(.ref an), (.ref aa), (.int (2 : Int32)), (.ref b1)]))
  refine own_st (fun wt wk => XS.iload X3.here hx rfl (hb hby d1_18) rfl wk) ?_
  show Fin1 p e below s (rmS3Q Z aa an ka kn x0 x1 x2 x3 y0 y1 y2 y3 h0 n0) ({ frames := 0, cells := 1, slots := 3, locals := 0 } : Room).cells ({ frames := 0, cells := 1, slots := 3, locals := 0 } : Room).slots (T3.setTop (mkF m 20 #[.val (.ref aa), .val (.ref an), .val (.int (3 : Int32)), .val (.ref b1), .val (.int (2 : Int32))] [(.int (2 : Int32)), (.ref an), (.ref aa), (.int (2 : Int32)), (.ref b1)]))
  refine own_st (own_ld (j := (2 : Int32)) (v := (.int y2)) X3 hx hZ e3 V_an ⟨by decide, by decide⟩ rfl (g := (mkF m 20 #[.val (.ref aa), .val (.ref an), .val (.int (3 : Int32)), .val (.ref b1), .val (.int (2 : Int32))] [(.int (2 : Int32)), (.ref an), (.ref aa), (.int (2 : Int32)), (.ref b1)])) rfl rfl (Or.inl ⟨rfl, rfl⟩) (hb hby d1_20)) ?_
  show Fin1 p e below s (rmS3Q Z aa an ka kn x0 x1 x2 x3 y0 y1 y2 y3 h0 n0) ({ frames := 0, cells := 1, slots := 3, locals := 0 } : Room).cells ({ frames := 0, cells := 1, slots := 3, locals := 0 } : Room).slots (T3.setTop (mkF m 21 #[.val (.ref aa), .val (.ref an), .val (.int (3 : Int32)), .val (.ref b1), .val (.int (2 : Int32))] [(.int y2), (.ref aa), (.int (2 : Int32)), (.ref b1)]))
  refine own_st (own_ld (j := y2) (v := (.int (own_pick x0 x1 x2 x3 y2))) X3 hx hZ e3 V_aa r2 (own_get _ _ _ _ _ r2) (g := (mkF m 21 #[.val (.ref aa), .val (.ref an), .val (.int (3 : Int32)), .val (.ref b1), .val (.int (2 : Int32))] [(.int y2), (.ref aa), (.int (2 : Int32)), (.ref b1)])) rfl rfl (Or.inl ⟨rfl, rfl⟩) (hb hby d1_21)) ?_
  show Fin1 p e below s (rmS3Q Z aa an ka kn x0 x1 x2 x3 y0 y1 y2 y3 h0 n0) ({ frames := 0, cells := 1, slots := 3, locals := 0 } : Room).cells ({ frames := 0, cells := 1, slots := 3, locals := 0 } : Room).slots (T3.setTop (mkF m 22 #[.val (.ref aa), .val (.ref an), .val (.int (3 : Int32)), .val (.ref b1), .val (.int (2 : Int32))] [(.int (own_pick x0 x1 x2 x3 y2)), (.int (2 : Int32)), (.ref b1)]))
  obtain ⟨T4, h4, X4, e4, W4, U4, st4⟩ := own_stI (j := (2 : Int32)) X3 hx hZ e3 V_b1 ⟨by decide, by decide⟩ 2 rfl (by simp) (g := (mkF m 22 #[.val (.ref aa), .val (.ref an), .val (.int (3 : Int32)), .val (.ref b1), .val (.int (2 : Int32))] [(.int (own_pick x0 x1 x2 x3 y2)), (.int (2 : Int32)), (.ref b1)])) rfl rfl (hb hby d1_22)
  have N4 := Fr.snoc X4 N3 g_b1
  have Z0 := Nat.le_trans Z0 (Nat.le_of_eq W4.size.symm)
  have K0 := K0.wr W4 (Or.inr sz_b1)
  have V_aa := V_aa.other W4 ne_aa_b1
  have V_an := V_an.other W4 ne_an_b1
  have V_b1 : Arv Z h4 b1 kc1 .int (3 : Int32) [(.int (own_pick x0 x1 x2 x3 y0)), (.int (own_pick x0 x1 x2 x3 y1)), (.int (own_pick x0 x1 x2 x3 y2))] (.int (0 : Int32)) := U4
  refine own_st st4 ?_
  show Fin1 p e below s (rmS3Q Z aa an ka kn x0 x1 x2 x3 y0 y1 y2 y3 h0 n0) ({ frames := 0, cells := 1, slots := 3, locals := 0 } : Room).cells ({ frames := 0, cells := 1, slots := 3, locals := 0 } : Room).slots (T4.setTop (mkF m 23 #[.val (.ref aa), .val (.ref an), .val (.int (3 : Int32)), .val (.ref b1), .val (.int (2 : Int32))] []))
  refine own_st (fun wt wk => XS.iinc X4.here hx rfl (hb hby d1_23) rfl (l' := #[.val (.ref aa), .val (.ref an), .val (.int (3 : Int32)), .val (.ref b1), .val (.int (3 : Int32))]) rfl wk) ?_
  show Fin1 p e below s (rmS3Q Z aa an ka kn x0 x1 x2 x3 y0 y1 y2 y3 h0 n0) ({ frames := 0, cells := 1, slots := 3, locals := 0 } : Room).cells ({ frames := 0, cells := 1, slots := 3, locals := 0 } : Room).slots (T4.setTop (mkF m 26 #[.val (.ref aa), .val (.ref an), .val (.int (3 : Int32)), .val (.ref b1), .val (.int (3 : Int32))] []))
  refine own_st (fun wt wk => XS.goto X4.here hx rfl (pc0 := 26) (pc' := 7) rfl (hb hby d1_26) (by decide) (by decide) wk) ?_
  show Fin1 p e below s (rmS3Q Z aa an ka kn x0 x1 x2 x3 y0 y1 y2 y3 h0 n0) ({ frames := 0, cells := 1, slots := 3, locals := 0 } : Room).cells ({ frames := 0, cells := 1, slots := 3, locals := 0 } : Room).slots (T4.setTop (mkF m 7 #[.val (.ref aa), .val (.ref an), .val (.int (3 : Int32)), .val (.ref b1), .val (.int (3 : Int32))] []))
  refine own_st (fun wt wk => XS.iload X4.here hx rfl (hb hby d1_7) rfl wk) ?_
  show Fin1 p e below s (rmS3Q Z aa an ka kn x0 x1 x2 x3 y0 y1 y2 y3 h0 n0) ({ frames := 0, cells := 1, slots := 3, locals := 0 } : Room).cells ({ frames := 0, cells := 1, slots := 3, locals := 0 } : Room).slots (T4.setTop (mkF m 9 #[.val (.ref aa), .val (.ref an), .val (.int (3 : Int32)), .val (.ref b1), .val (.int (3 : Int32))] [(.int (3 : Int32))]))
  refine own_st (fun wt wk => XS.iloadN X4.here hx rfl (hb hby d1_9) rfl wk) ?_
  show Fin1 p e below s (rmS3Q Z aa an ka kn x0 x1 x2 x3 y0 y1 y2 y3 h0 n0) ({ frames := 0, cells := 1, slots := 3, locals := 0 } : Room).cells ({ frames := 0, cells := 1, slots := 3, locals := 0 } : Room).slots (T4.setTop (mkF m 10 #[.val (.ref aa), .val (.ref an), .val (.int (3 : Int32)), .val (.ref b1), .val (.int (3 : Int32))] [(.int (3 : Int32)), (.int (3 : Int32))]))
  refine own_st (fun wt wk => XS.icmpYes X4.here hx rfl (pc0 := 10) (pc' := 29) rfl (hb hby d1_10) rfl (flt (by decide)).2.1 (by decide) (by decide) wk) ?_
  show Fin1 p e below s (rmS3Q Z aa an ka kn x0 x1 x2 x3 y0 y1 y2 y3 h0 n0) ({ frames := 0, cells := 1, slots := 3, locals := 0 } : Room).cells ({ frames := 0, cells := 1, slots := 3, locals := 0 } : Room).slots (T4.setTop (mkF m 29 #[.val (.ref aa), .val (.ref an), .val (.int (3 : Int32)), .val (.ref b1), .val (.int (3 : Int32))] []))
  refine own_st (fun wt wk => XS.aloadN X4.here hx rfl (hb hby d1_29) rfl rfl wk) ?_
  show Fin1 p e below s (rmS3Q Z aa an ka kn x0 x1 x2 x3 y0 y1 y2 y3 h0 n0) ({ frames := 0, cells := 1, slots := 3, locals := 0 } : Room).cells ({ frames := 0, cells := 1, slots := 3, locals := 0 } : Room).slots (T4.setTop (mkF m 30 #[.val (.ref aa), .val (.ref an), .val (.int (3 : Int32)), .val (.ref b1), .val (.int (3 : Int32))] [(.ref b1)]))
  exact own_retA X4 hx hlk hret rfl rfl (hb hby d1_30) (by rw [e4]; exact ⟨b1, kc1, rfl, N4, sz_b1, K0, V_b1⟩) (by decide) (by decide)
def rmS4Q (Z : State) (aa : Addr) (an : Addr) (ka : ClassId) (kn : ClassId) (x0 : Int32) (x1 : Int32) (x2 : Int32) (x3 : Int32) (y0 : Int32) (y1 : Int32) (y2 : Int32) (y3 : Int32) (h0 : Heap) (n0 : Nat) (v : Option Value) (h : Heap) (L : List Loc) : Prop := ∃ (b : Addr) (kb : ClassId), v = some (.ref b) ∧ Fr n0 L ∧ h0.size ≤ b ∧ Keep h0 h [] ∧ Arv Z h b kb .int (4 : Int32) [(.int (own_pick x0 x1 x2 x3 y0)), (.int (own_pick x0 x1 x2 x3 y1)), (.int (own_pick x0 x1 x2 x3 y2)), (.int (own_pick x0 x1 x2 x3 y3))] (.int (0 : Int32))
set_option maxRecDepth 65536 in
set_option maxHeartbeats 40000000 in
theorem rmS4 (l : Launch) (Z : State) (a0 : Array Value) (hw : ∀ d ∈ tables_1, d.before a0 Z = true) (aa : Addr) (an : Addr) (ka : ClassId) (kn : ClassId) (x0 : Int32) (x1 : Int32) (x2 : Int32) (x3 : Int32) (y0 : Int32) (y1 : Int32) (y2 : Int32) (y3 : Int32) (h0 : Heap) (n0 : Nat) (Z0 : n0 ≤ h0.size) (V_aa : Arv Z h0 aa ka .int (4 : Int32) [(.int x0), (.int x1), (.int x2), (.int x3)] (.int (0 : Int32))) (V_an : Arv Z h0 an kn .int (4 : Int32) [(.int y0), (.int y1), (.int y2), (.int y3)] (.int (0 : Int32))) (r0 : ¬ y0 < (0 : Int32) ∧ y0 < (4 : Int32)) (r1 : ¬ y1 < (0 : Int32) ∧ y1 < (4 : Int32)) (r2 : ¬ y2 < (0 : Int32) ∧ y2 < (4 : Int32)) (r3 : ¬ y3 < (0 : Int32) ∧ y3 < (4 : Int32)) :
    Ct l Z [] (⟨"com/example/mistgraph/mistgraph/core/Connections", "some", "([I[II)[I"⟩ : MethodName) prog_39_method_8_code 5 (some (.array .int)) ({ frames := 0, cells := 1, slots := 4, locals := 0 } : Room) #[(.ref aa), (.ref an), (.int (4 : Int32))] h0 (rmS4Q Z aa an ka kn x0 x1 x2 x3 y0 y1 y2 y3 h0 n0) := by
  refine own_enter (plainFor_of_name pn_1) ?_
  intro p e s m below meth c T0 X0 hx hby hml hZ hown hnm hret hlk e0
  have hown : s.vm.findClass "com/example/mistgraph/mistgraph/core/Connections" = some m.cls := hown
  have N0 := Fr.nil n0
  have K0 := Keep.refl h0 []
  refine own_st (fun wt wk => castTop (g' := mkF m 0 #[.val (.ref aa), .val (.ref an), .val (.int (4 : Int32)), .unset, .unset] []) (by first | (simp [entryFrame, mkF, argsToLocals, Value.category]; done) | rfl) wk) ?_
  show Fin1 p e below s (rmS4Q Z aa an ka kn x0 x1 x2 x3 y0 y1 y2 y3 h0 n0) ({ frames := 0, cells := 1, slots := 4, locals := 0 } : Room).cells ({ frames := 0, cells := 1, slots := 4, locals := 0 } : Room).slots (T0.setTop (mkF m 0 #[.val (.ref aa), .val (.ref an), .val (.int (4 : Int32)), .unset, .unset] []))
  refine own_st (fun wt wk => XS.iloadN X0.here hx rfl (hb hby d1_0) rfl wk) ?_
  show Fin1 p e below s (rmS4Q Z aa an ka kn x0 x1 x2 x3 y0 y1 y2 y3 h0 n0) ({ frames := 0, cells := 1, slots := 4, locals := 0 } : Room).cells ({ frames := 0, cells := 1, slots := 4, locals := 0 } : Room).slots (T0.setTop (mkF m 1 #[.val (.ref aa), .val (.ref an), .val (.int (4 : Int32)), .unset, .unset] [(.int (4 : Int32))]))
  obtain ⟨T1, h1, kc1, X1, e1, E1, A1, st1⟩ := newP X0 hx hZ (hw _ (List.mem_of_getElem? (i := 0) rfl)) e0 (g := (mkF m 1 #[.val (.ref aa), .val (.ref an), .val (.int (4 : Int32)), .unset, .unset] [(.int (4 : Int32))])) rfl (hb hby d1_1) rfl (by decide) (cap := 4) (by decide) (by decide) (by decide) (by decide)
  obtain ⟨b1, gz_b1⟩ : ∃ z, z = h0.size := ⟨_, rfl⟩
  rw [← gz_b1] at A1 st1
  have ne_aa_b1 : aa ≠ b1 := Nat.ne_of_lt (Nat.lt_of_lt_of_le V_aa.lt (Nat.le_of_eq gz_b1.symm))
  have ne_an_b1 : an ≠ b1 := Nat.ne_of_lt (Nat.lt_of_lt_of_le V_an.lt (Nat.le_of_eq gz_b1.symm))
  have sz_b1 : h0.size ≤ b1 := Nat.le_trans K0.1 (Nat.le_of_eq gz_b1.symm)
  have g_b1 : n0 ≤ b1 := Nat.le_trans Z0 (Nat.le_of_eq gz_b1.symm)
  have Z0 := Nat.le_trans Z0 E1.1
  have K0 := K0.ext E1
  have V_aa := V_aa.ext E1
  have V_an := V_an.ext E1
  refine own_st st1 ?_
  have V_b1 : Arv Z h1 b1 kc1 .int (4 : Int32) [(.int (0 : Int32)), (.int (0 : Int32)), (.int (0 : Int32)), (.int (0 : Int32))] (.int (0 : Int32)) := (Arv.new A1 (by decide)).pad (pad_rep [] (.int (0 : Int32)) 4)
  show Fin1 p e below s (rmS4Q Z aa an ka kn x0 x1 x2 x3 y0 y1 y2 y3 h0 n0) ({ frames := 0, cells := 1, slots := 4, locals := 0 } : Room).cells ({ frames := 0, cells := 1, slots := 4, locals := 0 } : Room).slots (T1.setTop (mkF m 3 #[.val (.ref aa), .val (.ref an), .val (.int (4 : Int32)), .unset, .unset] [(.ref b1)]))
  refine own_st (fun wt wk => XS.astoreN X1.here hx rfl (hb hby d1_3) rfl rfl (l' := #[.val (.ref aa), .val (.ref an), .val (.int (4 : Int32)), .val (.ref b1), .unset]) rfl wk) ?_
  show Fin1 p e below s (rmS4Q Z aa an ka kn x0 x1 x2 x3 y0 y1 y2 y3 h0 n0) ({ frames := 0, cells := 1, slots := 4, locals := 0 } : Room).cells ({ frames := 0, cells := 1, slots := 4, locals := 0 } : Room).slots (T1.setTop (mkF m 4 #[.val (.ref aa), .val (.ref an), .val (.int (4 : Int32)), .val (.ref b1), .unset] []))
  refine own_st (fun wt wk => XS.iconst X1.here hx rfl (hb hby d1_4) wk) ?_
  show Fin1 p e below s (rmS4Q Z aa an ka kn x0 x1 x2 x3 y0 y1 y2 y3 h0 n0) ({ frames := 0, cells := 1, slots := 4, locals := 0 } : Room).cells ({ frames := 0, cells := 1, slots := 4, locals := 0 } : Room).slots (T1.setTop (mkF m 5 #[.val (.ref aa), .val (.ref an), .val (.int (4 : Int32)), .val (.ref b1), .unset] [(.int (0 : Int32))]))
  refine own_st (fun wt wk => XS.istore X1.here hx rfl (hb hby d1_5) rfl (l' := #[.val (.ref aa), .val (.ref an), .val (.int (4 : Int32)), .val (.ref b1), .val (.int (0 : Int32))]) rfl wk) ?_
  show Fin1 p e below s (rmS4Q Z aa an ka kn x0 x1 x2 x3 y0 y1 y2 y3 h0 n0) ({ frames := 0, cells := 1, slots := 4, locals := 0 } : Room).cells ({ frames := 0, cells := 1, slots := 4, locals := 0 } : Room).slots (T1.setTop (mkF m 7 #[.val (.ref aa), .val (.ref an), .val (.int (4 : Int32)), .val (.ref b1), .val (.int (0 : Int32))] []))
  refine own_st (fun wt wk => XS.iload X1.here hx rfl (hb hby d1_7) rfl wk) ?_
  show Fin1 p e below s (rmS4Q Z aa an ka kn x0 x1 x2 x3 y0 y1 y2 y3 h0 n0) ({ frames := 0, cells := 1, slots := 4, locals := 0 } : Room).cells ({ frames := 0, cells := 1, slots := 4, locals := 0 } : Room).slots (T1.setTop (mkF m 9 #[.val (.ref aa), .val (.ref an), .val (.int (4 : Int32)), .val (.ref b1), .val (.int (0 : Int32))] [(.int (0 : Int32))]))
  refine own_st (fun wt wk => XS.iloadN X1.here hx rfl (hb hby d1_9) rfl wk) ?_
  show Fin1 p e below s (rmS4Q Z aa an ka kn x0 x1 x2 x3 y0 y1 y2 y3 h0 n0) ({ frames := 0, cells := 1, slots := 4, locals := 0 } : Room).cells ({ frames := 0, cells := 1, slots := 4, locals := 0 } : Room).slots (T1.setTop (mkF m 10 #[.val (.ref aa), .val (.ref an), .val (.int (4 : Int32)), .val (.ref b1), .val (.int (0 : Int32))] [(.int (4 : Int32)), (.int (0 : Int32))]))
  refine own_st (fun wt wk => XS.icmpNo X1.here hx rfl (hb hby d1_10) rfl (tlt (by decide)).2.1 wk) ?_
  show Fin1 p e below s (rmS4Q Z aa an ka kn x0 x1 x2 x3 y0 y1 y2 y3 h0 n0) ({ frames := 0, cells := 1, slots := 4, locals := 0 } : Room).cells ({ frames := 0, cells := 1, slots := 4, locals := 0 } : Room).slots (T1.setTop (mkF m 13 #[.val (.ref aa), .val (.ref an), .val (.int (4 : Int32)), .val (.ref b1), .val (.int (0 : Int32))] []))
  refine own_st (fun wt wk => XS.aloadN X1.here hx rfl (hb hby d1_13) rfl rfl wk) ?_
  show Fin1 p e below s (rmS4Q Z aa an ka kn x0 x1 x2 x3 y0 y1 y2 y3 h0 n0) ({ frames := 0, cells := 1, slots := 4, locals := 0 } : Room).cells ({ frames := 0, cells := 1, slots := 4, locals := 0 } : Room).slots (T1.setTop (mkF m 14 #[.val (.ref aa), .val (.ref an), .val (.int (4 : Int32)), .val (.ref b1), .val (.int (0 : Int32))] [(.ref b1)]))
  refine own_st (fun wt wk => XS.iload X1.here hx rfl (hb hby d1_14) rfl wk) ?_
  show Fin1 p e below s (rmS4Q Z aa an ka kn x0 x1 x2 x3 y0 y1 y2 y3 h0 n0) ({ frames := 0, cells := 1, slots := 4, locals := 0 } : Room).cells ({ frames := 0, cells := 1, slots := 4, locals := 0 } : Room).slots (T1.setTop (mkF m 16 #[.val (.ref aa), .val (.ref an), .val (.int (4 : Int32)), .val (.ref b1), .val (.int (0 : Int32))] [(.int (0 : Int32)), (.ref b1)]))
  refine own_st (fun wt wk => XS.aloadN X1.here hx rfl (hb hby d1_16) rfl rfl wk) ?_
  show Fin1 p e below s (rmS4Q Z aa an ka kn x0 x1 x2 x3 y0 y1 y2 y3 h0 n0) ({ frames := 0, cells := 1, slots := 4, locals := 0 } : Room).cells ({ frames := 0, cells := 1, slots := 4, locals := 0 } : Room).slots (T1.setTop (mkF m 17 #[.val (.ref aa), .val (.ref an), .val (.int (4 : Int32)), .val (.ref b1), .val (.int (0 : Int32))] [(.ref aa), (.int (0 : Int32)), (.ref b1)]))
  refine own_st (fun wt wk => XS.aloadN X1.here hx rfl (hb hby d1_17) rfl rfl wk) ?_
  show Fin1 p e below s (rmS4Q Z aa an ka kn x0 x1 x2 x3 y0 y1 y2 y3 h0 n0) ({ frames := 0, cells := 1, slots := 4, locals := 0 } : Room).cells ({ frames := 0, cells := 1, slots := 4, locals := 0 } : Room).slots (T1.setTop (mkF m 18 #[.val (.ref aa), .val (.ref an), .val (.int (4 : Int32)), .val (.ref b1), .val (.int (0 : Int32))] [(.ref an), (.ref aa), (.int (0 : Int32)), (.ref b1)]))
  refine own_st (fun wt wk => XS.iload X1.here hx rfl (hb hby d1_18) rfl wk) ?_
  show Fin1 p e below s (rmS4Q Z aa an ka kn x0 x1 x2 x3 y0 y1 y2 y3 h0 n0) ({ frames := 0, cells := 1, slots := 4, locals := 0 } : Room).cells ({ frames := 0, cells := 1, slots := 4, locals := 0 } : Room).slots (T1.setTop (mkF m 20 #[.val (.ref aa), .val (.ref an), .val (.int (4 : Int32)), .val (.ref b1), .val (.int (0 : Int32))] [(.int (0 : Int32)), (.ref an), (.ref aa), (.int (0 : Int32)), (.ref b1)]))
  refine own_st (own_ld (j := (0 : Int32)) (v := (.int y0)) X1 hx hZ e1 V_an ⟨by decide, by decide⟩ rfl (g := (mkF m 20 #[.val (.ref aa), .val (.ref an), .val (.int (4 : Int32)), .val (.ref b1), .val (.int (0 : Int32))] [(.int (0 : Int32)), (.ref an), (.ref aa), (.int (0 : Int32)), (.ref b1)])) rfl rfl (Or.inl ⟨rfl, rfl⟩) (hb hby d1_20)) ?_
  show Fin1 p e below s (rmS4Q Z aa an ka kn x0 x1 x2 x3 y0 y1 y2 y3 h0 n0) ({ frames := 0, cells := 1, slots := 4, locals := 0 } : Room).cells ({ frames := 0, cells := 1, slots := 4, locals := 0 } : Room).slots (T1.setTop (mkF m 21 #[.val (.ref aa), .val (.ref an), .val (.int (4 : Int32)), .val (.ref b1), .val (.int (0 : Int32))] [(.int y0), (.ref aa), (.int (0 : Int32)), (.ref b1)]))
  refine own_st (own_ld (j := y0) (v := (.int (own_pick x0 x1 x2 x3 y0))) X1 hx hZ e1 V_aa r0 (own_get _ _ _ _ _ r0) (g := (mkF m 21 #[.val (.ref aa), .val (.ref an), .val (.int (4 : Int32)), .val (.ref b1), .val (.int (0 : Int32))] [(.int y0), (.ref aa), (.int (0 : Int32)), (.ref b1)])) rfl rfl (Or.inl ⟨rfl, rfl⟩) (hb hby d1_21)) ?_
  show Fin1 p e below s (rmS4Q Z aa an ka kn x0 x1 x2 x3 y0 y1 y2 y3 h0 n0) ({ frames := 0, cells := 1, slots := 4, locals := 0 } : Room).cells ({ frames := 0, cells := 1, slots := 4, locals := 0 } : Room).slots (T1.setTop (mkF m 22 #[.val (.ref aa), .val (.ref an), .val (.int (4 : Int32)), .val (.ref b1), .val (.int (0 : Int32))] [(.int (own_pick x0 x1 x2 x3 y0)), (.int (0 : Int32)), (.ref b1)]))
  obtain ⟨T2, h2, X2, e2, W2, U2, st2⟩ := own_stI (j := (0 : Int32)) X1 hx hZ e1 V_b1 ⟨by decide, by decide⟩ 0 rfl (by simp) (g := (mkF m 22 #[.val (.ref aa), .val (.ref an), .val (.int (4 : Int32)), .val (.ref b1), .val (.int (0 : Int32))] [(.int (own_pick x0 x1 x2 x3 y0)), (.int (0 : Int32)), (.ref b1)])) rfl rfl (hb hby d1_22)
  have N2 := Fr.snoc X2 N0 g_b1
  have Z0 := Nat.le_trans Z0 (Nat.le_of_eq W2.size.symm)
  have K0 := K0.wr W2 (Or.inr sz_b1)
  have V_aa := V_aa.other W2 ne_aa_b1
  have V_an := V_an.other W2 ne_an_b1
  have V_b1 : Arv Z h2 b1 kc1 .int (4 : Int32) [(.int (own_pick x0 x1 x2 x3 y0)), (.int (0 : Int32)), (.int (0 : Int32)), (.int (0 : Int32))] (.int (0 : Int32)) := U2
  refine own_st st2 ?_
  show Fin1 p e below s (rmS4Q Z aa an ka kn x0 x1 x2 x3 y0 y1 y2 y3 h0 n0) ({ frames := 0, cells := 1, slots := 4, locals := 0 } : Room).cells ({ frames := 0, cells := 1, slots := 4, locals := 0 } : Room).slots (T2.setTop (mkF m 23 #[.val (.ref aa), .val (.ref an), .val (.int (4 : Int32)), .val (.ref b1), .val (.int (0 : Int32))] []))
  refine own_st (fun wt wk => XS.iinc X2.here hx rfl (hb hby d1_23) rfl (l' := #[.val (.ref aa), .val (.ref an), .val (.int (4 : Int32)), .val (.ref b1), .val (.int (1 : Int32))]) rfl wk) ?_
  show Fin1 p e below s (rmS4Q Z aa an ka kn x0 x1 x2 x3 y0 y1 y2 y3 h0 n0) ({ frames := 0, cells := 1, slots := 4, locals := 0 } : Room).cells ({ frames := 0, cells := 1, slots := 4, locals := 0 } : Room).slots (T2.setTop (mkF m 26 #[.val (.ref aa), .val (.ref an), .val (.int (4 : Int32)), .val (.ref b1), .val (.int (1 : Int32))] []))
  refine own_st (fun wt wk => XS.goto X2.here hx rfl (pc0 := 26) (pc' := 7) rfl (hb hby d1_26) (by decide) (by decide) wk) ?_
  show Fin1 p e below s (rmS4Q Z aa an ka kn x0 x1 x2 x3 y0 y1 y2 y3 h0 n0) ({ frames := 0, cells := 1, slots := 4, locals := 0 } : Room).cells ({ frames := 0, cells := 1, slots := 4, locals := 0 } : Room).slots (T2.setTop (mkF m 7 #[.val (.ref aa), .val (.ref an), .val (.int (4 : Int32)), .val (.ref b1), .val (.int (1 : Int32))] []))
  refine own_st (fun wt wk => XS.iload X2.here hx rfl (hb hby d1_7) rfl wk) ?_
  show Fin1 p e below s (rmS4Q Z aa an ka kn x0 x1 x2 x3 y0 y1 y2 y3 h0 n0) ({ frames := 0, cells := 1, slots := 4, locals := 0 } : Room).cells ({ frames := 0, cells := 1, slots := 4, locals := 0 } : Room).slots (T2.setTop (mkF m 9 #[.val (.ref aa), .val (.ref an), .val (.int (4 : Int32)), .val (.ref b1), .val (.int (1 : Int32))] [(.int (1 : Int32))]))
  refine own_st (fun wt wk => XS.iloadN X2.here hx rfl (hb hby d1_9) rfl wk) ?_
  show Fin1 p e below s (rmS4Q Z aa an ka kn x0 x1 x2 x3 y0 y1 y2 y3 h0 n0) ({ frames := 0, cells := 1, slots := 4, locals := 0 } : Room).cells ({ frames := 0, cells := 1, slots := 4, locals := 0 } : Room).slots (T2.setTop (mkF m 10 #[.val (.ref aa), .val (.ref an), .val (.int (4 : Int32)), .val (.ref b1), .val (.int (1 : Int32))] [(.int (4 : Int32)), (.int (1 : Int32))]))
  refine own_st (fun wt wk => XS.icmpNo X2.here hx rfl (hb hby d1_10) rfl (tlt (by decide)).2.1 wk) ?_
  show Fin1 p e below s (rmS4Q Z aa an ka kn x0 x1 x2 x3 y0 y1 y2 y3 h0 n0) ({ frames := 0, cells := 1, slots := 4, locals := 0 } : Room).cells ({ frames := 0, cells := 1, slots := 4, locals := 0 } : Room).slots (T2.setTop (mkF m 13 #[.val (.ref aa), .val (.ref an), .val (.int (4 : Int32)), .val (.ref b1), .val (.int (1 : Int32))] []))
  refine own_st (fun wt wk => XS.aloadN X2.here hx rfl (hb hby d1_13) rfl rfl wk) ?_
  show Fin1 p e below s (rmS4Q Z aa an ka kn x0 x1 x2 x3 y0 y1 y2 y3 h0 n0) ({ frames := 0, cells := 1, slots := 4, locals := 0 } : Room).cells ({ frames := 0, cells := 1, slots := 4, locals := 0 } : Room).slots (T2.setTop (mkF m 14 #[.val (.ref aa), .val (.ref an), .val (.int (4 : Int32)), .val (.ref b1), .val (.int (1 : Int32))] [(.ref b1)]))
  refine own_st (fun wt wk => XS.iload X2.here hx rfl (hb hby d1_14) rfl wk) ?_
  show Fin1 p e below s (rmS4Q Z aa an ka kn x0 x1 x2 x3 y0 y1 y2 y3 h0 n0) ({ frames := 0, cells := 1, slots := 4, locals := 0 } : Room).cells ({ frames := 0, cells := 1, slots := 4, locals := 0 } : Room).slots (T2.setTop (mkF m 16 #[.val (.ref aa), .val (.ref an), .val (.int (4 : Int32)), .val (.ref b1), .val (.int (1 : Int32))] [(.int (1 : Int32)), (.ref b1)]))
  refine own_st (fun wt wk => XS.aloadN X2.here hx rfl (hb hby d1_16) rfl rfl wk) ?_
  show Fin1 p e below s (rmS4Q Z aa an ka kn x0 x1 x2 x3 y0 y1 y2 y3 h0 n0) ({ frames := 0, cells := 1, slots := 4, locals := 0 } : Room).cells ({ frames := 0, cells := 1, slots := 4, locals := 0 } : Room).slots (T2.setTop (mkF m 17 #[.val (.ref aa), .val (.ref an), .val (.int (4 : Int32)), .val (.ref b1), .val (.int (1 : Int32))] [(.ref aa), (.int (1 : Int32)), (.ref b1)]))
  refine own_st (fun wt wk => XS.aloadN X2.here hx rfl (hb hby d1_17) rfl rfl wk) ?_
  show Fin1 p e below s (rmS4Q Z aa an ka kn x0 x1 x2 x3 y0 y1 y2 y3 h0 n0) ({ frames := 0, cells := 1, slots := 4, locals := 0 } : Room).cells ({ frames := 0, cells := 1, slots := 4, locals := 0 } : Room).slots (T2.setTop (mkF m 18 #[.val (.ref aa), .val (.ref an), .val (.int (4 : Int32)), .val (.ref b1), .val (.int (1 : Int32))] [(.ref an), (.ref aa), (.int (1 : Int32)), (.ref b1)]))
  refine own_st (fun wt wk => XS.iload X2.here hx rfl (hb hby d1_18) rfl wk) ?_
  show Fin1 p e below s (rmS4Q Z aa an ka kn x0 x1 x2 x3 y0 y1 y2 y3 h0 n0) ({ frames := 0, cells := 1, slots := 4, locals := 0 } : Room).cells ({ frames := 0, cells := 1, slots := 4, locals := 0 } : Room).slots (T2.setTop (mkF m 20 #[.val (.ref aa), .val (.ref an), .val (.int (4 : Int32)), .val (.ref b1), .val (.int (1 : Int32))] [(.int (1 : Int32)), (.ref an), (.ref aa), (.int (1 : Int32)), (.ref b1)]))
  refine own_st (own_ld (j := (1 : Int32)) (v := (.int y1)) X2 hx hZ e2 V_an ⟨by decide, by decide⟩ rfl (g := (mkF m 20 #[.val (.ref aa), .val (.ref an), .val (.int (4 : Int32)), .val (.ref b1), .val (.int (1 : Int32))] [(.int (1 : Int32)), (.ref an), (.ref aa), (.int (1 : Int32)), (.ref b1)])) rfl rfl (Or.inl ⟨rfl, rfl⟩) (hb hby d1_20)) ?_
  show Fin1 p e below s (rmS4Q Z aa an ka kn x0 x1 x2 x3 y0 y1 y2 y3 h0 n0) ({ frames := 0, cells := 1, slots := 4, locals := 0 } : Room).cells ({ frames := 0, cells := 1, slots := 4, locals := 0 } : Room).slots (T2.setTop (mkF m 21 #[.val (.ref aa), .val (.ref an), .val (.int (4 : Int32)), .val (.ref b1), .val (.int (1 : Int32))] [(.int y1), (.ref aa), (.int (1 : Int32)), (.ref b1)]))
  refine own_st (own_ld (j := y1) (v := (.int (own_pick x0 x1 x2 x3 y1))) X2 hx hZ e2 V_aa r1 (own_get _ _ _ _ _ r1) (g := (mkF m 21 #[.val (.ref aa), .val (.ref an), .val (.int (4 : Int32)), .val (.ref b1), .val (.int (1 : Int32))] [(.int y1), (.ref aa), (.int (1 : Int32)), (.ref b1)])) rfl rfl (Or.inl ⟨rfl, rfl⟩) (hb hby d1_21)) ?_
  show Fin1 p e below s (rmS4Q Z aa an ka kn x0 x1 x2 x3 y0 y1 y2 y3 h0 n0) ({ frames := 0, cells := 1, slots := 4, locals := 0 } : Room).cells ({ frames := 0, cells := 1, slots := 4, locals := 0 } : Room).slots (T2.setTop (mkF m 22 #[.val (.ref aa), .val (.ref an), .val (.int (4 : Int32)), .val (.ref b1), .val (.int (1 : Int32))] [(.int (own_pick x0 x1 x2 x3 y1)), (.int (1 : Int32)), (.ref b1)]))
  obtain ⟨T3, h3, X3, e3, W3, U3, st3⟩ := own_stI (j := (1 : Int32)) X2 hx hZ e2 V_b1 ⟨by decide, by decide⟩ 1 rfl (by simp) (g := (mkF m 22 #[.val (.ref aa), .val (.ref an), .val (.int (4 : Int32)), .val (.ref b1), .val (.int (1 : Int32))] [(.int (own_pick x0 x1 x2 x3 y1)), (.int (1 : Int32)), (.ref b1)])) rfl rfl (hb hby d1_22)
  have N3 := Fr.snoc X3 N2 g_b1
  have Z0 := Nat.le_trans Z0 (Nat.le_of_eq W3.size.symm)
  have K0 := K0.wr W3 (Or.inr sz_b1)
  have V_aa := V_aa.other W3 ne_aa_b1
  have V_an := V_an.other W3 ne_an_b1
  have V_b1 : Arv Z h3 b1 kc1 .int (4 : Int32) [(.int (own_pick x0 x1 x2 x3 y0)), (.int (own_pick x0 x1 x2 x3 y1)), (.int (0 : Int32)), (.int (0 : Int32))] (.int (0 : Int32)) := U3
  refine own_st st3 ?_
  show Fin1 p e below s (rmS4Q Z aa an ka kn x0 x1 x2 x3 y0 y1 y2 y3 h0 n0) ({ frames := 0, cells := 1, slots := 4, locals := 0 } : Room).cells ({ frames := 0, cells := 1, slots := 4, locals := 0 } : Room).slots (T3.setTop (mkF m 23 #[.val (.ref aa), .val (.ref an), .val (.int (4 : Int32)), .val (.ref b1), .val (.int (1 : Int32))] []))
  refine own_st (fun wt wk => XS.iinc X3.here hx rfl (hb hby d1_23) rfl (l' := #[.val (.ref aa), .val (.ref an), .val (.int (4 : Int32)), .val (.ref b1), .val (.int (2 : Int32))]) rfl wk) ?_
  show Fin1 p e below s (rmS4Q Z aa an ka kn x0 x1 x2 x3 y0 y1 y2 y3 h0 n0) ({ frames := 0, cells := 1, slots := 4, locals := 0 } : Room).cells ({ frames := 0, cells := 1, slots := 4, locals := 0 } : Room).slots (T3.setTop (mkF m 26 #[.val (.ref aa), .val (.ref an), .val (.int (4 : Int32)), .val (.ref b1), .val (.int (2 : Int32))] []))
  refine own_st (fun wt wk => XS.goto X3.here hx rfl (pc0 := 26) (pc' := 7) rfl (hb hby d1_26) (by decide) (by decide) wk) ?_
  show Fin1 p e below s (rmS4Q Z aa an ka kn x0 x1 x2 x3 y0 y1 y2 y3 h0 n0) ({ frames := 0, cells := 1, slots := 4, locals := 0 } : Room).cells ({ frames := 0, cells := 1, slots := 4, locals := 0 } : Room).slots (T3.setTop (mkF m 7 #[.val (.ref aa), .val (.ref an), .val (.int (4 : Int32)), .val (.ref b1), .val (.int (2 : Int32))] []))
  refine own_st (fun wt wk => XS.iload X3.here hx rfl (hb hby d1_7) rfl wk) ?_
  show Fin1 p e below s (rmS4Q Z aa an ka kn x0 x1 x2 x3 y0 y1 y2 y3 h0 n0) ({ frames := 0, cells := 1, slots := 4, locals := 0 } : Room).cells ({ frames := 0, cells := 1, slots := 4, locals := 0 } : Room).slots (T3.setTop (mkF m 9 #[.val (.ref aa), .val (.ref an), .val (.int (4 : Int32)), .val (.ref b1), .val (.int (2 : Int32))] [(.int (2 : Int32))]))
  refine own_st (fun wt wk => XS.iloadN X3.here hx rfl (hb hby d1_9) rfl wk) ?_
  show Fin1 p e below s (rmS4Q Z aa an ka kn x0 x1 x2 x3 y0 y1 y2 y3 h0 n0) ({ frames := 0, cells := 1, slots := 4, locals := 0 } : Room).cells ({ frames := 0, cells := 1, slots := 4, locals := 0 } : Room).slots (T3.setTop (mkF m 10 #[.val (.ref aa), .val (.ref an), .val (.int (4 : Int32)), .val (.ref b1), .val (.int (2 : Int32))] [(.int (4 : Int32)), (.int (2 : Int32))]))
  refine own_st (fun wt wk => XS.icmpNo X3.here hx rfl (hb hby d1_10) rfl (tlt (by decide)).2.1 wk) ?_
  show Fin1 p e below s (rmS4Q Z aa an ka kn x0 x1 x2 x3 y0 y1 y2 y3 h0 n0) ({ frames := 0, cells := 1, slots := 4, locals := 0 } : Room).cells ({ frames := 0, cells := 1, slots := 4, locals := 0 } : Room).slots (T3.setTop (mkF m 13 #[.val (.ref aa), .val (.ref an), .val (.int (4 : Int32)), .val (.ref b1), .val (.int (2 : Int32))] []))
  refine own_st (fun wt wk => XS.aloadN X3.here hx rfl (hb hby d1_13) rfl rfl wk) ?_
  show Fin1 p e below s (rmS4Q Z aa an ka kn x0 x1 x2 x3 y0 y1 y2 y3 h0 n0) ({ frames := 0, cells := 1, slots := 4, locals := 0 } : Room).cells ({ frames := 0, cells := 1, slots := 4, locals := 0 } : Room).slots (T3.setTop (mkF m 14 #[.val (.ref aa), .val (.ref an), .val (.int (4 : Int32)), .val (.ref b1), .val (.int (2 : Int32))] [(.ref b1)]))
  refine own_st (fun wt wk => XS.iload X3.here hx rfl (hb hby d1_14) rfl wk) ?_
  show Fin1 p e below s (rmS4Q Z aa an ka kn x0 x1 x2 x3 y0 y1 y2 y3 h0 n0) ({ frames := 0, cells := 1, slots := 4, locals := 0 } : Room).cells ({ frames := 0, cells := 1, slots := 4, locals := 0 } : Room).slots (T3.setTop (mkF m 16 #[.val (.ref aa), .val (.ref an), .val (.int (4 : Int32)), .val (.ref b1), .val (.int (2 : Int32))] [(.int (2 : Int32)), (.ref b1)]))
  refine own_st (fun wt wk => XS.aloadN X3.here hx rfl (hb hby d1_16) rfl rfl wk) ?_
  show Fin1 p e below s (rmS4Q Z aa an ka kn x0 x1 x2 x3 y0 y1 y2 y3 h0 n0) ({ frames := 0, cells := 1, slots := 4, locals := 0 } : Room).cells ({ frames := 0, cells := 1, slots := 4, locals := 0 } : Room).slots (T3.setTop (mkF m 17 #[.val (.ref aa), .val (.ref an), .val (.int (4 : Int32)), .val (.ref b1), .val (.int (2 : Int32))] [(.ref aa), (.int (2 : Int32)), (.ref b1)]))
  refine own_st (fun wt wk => XS.aloadN X3.here hx rfl (hb hby d1_17) rfl rfl wk) ?_
  show Fin1 p e below s (rmS4Q Z aa an ka kn x0 x1 x2 x3 y0 y1 y2 y3 h0 n0) ({ frames := 0, cells := 1, slots := 4, locals := 0 } : Room).cells ({ frames := 0, cells := 1, slots := 4, locals := 0 } : Room).slots (T3.setTop (mkF m 18 #[.val (.ref aa), .val (.ref an), .val (.int (4 : Int32)), .val (.ref b1), .val (.int (2 : Int32))] [(.ref an), (.ref aa), (.int (2 : Int32)), (.ref b1)]))
  refine own_st (fun wt wk => XS.iload X3.here hx rfl (hb hby d1_18) rfl wk) ?_
  show Fin1 p e below s (rmS4Q Z aa an ka kn x0 x1 x2 x3 y0 y1 y2 y3 h0 n0) ({ frames := 0, cells := 1, slots := 4, locals := 0 } : Room).cells ({ frames := 0, cells := 1, slots := 4, locals := 0 } : Room).slots (T3.setTop (mkF m 20 #[.val (.ref aa), .val (.ref an), .val (.int (4 : Int32)), .val (.ref b1), .val (.int (2 : Int32))] [(.int (2 : Int32)), (.ref an), (.ref aa), (.int (2 : Int32)), (.ref b1)]))
  refine own_st (own_ld (j := (2 : Int32)) (v := (.int y2)) X3 hx hZ e3 V_an ⟨by decide, by decide⟩ rfl (g := (mkF m 20 #[.val (.ref aa), .val (.ref an), .val (.int (4 : Int32)), .val (.ref b1), .val (.int (2 : Int32))] [(.int (2 : Int32)), (.ref an), (.ref aa), (.int (2 : Int32)), (.ref b1)])) rfl rfl (Or.inl ⟨rfl, rfl⟩) (hb hby d1_20)) ?_
  show Fin1 p e below s (rmS4Q Z aa an ka kn x0 x1 x2 x3 y0 y1 y2 y3 h0 n0) ({ frames := 0, cells := 1, slots := 4, locals := 0 } : Room).cells ({ frames := 0, cells := 1, slots := 4, locals := 0 } : Room).slots (T3.setTop (mkF m 21 #[.val (.ref aa), .val (.ref an), .val (.int (4 : Int32)), .val (.ref b1), .val (.int (2 : Int32))] [(.int y2), (.ref aa), (.int (2 : Int32)), (.ref b1)]))
  refine own_st (own_ld (j := y2) (v := (.int (own_pick x0 x1 x2 x3 y2))) X3 hx hZ e3 V_aa r2 (own_get _ _ _ _ _ r2) (g := (mkF m 21 #[.val (.ref aa), .val (.ref an), .val (.int (4 : Int32)), .val (.ref b1), .val (.int (2 : Int32))] [(.int y2), (.ref aa), (.int (2 : Int32)), (.ref b1)])) rfl rfl (Or.inl ⟨rfl, rfl⟩) (hb hby d1_21)) ?_
  show Fin1 p e below s (rmS4Q Z aa an ka kn x0 x1 x2 x3 y0 y1 y2 y3 h0 n0) ({ frames := 0, cells := 1, slots := 4, locals := 0 } : Room).cells ({ frames := 0, cells := 1, slots := 4, locals := 0 } : Room).slots (T3.setTop (mkF m 22 #[.val (.ref aa), .val (.ref an), .val (.int (4 : Int32)), .val (.ref b1), .val (.int (2 : Int32))] [(.int (own_pick x0 x1 x2 x3 y2)), (.int (2 : Int32)), (.ref b1)]))
  obtain ⟨T4, h4, X4, e4, W4, U4, st4⟩ := own_stI (j := (2 : Int32)) X3 hx hZ e3 V_b1 ⟨by decide, by decide⟩ 2 rfl (by simp) (g := (mkF m 22 #[.val (.ref aa), .val (.ref an), .val (.int (4 : Int32)), .val (.ref b1), .val (.int (2 : Int32))] [(.int (own_pick x0 x1 x2 x3 y2)), (.int (2 : Int32)), (.ref b1)])) rfl rfl (hb hby d1_22)
  have N4 := Fr.snoc X4 N3 g_b1
  have Z0 := Nat.le_trans Z0 (Nat.le_of_eq W4.size.symm)
  have K0 := K0.wr W4 (Or.inr sz_b1)
  have V_aa := V_aa.other W4 ne_aa_b1
  have V_an := V_an.other W4 ne_an_b1
  have V_b1 : Arv Z h4 b1 kc1 .int (4 : Int32) [(.int (own_pick x0 x1 x2 x3 y0)), (.int (own_pick x0 x1 x2 x3 y1)), (.int (own_pick x0 x1 x2 x3 y2)), (.int (0 : Int32))] (.int (0 : Int32)) := U4
  refine own_st st4 ?_
  show Fin1 p e below s (rmS4Q Z aa an ka kn x0 x1 x2 x3 y0 y1 y2 y3 h0 n0) ({ frames := 0, cells := 1, slots := 4, locals := 0 } : Room).cells ({ frames := 0, cells := 1, slots := 4, locals := 0 } : Room).slots (T4.setTop (mkF m 23 #[.val (.ref aa), .val (.ref an), .val (.int (4 : Int32)), .val (.ref b1), .val (.int (2 : Int32))] []))
  refine own_st (fun wt wk => XS.iinc X4.here hx rfl (hb hby d1_23) rfl (l' := #[.val (.ref aa), .val (.ref an), .val (.int (4 : Int32)), .val (.ref b1), .val (.int (3 : Int32))]) rfl wk) ?_
  show Fin1 p e below s (rmS4Q Z aa an ka kn x0 x1 x2 x3 y0 y1 y2 y3 h0 n0) ({ frames := 0, cells := 1, slots := 4, locals := 0 } : Room).cells ({ frames := 0, cells := 1, slots := 4, locals := 0 } : Room).slots (T4.setTop (mkF m 26 #[.val (.ref aa), .val (.ref an), .val (.int (4 : Int32)), .val (.ref b1), .val (.int (3 : Int32))] []))
  refine own_st (fun wt wk => XS.goto X4.here hx rfl (pc0 := 26) (pc' := 7) rfl (hb hby d1_26) (by decide) (by decide) wk) ?_
  show Fin1 p e below s (rmS4Q Z aa an ka kn x0 x1 x2 x3 y0 y1 y2 y3 h0 n0) ({ frames := 0, cells := 1, slots := 4, locals := 0 } : Room).cells ({ frames := 0, cells := 1, slots := 4, locals := 0 } : Room).slots (T4.setTop (mkF m 7 #[.val (.ref aa), .val (.ref an), .val (.int (4 : Int32)), .val (.ref b1), .val (.int (3 : Int32))] []))
  refine own_st (fun wt wk => XS.iload X4.here hx rfl (hb hby d1_7) rfl wk) ?_
  show Fin1 p e below s (rmS4Q Z aa an ka kn x0 x1 x2 x3 y0 y1 y2 y3 h0 n0) ({ frames := 0, cells := 1, slots := 4, locals := 0 } : Room).cells ({ frames := 0, cells := 1, slots := 4, locals := 0 } : Room).slots (T4.setTop (mkF m 9 #[.val (.ref aa), .val (.ref an), .val (.int (4 : Int32)), .val (.ref b1), .val (.int (3 : Int32))] [(.int (3 : Int32))]))
  refine own_st (fun wt wk => XS.iloadN X4.here hx rfl (hb hby d1_9) rfl wk) ?_
  show Fin1 p e below s (rmS4Q Z aa an ka kn x0 x1 x2 x3 y0 y1 y2 y3 h0 n0) ({ frames := 0, cells := 1, slots := 4, locals := 0 } : Room).cells ({ frames := 0, cells := 1, slots := 4, locals := 0 } : Room).slots (T4.setTop (mkF m 10 #[.val (.ref aa), .val (.ref an), .val (.int (4 : Int32)), .val (.ref b1), .val (.int (3 : Int32))] [(.int (4 : Int32)), (.int (3 : Int32))]))
  refine own_st (fun wt wk => XS.icmpNo X4.here hx rfl (hb hby d1_10) rfl (tlt (by decide)).2.1 wk) ?_
  show Fin1 p e below s (rmS4Q Z aa an ka kn x0 x1 x2 x3 y0 y1 y2 y3 h0 n0) ({ frames := 0, cells := 1, slots := 4, locals := 0 } : Room).cells ({ frames := 0, cells := 1, slots := 4, locals := 0 } : Room).slots (T4.setTop (mkF m 13 #[.val (.ref aa), .val (.ref an), .val (.int (4 : Int32)), .val (.ref b1), .val (.int (3 : Int32))] []))
  refine own_st (fun wt wk => XS.aloadN X4.here hx rfl (hb hby d1_13) rfl rfl wk) ?_
  show Fin1 p e below s (rmS4Q Z aa an ka kn x0 x1 x2 x3 y0 y1 y2 y3 h0 n0) ({ frames := 0, cells := 1, slots := 4, locals := 0 } : Room).cells ({ frames := 0, cells := 1, slots := 4, locals := 0 } : Room).slots (T4.setTop (mkF m 14 #[.val (.ref aa), .val (.ref an), .val (.int (4 : Int32)), .val (.ref b1), .val (.int (3 : Int32))] [(.ref b1)]))
  refine own_st (fun wt wk => XS.iload X4.here hx rfl (hb hby d1_14) rfl wk) ?_
  show Fin1 p e below s (rmS4Q Z aa an ka kn x0 x1 x2 x3 y0 y1 y2 y3 h0 n0) ({ frames := 0, cells := 1, slots := 4, locals := 0 } : Room).cells ({ frames := 0, cells := 1, slots := 4, locals := 0 } : Room).slots (T4.setTop (mkF m 16 #[.val (.ref aa), .val (.ref an), .val (.int (4 : Int32)), .val (.ref b1), .val (.int (3 : Int32))] [(.int (3 : Int32)), (.ref b1)]))
  refine own_st (fun wt wk => XS.aloadN X4.here hx rfl (hb hby d1_16) rfl rfl wk) ?_
  show Fin1 p e below s (rmS4Q Z aa an ka kn x0 x1 x2 x3 y0 y1 y2 y3 h0 n0) ({ frames := 0, cells := 1, slots := 4, locals := 0 } : Room).cells ({ frames := 0, cells := 1, slots := 4, locals := 0 } : Room).slots (T4.setTop (mkF m 17 #[.val (.ref aa), .val (.ref an), .val (.int (4 : Int32)), .val (.ref b1), .val (.int (3 : Int32))] [(.ref aa), (.int (3 : Int32)), (.ref b1)]))
  refine own_st (fun wt wk => XS.aloadN X4.here hx rfl (hb hby d1_17) rfl rfl wk) ?_
  show Fin1 p e below s (rmS4Q Z aa an ka kn x0 x1 x2 x3 y0 y1 y2 y3 h0 n0) ({ frames := 0, cells := 1, slots := 4, locals := 0 } : Room).cells ({ frames := 0, cells := 1, slots := 4, locals := 0 } : Room).slots (T4.setTop (mkF m 18 #[.val (.ref aa), .val (.ref an), .val (.int (4 : Int32)), .val (.ref b1), .val (.int (3 : Int32))] [(.ref an), (.ref aa), (.int (3 : Int32)), (.ref b1)]))
  refine own_st (fun wt wk => XS.iload X4.here hx rfl (hb hby d1_18) rfl wk) ?_
  show Fin1 p e below s (rmS4Q Z aa an ka kn x0 x1 x2 x3 y0 y1 y2 y3 h0 n0) ({ frames := 0, cells := 1, slots := 4, locals := 0 } : Room).cells ({ frames := 0, cells := 1, slots := 4, locals := 0 } : Room).slots (T4.setTop (mkF m 20 #[.val (.ref aa), .val (.ref an), .val (.int (4 : Int32)), .val (.ref b1), .val (.int (3 : Int32))] [(.int (3 : Int32)), (.ref an), (.ref aa), (.int (3 : Int32)), (.ref b1)]))
  refine own_st (own_ld (j := (3 : Int32)) (v := (.int y3)) X4 hx hZ e4 V_an ⟨by decide, by decide⟩ rfl (g := (mkF m 20 #[.val (.ref aa), .val (.ref an), .val (.int (4 : Int32)), .val (.ref b1), .val (.int (3 : Int32))] [(.int (3 : Int32)), (.ref an), (.ref aa), (.int (3 : Int32)), (.ref b1)])) rfl rfl (Or.inl ⟨rfl, rfl⟩) (hb hby d1_20)) ?_
  show Fin1 p e below s (rmS4Q Z aa an ka kn x0 x1 x2 x3 y0 y1 y2 y3 h0 n0) ({ frames := 0, cells := 1, slots := 4, locals := 0 } : Room).cells ({ frames := 0, cells := 1, slots := 4, locals := 0 } : Room).slots (T4.setTop (mkF m 21 #[.val (.ref aa), .val (.ref an), .val (.int (4 : Int32)), .val (.ref b1), .val (.int (3 : Int32))] [(.int y3), (.ref aa), (.int (3 : Int32)), (.ref b1)]))
  refine own_st (own_ld (j := y3) (v := (.int (own_pick x0 x1 x2 x3 y3))) X4 hx hZ e4 V_aa r3 (own_get _ _ _ _ _ r3) (g := (mkF m 21 #[.val (.ref aa), .val (.ref an), .val (.int (4 : Int32)), .val (.ref b1), .val (.int (3 : Int32))] [(.int y3), (.ref aa), (.int (3 : Int32)), (.ref b1)])) rfl rfl (Or.inl ⟨rfl, rfl⟩) (hb hby d1_21)) ?_
  show Fin1 p e below s (rmS4Q Z aa an ka kn x0 x1 x2 x3 y0 y1 y2 y3 h0 n0) ({ frames := 0, cells := 1, slots := 4, locals := 0 } : Room).cells ({ frames := 0, cells := 1, slots := 4, locals := 0 } : Room).slots (T4.setTop (mkF m 22 #[.val (.ref aa), .val (.ref an), .val (.int (4 : Int32)), .val (.ref b1), .val (.int (3 : Int32))] [(.int (own_pick x0 x1 x2 x3 y3)), (.int (3 : Int32)), (.ref b1)]))
  obtain ⟨T5, h5, X5, e5, W5, U5, st5⟩ := own_stI (j := (3 : Int32)) X4 hx hZ e4 V_b1 ⟨by decide, by decide⟩ 3 rfl (by simp) (g := (mkF m 22 #[.val (.ref aa), .val (.ref an), .val (.int (4 : Int32)), .val (.ref b1), .val (.int (3 : Int32))] [(.int (own_pick x0 x1 x2 x3 y3)), (.int (3 : Int32)), (.ref b1)])) rfl rfl (hb hby d1_22)
  have N5 := Fr.snoc X5 N4 g_b1
  have Z0 := Nat.le_trans Z0 (Nat.le_of_eq W5.size.symm)
  have K0 := K0.wr W5 (Or.inr sz_b1)
  have V_aa := V_aa.other W5 ne_aa_b1
  have V_an := V_an.other W5 ne_an_b1
  have V_b1 : Arv Z h5 b1 kc1 .int (4 : Int32) [(.int (own_pick x0 x1 x2 x3 y0)), (.int (own_pick x0 x1 x2 x3 y1)), (.int (own_pick x0 x1 x2 x3 y2)), (.int (own_pick x0 x1 x2 x3 y3))] (.int (0 : Int32)) := U5
  refine own_st st5 ?_
  show Fin1 p e below s (rmS4Q Z aa an ka kn x0 x1 x2 x3 y0 y1 y2 y3 h0 n0) ({ frames := 0, cells := 1, slots := 4, locals := 0 } : Room).cells ({ frames := 0, cells := 1, slots := 4, locals := 0 } : Room).slots (T5.setTop (mkF m 23 #[.val (.ref aa), .val (.ref an), .val (.int (4 : Int32)), .val (.ref b1), .val (.int (3 : Int32))] []))
  refine own_st (fun wt wk => XS.iinc X5.here hx rfl (hb hby d1_23) rfl (l' := #[.val (.ref aa), .val (.ref an), .val (.int (4 : Int32)), .val (.ref b1), .val (.int (4 : Int32))]) rfl wk) ?_
  show Fin1 p e below s (rmS4Q Z aa an ka kn x0 x1 x2 x3 y0 y1 y2 y3 h0 n0) ({ frames := 0, cells := 1, slots := 4, locals := 0 } : Room).cells ({ frames := 0, cells := 1, slots := 4, locals := 0 } : Room).slots (T5.setTop (mkF m 26 #[.val (.ref aa), .val (.ref an), .val (.int (4 : Int32)), .val (.ref b1), .val (.int (4 : Int32))] []))
  refine own_st (fun wt wk => XS.goto X5.here hx rfl (pc0 := 26) (pc' := 7) rfl (hb hby d1_26) (by decide) (by decide) wk) ?_
  show Fin1 p e below s (rmS4Q Z aa an ka kn x0 x1 x2 x3 y0 y1 y2 y3 h0 n0) ({ frames := 0, cells := 1, slots := 4, locals := 0 } : Room).cells ({ frames := 0, cells := 1, slots := 4, locals := 0 } : Room).slots (T5.setTop (mkF m 7 #[.val (.ref aa), .val (.ref an), .val (.int (4 : Int32)), .val (.ref b1), .val (.int (4 : Int32))] []))
  refine own_st (fun wt wk => XS.iload X5.here hx rfl (hb hby d1_7) rfl wk) ?_
  show Fin1 p e below s (rmS4Q Z aa an ka kn x0 x1 x2 x3 y0 y1 y2 y3 h0 n0) ({ frames := 0, cells := 1, slots := 4, locals := 0 } : Room).cells ({ frames := 0, cells := 1, slots := 4, locals := 0 } : Room).slots (T5.setTop (mkF m 9 #[.val (.ref aa), .val (.ref an), .val (.int (4 : Int32)), .val (.ref b1), .val (.int (4 : Int32))] [(.int (4 : Int32))]))
  refine own_st (fun wt wk => XS.iloadN X5.here hx rfl (hb hby d1_9) rfl wk) ?_
  show Fin1 p e below s (rmS4Q Z aa an ka kn x0 x1 x2 x3 y0 y1 y2 y3 h0 n0) ({ frames := 0, cells := 1, slots := 4, locals := 0 } : Room).cells ({ frames := 0, cells := 1, slots := 4, locals := 0 } : Room).slots (T5.setTop (mkF m 10 #[.val (.ref aa), .val (.ref an), .val (.int (4 : Int32)), .val (.ref b1), .val (.int (4 : Int32))] [(.int (4 : Int32)), (.int (4 : Int32))]))
  refine own_st (fun wt wk => XS.icmpYes X5.here hx rfl (pc0 := 10) (pc' := 29) rfl (hb hby d1_10) rfl (flt (by decide)).2.1 (by decide) (by decide) wk) ?_
  show Fin1 p e below s (rmS4Q Z aa an ka kn x0 x1 x2 x3 y0 y1 y2 y3 h0 n0) ({ frames := 0, cells := 1, slots := 4, locals := 0 } : Room).cells ({ frames := 0, cells := 1, slots := 4, locals := 0 } : Room).slots (T5.setTop (mkF m 29 #[.val (.ref aa), .val (.ref an), .val (.int (4 : Int32)), .val (.ref b1), .val (.int (4 : Int32))] []))
  refine own_st (fun wt wk => XS.aloadN X5.here hx rfl (hb hby d1_29) rfl rfl wk) ?_
  show Fin1 p e below s (rmS4Q Z aa an ka kn x0 x1 x2 x3 y0 y1 y2 y3 h0 n0) ({ frames := 0, cells := 1, slots := 4, locals := 0 } : Room).cells ({ frames := 0, cells := 1, slots := 4, locals := 0 } : Room).slots (T5.setTop (mkF m 30 #[.val (.ref aa), .val (.ref an), .val (.int (4 : Int32)), .val (.ref b1), .val (.int (4 : Int32))] [(.ref b1)]))
  exact own_retA X5 hx hlk hret rfl rfl (hb hby d1_30) (by rw [e5]; exact ⟨b1, kc1, rfl, N5, sz_b1, K0, V_b1⟩) (by decide) (by decide)
theorem pd_2 : parseMethodDescriptor "([I[II)[I" = some ⟨[(.array .int), (.array .int), .int], some (.array .int)⟩ := by decide +kernel
theorem pd_3 : parseMethodDescriptor "(IIIII)I" = some ⟨[.int, .int, .int, .int, .int], some .int⟩ := by decide +kernel
def rm0Q (Z : State) (i0 : Int32) (i1 : Int32) (i2 : Int32) (i3 : Int32) (i4 : Int32) (i5 : Int32) (h0 : Heap) (n0 : Nat) (v : Option Value) (h : Heap) (L : List Loc) : Prop := v = some (.int (1 : Int32)) ∧ Fr n0 L
set_option maxRecDepth 65536 in
set_option maxHeartbeats 40000000 in
theorem rm0 (l : Launch) (Z : State) (a0 : Array Value) (hw : ∀ d ∈ tables_1, d.before a0 Z = true) (i0 : Int32) (i1 : Int32) (i2 : Int32) (i3 : Int32) (i4 : Int32) (i5 : Int32) (h0 : Heap) (n0 : Nat) (Z0 : n0 ≤ h0.size) :
    Ct l Z tables_1 x code maxLocals ret room_1 #[(.int i0), (.int i1), (.int i2), (.int i3), (.int i4), (.int i5)] h0 (rm0Q Z i0 i1 i2 i3 i4 i5 h0 n0) := by
  refine own_enter (plainFor_of_name pn_0) ?_
  intro p e s m below meth c T0 X0 hx hby hml hZ hown hnm hret hlk e0
  have hown : s.vm.findClass "com/example/mistgraph/mistgraph/core/ConnectionsSomePinLaw" = some m.cls := hown
  have N0 := Fr.nil n0
  have K0 := Keep.refl h0 []
  refine own_st (fun wt wk => castTop (g' := mkF m 0 #[.val (.int i0), .val (.int i1), .val (.int i2), .val (.int i3), .val (.int i4), .val (.int i5), .unset, .unset, .unset, .unset, .unset, .unset, .unset, .unset] []) (by first | (simp [entryFrame, mkF, argsToLocals, Value.category, maxLocals]; done) | rfl) wk) ?_
  show Fin1 p e below s (rm0Q Z i0 i1 i2 i3 i4 i5 h0 n0) room_1.cells room_1.slots (T0.setTop (mkF m 0 #[.val (.int i0), .val (.int i1), .val (.int i2), .val (.int i3), .val (.int i4), .val (.int i5), .unset, .unset, .unset, .unset, .unset, .unset, .unset, .unset] []))
  refine own_st (fun wt wk => XS.iconst X0.here hx rfl (hb hby at_0) wk) ?_
  show Fin1 p e below s (rm0Q Z i0 i1 i2 i3 i4 i5 h0 n0) room_1.cells room_1.slots (T0.setTop (mkF m 1 #[.val (.int i0), .val (.int i1), .val (.int i2), .val (.int i3), .val (.int i4), .val (.int i5), .unset, .unset, .unset, .unset, .unset, .unset, .unset, .unset] [(.int (4 : Int32))]))
  obtain ⟨T1, h1, kc1, X1, e1, E1, A1, st1⟩ := newP X0 hx hZ (hw _ (List.mem_of_getElem? (i := 0) rfl)) e0 (g := (mkF m 1 #[.val (.int i0), .val (.int i1), .val (.int i2), .val (.int i3), .val (.int i4), .val (.int i5), .unset, .unset, .unset, .unset, .unset, .unset, .unset, .unset] [(.int (4 : Int32))])) rfl (hb hby at_1) rfl (by decide) (cap := 4) (by decide) (by decide) (by decide) (by decide)
  obtain ⟨ba, gz_ba⟩ : ∃ z, z = h0.size := ⟨_, rfl⟩
  rw [← gz_ba] at A1 st1
  have g_ba : n0 ≤ ba := Nat.le_trans Z0 (Nat.le_of_eq gz_ba.symm)
  have Z0 := Nat.le_trans Z0 E1.1
  refine own_st st1 ?_
  have V_ba : Arv Z h1 ba kc1 .int (4 : Int32) [(.int (0 : Int32)), (.int (0 : Int32)), (.int (0 : Int32)), (.int (0 : Int32))] (.int (0 : Int32)) := (Arv.new A1 (by decide)).pad (pad_rep [] (.int (0 : Int32)) 4)
  show Fin1 p e below s (rm0Q Z i0 i1 i2 i3 i4 i5 h0 n0) room_1.cells room_1.slots (T1.setTop (mkF m 3 #[.val (.int i0), .val (.int i1), .val (.int i2), .val (.int i3), .val (.int i4), .val (.int i5), .unset, .unset, .unset, .unset, .unset, .unset, .unset, .unset] [(.ref ba)]))
  refine own_st (fun wt wk => XS.dup X1.here hx rfl (hb hby at_3) rfl rfl wk) ?_
  show Fin1 p e below s (rm0Q Z i0 i1 i2 i3 i4 i5 h0 n0) room_1.cells room_1.slots (T1.setTop (mkF m 4 #[.val (.int i0), .val (.int i1), .val (.int i2), .val (.int i3), .val (.int i4), .val (.int i5), .unset, .unset, .unset, .unset, .unset, .unset, .unset, .unset] [(.ref ba), (.ref ba)]))
  refine own_st (fun wt wk => XS.iconst X1.here hx rfl (hb hby at_4) wk) ?_
  show Fin1 p e below s (rm0Q Z i0 i1 i2 i3 i4 i5 h0 n0) room_1.cells room_1.slots (T1.setTop (mkF m 5 #[.val (.int i0), .val (.int i1), .val (.int i2), .val (.int i3), .val (.int i4), .val (.int i5), .unset, .unset, .unset, .unset, .unset, .unset, .unset, .unset] [(.int (0 : Int32)), (.ref ba), (.ref ba)]))
  refine own_st (fun wt wk => XS.iloadN X1.here hx rfl (hb hby at_5) rfl wk) ?_
  show Fin1 p e below s (rm0Q Z i0 i1 i2 i3 i4 i5 h0 n0) room_1.cells room_1.slots (T1.setTop (mkF m 6 #[.val (.int i0), .val (.int i1), .val (.int i2), .val (.int i3), .val (.int i4), .val (.int i5), .unset, .unset, .unset, .unset, .unset, .unset, .unset, .unset] [(.int i0), (.int (0 : Int32)), (.ref ba), (.ref ba)]))
  obtain ⟨T2, h2, X2, e2, W2, U2, st2⟩ := own_stI (j := (0 : Int32)) X1 hx hZ e1 V_ba ⟨by decide, by decide⟩ 0 rfl (by simp) (g := (mkF m 6 #[.val (.int i0), .val (.int i1), .val (.int i2), .val (.int i3), .val (.int i4), .val (.int i5), .unset, .unset, .unset, .unset, .unset, .unset, .unset, .unset] [(.int i0), (.int (0 : Int32)), (.ref ba), (.ref ba)])) rfl rfl (hb hby at_6)
  have N2 := Fr.snoc X2 N0 g_ba
  have Z0 := Nat.le_trans Z0 (Nat.le_of_eq W2.size.symm)
  have V_ba : Arv Z h2 ba kc1 .int (4 : Int32) [(.int i0), (.int (0 : Int32)), (.int (0 : Int32)), (.int (0 : Int32))] (.int (0 : Int32)) := U2
  refine own_st st2 ?_
  show Fin1 p e below s (rm0Q Z i0 i1 i2 i3 i4 i5 h0 n0) room_1.cells room_1.slots (T2.setTop (mkF m 7 #[.val (.int i0), .val (.int i1), .val (.int i2), .val (.int i3), .val (.int i4), .val (.int i5), .unset, .unset, .unset, .unset, .unset, .unset, .unset, .unset] [(.ref ba)]))
  refine own_st (fun wt wk => XS.dup X2.here hx rfl (hb hby at_7) rfl rfl wk) ?_
  show Fin1 p e below s (rm0Q Z i0 i1 i2 i3 i4 i5 h0 n0) room_1.cells room_1.slots (T2.setTop (mkF m 8 #[.val (.int i0), .val (.int i1), .val (.int i2), .val (.int i3), .val (.int i4), .val (.int i5), .unset, .unset, .unset, .unset, .unset, .unset, .unset, .unset] [(.ref ba), (.ref ba)]))
  refine own_st (fun wt wk => XS.iconst X2.here hx rfl (hb hby at_8) wk) ?_
  show Fin1 p e below s (rm0Q Z i0 i1 i2 i3 i4 i5 h0 n0) room_1.cells room_1.slots (T2.setTop (mkF m 9 #[.val (.int i0), .val (.int i1), .val (.int i2), .val (.int i3), .val (.int i4), .val (.int i5), .unset, .unset, .unset, .unset, .unset, .unset, .unset, .unset] [(.int (1 : Int32)), (.ref ba), (.ref ba)]))
  refine own_st (fun wt wk => XS.iloadN X2.here hx rfl (hb hby at_9) rfl wk) ?_
  show Fin1 p e below s (rm0Q Z i0 i1 i2 i3 i4 i5 h0 n0) room_1.cells room_1.slots (T2.setTop (mkF m 10 #[.val (.int i0), .val (.int i1), .val (.int i2), .val (.int i3), .val (.int i4), .val (.int i5), .unset, .unset, .unset, .unset, .unset, .unset, .unset, .unset] [(.int i1), (.int (1 : Int32)), (.ref ba), (.ref ba)]))
  obtain ⟨T3, h3, X3, e3, W3, U3, st3⟩ := own_stI (j := (1 : Int32)) X2 hx hZ e2 V_ba ⟨by decide, by decide⟩ 1 rfl (by simp) (g := (mkF m 10 #[.val (.int i0), .val (.int i1), .val (.int i2), .val (.int i3), .val (.int i4), .val (.int i5), .unset, .unset, .unset, .unset, .unset, .unset, .unset, .unset] [(.int i1), (.int (1 : Int32)), (.ref ba), (.ref ba)])) rfl rfl (hb hby at_10)
  have N3 := Fr.snoc X3 N2 g_ba
  have Z0 := Nat.le_trans Z0 (Nat.le_of_eq W3.size.symm)
  have V_ba : Arv Z h3 ba kc1 .int (4 : Int32) [(.int i0), (.int i1), (.int (0 : Int32)), (.int (0 : Int32))] (.int (0 : Int32)) := U3
  refine own_st st3 ?_
  show Fin1 p e below s (rm0Q Z i0 i1 i2 i3 i4 i5 h0 n0) room_1.cells room_1.slots (T3.setTop (mkF m 11 #[.val (.int i0), .val (.int i1), .val (.int i2), .val (.int i3), .val (.int i4), .val (.int i5), .unset, .unset, .unset, .unset, .unset, .unset, .unset, .unset] [(.ref ba)]))
  refine own_st (fun wt wk => XS.dup X3.here hx rfl (hb hby at_11) rfl rfl wk) ?_
  show Fin1 p e below s (rm0Q Z i0 i1 i2 i3 i4 i5 h0 n0) room_1.cells room_1.slots (T3.setTop (mkF m 12 #[.val (.int i0), .val (.int i1), .val (.int i2), .val (.int i3), .val (.int i4), .val (.int i5), .unset, .unset, .unset, .unset, .unset, .unset, .unset, .unset] [(.ref ba), (.ref ba)]))
  refine own_st (fun wt wk => XS.iconst X3.here hx rfl (hb hby at_12) wk) ?_
  show Fin1 p e below s (rm0Q Z i0 i1 i2 i3 i4 i5 h0 n0) room_1.cells room_1.slots (T3.setTop (mkF m 13 #[.val (.int i0), .val (.int i1), .val (.int i2), .val (.int i3), .val (.int i4), .val (.int i5), .unset, .unset, .unset, .unset, .unset, .unset, .unset, .unset] [(.int (2 : Int32)), (.ref ba), (.ref ba)]))
  refine own_st (fun wt wk => XS.iloadN X3.here hx rfl (hb hby at_13) rfl wk) ?_
  show Fin1 p e below s (rm0Q Z i0 i1 i2 i3 i4 i5 h0 n0) room_1.cells room_1.slots (T3.setTop (mkF m 14 #[.val (.int i0), .val (.int i1), .val (.int i2), .val (.int i3), .val (.int i4), .val (.int i5), .unset, .unset, .unset, .unset, .unset, .unset, .unset, .unset] [(.int i2), (.int (2 : Int32)), (.ref ba), (.ref ba)]))
  obtain ⟨T4, h4, X4, e4, W4, U4, st4⟩ := own_stI (j := (2 : Int32)) X3 hx hZ e3 V_ba ⟨by decide, by decide⟩ 2 rfl (by simp) (g := (mkF m 14 #[.val (.int i0), .val (.int i1), .val (.int i2), .val (.int i3), .val (.int i4), .val (.int i5), .unset, .unset, .unset, .unset, .unset, .unset, .unset, .unset] [(.int i2), (.int (2 : Int32)), (.ref ba), (.ref ba)])) rfl rfl (hb hby at_14)
  have N4 := Fr.snoc X4 N3 g_ba
  have Z0 := Nat.le_trans Z0 (Nat.le_of_eq W4.size.symm)
  have V_ba : Arv Z h4 ba kc1 .int (4 : Int32) [(.int i0), (.int i1), (.int i2), (.int (0 : Int32))] (.int (0 : Int32)) := U4
  refine own_st st4 ?_
  show Fin1 p e below s (rm0Q Z i0 i1 i2 i3 i4 i5 h0 n0) room_1.cells room_1.slots (T4.setTop (mkF m 15 #[.val (.int i0), .val (.int i1), .val (.int i2), .val (.int i3), .val (.int i4), .val (.int i5), .unset, .unset, .unset, .unset, .unset, .unset, .unset, .unset] [(.ref ba)]))
  refine own_st (fun wt wk => XS.dup X4.here hx rfl (hb hby at_15) rfl rfl wk) ?_
  show Fin1 p e below s (rm0Q Z i0 i1 i2 i3 i4 i5 h0 n0) room_1.cells room_1.slots (T4.setTop (mkF m 16 #[.val (.int i0), .val (.int i1), .val (.int i2), .val (.int i3), .val (.int i4), .val (.int i5), .unset, .unset, .unset, .unset, .unset, .unset, .unset, .unset] [(.ref ba), (.ref ba)]))
  refine own_st (fun wt wk => XS.iconst X4.here hx rfl (hb hby at_16) wk) ?_
  show Fin1 p e below s (rm0Q Z i0 i1 i2 i3 i4 i5 h0 n0) room_1.cells room_1.slots (T4.setTop (mkF m 17 #[.val (.int i0), .val (.int i1), .val (.int i2), .val (.int i3), .val (.int i4), .val (.int i5), .unset, .unset, .unset, .unset, .unset, .unset, .unset, .unset] [(.int (3 : Int32)), (.ref ba), (.ref ba)]))
  refine own_st (fun wt wk => XS.iloadN X4.here hx rfl (hb hby at_17) rfl wk) ?_
  show Fin1 p e below s (rm0Q Z i0 i1 i2 i3 i4 i5 h0 n0) room_1.cells room_1.slots (T4.setTop (mkF m 18 #[.val (.int i0), .val (.int i1), .val (.int i2), .val (.int i3), .val (.int i4), .val (.int i5), .unset, .unset, .unset, .unset, .unset, .unset, .unset, .unset] [(.int i3), (.int (3 : Int32)), (.ref ba), (.ref ba)]))
  obtain ⟨T5, h5, X5, e5, W5, U5, st5⟩ := own_stI (j := (3 : Int32)) X4 hx hZ e4 V_ba ⟨by decide, by decide⟩ 3 rfl (by simp) (g := (mkF m 18 #[.val (.int i0), .val (.int i1), .val (.int i2), .val (.int i3), .val (.int i4), .val (.int i5), .unset, .unset, .unset, .unset, .unset, .unset, .unset, .unset] [(.int i3), (.int (3 : Int32)), (.ref ba), (.ref ba)])) rfl rfl (hb hby at_18)
  have N5 := Fr.snoc X5 N4 g_ba
  have Z0 := Nat.le_trans Z0 (Nat.le_of_eq W5.size.symm)
  have V_ba : Arv Z h5 ba kc1 .int (4 : Int32) [(.int i0), (.int i1), (.int i2), (.int i3)] (.int (0 : Int32)) := U5
  refine own_st st5 ?_
  show Fin1 p e below s (rm0Q Z i0 i1 i2 i3 i4 i5 h0 n0) room_1.cells room_1.slots (T5.setTop (mkF m 19 #[.val (.int i0), .val (.int i1), .val (.int i2), .val (.int i3), .val (.int i4), .val (.int i5), .unset, .unset, .unset, .unset, .unset, .unset, .unset, .unset] [(.ref ba)]))
  refine own_st (fun wt wk => XS.astore X5.here hx rfl (hb hby at_19) rfl rfl (l' := #[.val (.int i0), .val (.int i1), .val (.int i2), .val (.int i3), .val (.int i4), .val (.int i5), .val (.ref ba), .unset, .unset, .unset, .unset, .unset, .unset, .unset]) rfl wk) ?_
  show Fin1 p e below s (rm0Q Z i0 i1 i2 i3 i4 i5 h0 n0) room_1.cells room_1.slots (T5.setTop (mkF m 21 #[.val (.int i0), .val (.int i1), .val (.int i2), .val (.int i3), .val (.int i4), .val (.int i5), .val (.ref ba), .unset, .unset, .unset, .unset, .unset, .unset, .unset] []))
  refine own_st (fun wt wk => XS.iload X5.here hx rfl (hb hby at_21) rfl wk) ?_
  show Fin1 p e below s (rm0Q Z i0 i1 i2 i3 i4 i5 h0 n0) room_1.cells room_1.slots (T5.setTop (mkF m 23 #[.val (.int i0), .val (.int i1), .val (.int i2), .val (.int i3), .val (.int i4), .val (.int i5), .val (.ref ba), .unset, .unset, .unset, .unset, .unset, .unset, .unset] [(.int i4)]))
  refine own_st (fun wt wk => XS.iconst X5.here hx rfl (hb hby at_23) wk) ?_
  show Fin1 p e below s (rm0Q Z i0 i1 i2 i3 i4 i5 h0 n0) room_1.cells room_1.slots (T5.setTop (mkF m 24 #[.val (.int i0), .val (.int i1), .val (.int i2), .val (.int i3), .val (.int i4), .val (.int i5), .val (.ref ba), .unset, .unset, .unset, .unset, .unset, .unset, .unset] [(.int (3 : Int32)), (.int i4)]))
  refine own_st (fun wt wk => XS.iand X5.here hx rfl (hb hby at_24) rfl wk) ?_
  show Fin1 p e below s (rm0Q Z i0 i1 i2 i3 i4 i5 h0 n0) room_1.cells room_1.slots (T5.setTop (mkF m 25 #[.val (.int i0), .val (.int i1), .val (.int i2), .val (.int i3), .val (.int i4), .val (.int i5), .val (.ref ba), .unset, .unset, .unset, .unset, .unset, .unset, .unset] [(.int (i4 &&& (3 : Int32)))]))
  refine own_st (fun wt wk => XS.istore X5.here hx rfl (hb hby at_25) rfl (l' := #[.val (.int i0), .val (.int i1), .val (.int i2), .val (.int i3), .val (.int i4), .val (.int i5), .val (.ref ba), .val (.int (i4 &&& (3 : Int32))), .unset, .unset, .unset, .unset, .unset, .unset]) rfl wk) ?_
  show Fin1 p e below s (rm0Q Z i0 i1 i2 i3 i4 i5 h0 n0) room_1.cells room_1.slots (T5.setTop (mkF m 27 #[.val (.int i0), .val (.int i1), .val (.int i2), .val (.int i3), .val (.int i4), .val (.int i5), .val (.ref ba), .val (.int (i4 &&& (3 : Int32))), .unset, .unset, .unset, .unset, .unset, .unset] []))
  refine own_st (fun wt wk => XS.iload X5.here hx rfl (hb hby at_27) rfl wk) ?_
  show Fin1 p e below s (rm0Q Z i0 i1 i2 i3 i4 i5 h0 n0) room_1.cells room_1.slots (T5.setTop (mkF m 29 #[.val (.int i0), .val (.int i1), .val (.int i2), .val (.int i3), .val (.int i4), .val (.int i5), .val (.ref ba), .val (.int (i4 &&& (3 : Int32))), .unset, .unset, .unset, .unset, .unset, .unset] [(.int i4)]))
  refine own_st (fun wt wk => XS.iconst X5.here hx rfl (hb hby at_29) wk) ?_
  show Fin1 p e below s (rm0Q Z i0 i1 i2 i3 i4 i5 h0 n0) room_1.cells room_1.slots (T5.setTop (mkF m 30 #[.val (.int i0), .val (.int i1), .val (.int i2), .val (.int i3), .val (.int i4), .val (.int i5), .val (.ref ba), .val (.int (i4 &&& (3 : Int32))), .unset, .unset, .unset, .unset, .unset, .unset] [(.int (2 : Int32)), (.int i4)]))
  refine own_st (fun wt wk => XS.iushr X5.here hx rfl (hb hby at_30) rfl wk) ?_
  show Fin1 p e below s (rm0Q Z i0 i1 i2 i3 i4 i5 h0 n0) room_1.cells room_1.slots (T5.setTop (mkF m 31 #[.val (.int i0), .val (.int i1), .val (.int i2), .val (.int i3), .val (.int i4), .val (.int i5), .val (.ref ba), .val (.int (i4 &&& (3 : Int32))), .unset, .unset, .unset, .unset, .unset, .unset] [(.int ((i4.toUInt32 >>> ((2 : Int32) &&& 31).toUInt32).toInt32))]))
  refine own_st (fun wt wk => XS.iconst X5.here hx rfl (hb hby at_31) wk) ?_
  show Fin1 p e below s (rm0Q Z i0 i1 i2 i3 i4 i5 h0 n0) room_1.cells room_1.slots (T5.setTop (mkF m 32 #[.val (.int i0), .val (.int i1), .val (.int i2), .val (.int i3), .val (.int i4), .val (.int i5), .val (.ref ba), .val (.int (i4 &&& (3 : Int32))), .unset, .unset, .unset, .unset, .unset, .unset] [(.int (3 : Int32)), (.int ((i4.toUInt32 >>> ((2 : Int32) &&& 31).toUInt32).toInt32))]))
  refine own_st (fun wt wk => XS.iand X5.here hx rfl (hb hby at_32) rfl wk) ?_
  show Fin1 p e below s (rm0Q Z i0 i1 i2 i3 i4 i5 h0 n0) room_1.cells room_1.slots (T5.setTop (mkF m 33 #[.val (.int i0), .val (.int i1), .val (.int i2), .val (.int i3), .val (.int i4), .val (.int i5), .val (.ref ba), .val (.int (i4 &&& (3 : Int32))), .unset, .unset, .unset, .unset, .unset, .unset] [(.int (((i4.toUInt32 >>> ((2 : Int32) &&& 31).toUInt32).toInt32) &&& (3 : Int32)))]))
  refine own_st (fun wt wk => XS.istore X5.here hx rfl (hb hby at_33) rfl (l' := #[.val (.int i0), .val (.int i1), .val (.int i2), .val (.int i3), .val (.int i4), .val (.int i5), .val (.ref ba), .val (.int (i4 &&& (3 : Int32))), .val (.int (((i4.toUInt32 >>> ((2 : Int32) &&& 31).toUInt32).toInt32) &&& (3 : Int32))), .unset, .unset, .unset, .unset, .unset]) rfl wk) ?_
  show Fin1 p e below s (rm0Q Z i0 i1 i2 i3 i4 i5 h0 n0) room_1.cells room_1.slots (T5.setTop (mkF m 35 #[.val (.int i0), .val (.int i1), .val (.int i2), .val (.int i3), .val (.int i4), .val (.int i5), .val (.ref ba), .val (.int (i4 &&& (3 : Int32))), .val (.int (((i4.toUInt32 >>> ((2 : Int32) &&& 31).toUInt32).toInt32) &&& (3 : Int32))), .unset, .unset, .unset, .unset, .unset] []))
  refine own_st (fun wt wk => XS.iload X5.here hx rfl (hb hby at_35) rfl wk) ?_
  show Fin1 p e below s (rm0Q Z i0 i1 i2 i3 i4 i5 h0 n0) room_1.cells room_1.slots (T5.setTop (mkF m 37 #[.val (.int i0), .val (.int i1), .val (.int i2), .val (.int i3), .val (.int i4), .val (.int i5), .val (.ref ba), .val (.int (i4 &&& (3 : Int32))), .val (.int (((i4.toUInt32 >>> ((2 : Int32) &&& 31).toUInt32).toInt32) &&& (3 : Int32))), .unset, .unset, .unset, .unset, .unset] [(.int i4)]))
  refine own_st (fun wt wk => XS.iconst X5.here hx rfl (hb hby at_37) wk) ?_
  show Fin1 p e below s (rm0Q Z i0 i1 i2 i3 i4 i5 h0 n0) room_1.cells room_1.slots (T5.setTop (mkF m 38 #[.val (.int i0), .val (.int i1), .val (.int i2), .val (.int i3), .val (.int i4), .val (.int i5), .val (.ref ba), .val (.int (i4 &&& (3 : Int32))), .val (.int (((i4.toUInt32 >>> ((2 : Int32) &&& 31).toUInt32).toInt32) &&& (3 : Int32))), .unset, .unset, .unset, .unset, .unset] [(.int (4 : Int32)), (.int i4)]))
  refine own_st (fun wt wk => XS.iushr X5.here hx rfl (hb hby at_38) rfl wk) ?_
  show Fin1 p e below s (rm0Q Z i0 i1 i2 i3 i4 i5 h0 n0) room_1.cells room_1.slots (T5.setTop (mkF m 39 #[.val (.int i0), .val (.int i1), .val (.int i2), .val (.int i3), .val (.int i4), .val (.int i5), .val (.ref ba), .val (.int (i4 &&& (3 : Int32))), .val (.int (((i4.toUInt32 >>> ((2 : Int32) &&& 31).toUInt32).toInt32) &&& (3 : Int32))), .unset, .unset, .unset, .unset, .unset] [(.int ((i4.toUInt32 >>> ((4 : Int32) &&& 31).toUInt32).toInt32))]))
  refine own_st (fun wt wk => XS.iconst X5.here hx rfl (hb hby at_39) wk) ?_
  show Fin1 p e below s (rm0Q Z i0 i1 i2 i3 i4 i5 h0 n0) room_1.cells room_1.slots (T5.setTop (mkF m 40 #[.val (.int i0), .val (.int i1), .val (.int i2), .val (.int i3), .val (.int i4), .val (.int i5), .val (.ref ba), .val (.int (i4 &&& (3 : Int32))), .val (.int (((i4.toUInt32 >>> ((2 : Int32) &&& 31).toUInt32).toInt32) &&& (3 : Int32))), .unset, .unset, .unset, .unset, .unset] [(.int (3 : Int32)), (.int ((i4.toUInt32 >>> ((4 : Int32) &&& 31).toUInt32).toInt32))]))
  refine own_st (fun wt wk => XS.iand X5.here hx rfl (hb hby at_40) rfl wk) ?_
  show Fin1 p e below s (rm0Q Z i0 i1 i2 i3 i4 i5 h0 n0) room_1.cells room_1.slots (T5.setTop (mkF m 41 #[.val (.int i0), .val (.int i1), .val (.int i2), .val (.int i3), .val (.int i4), .val (.int i5), .val (.ref ba), .val (.int (i4 &&& (3 : Int32))), .val (.int (((i4.toUInt32 >>> ((2 : Int32) &&& 31).toUInt32).toInt32) &&& (3 : Int32))), .unset, .unset, .unset, .unset, .unset] [(.int (((i4.toUInt32 >>> ((4 : Int32) &&& 31).toUInt32).toInt32) &&& (3 : Int32)))]))
  refine own_st (fun wt wk => XS.istore X5.here hx rfl (hb hby at_41) rfl (l' := #[.val (.int i0), .val (.int i1), .val (.int i2), .val (.int i3), .val (.int i4), .val (.int i5), .val (.ref ba), .val (.int (i4 &&& (3 : Int32))), .val (.int (((i4.toUInt32 >>> ((2 : Int32) &&& 31).toUInt32).toInt32) &&& (3 : Int32))), .val (.int (((i4.toUInt32 >>> ((4 : Int32) &&& 31).toUInt32).toInt32) &&& (3 : Int32))), .unset, .unset, .unset, .unset]) rfl wk) ?_
  show Fin1 p e below s (rm0Q Z i0 i1 i2 i3 i4 i5 h0 n0) room_1.cells room_1.slots (T5.setTop (mkF m 43 #[.val (.int i0), .val (.int i1), .val (.int i2), .val (.int i3), .val (.int i4), .val (.int i5), .val (.ref ba), .val (.int (i4 &&& (3 : Int32))), .val (.int (((i4.toUInt32 >>> ((2 : Int32) &&& 31).toUInt32).toInt32) &&& (3 : Int32))), .val (.int (((i4.toUInt32 >>> ((4 : Int32) &&& 31).toUInt32).toInt32) &&& (3 : Int32))), .unset, .unset, .unset, .unset] []))
  refine own_st (fun wt wk => XS.iload X5.here hx rfl (hb hby at_43) rfl wk) ?_
  show Fin1 p e below s (rm0Q Z i0 i1 i2 i3 i4 i5 h0 n0) room_1.cells room_1.slots (T5.setTop (mkF m 45 #[.val (.int i0), .val (.int i1), .val (.int i2), .val (.int i3), .val (.int i4), .val (.int i5), .val (.ref ba), .val (.int (i4 &&& (3 : Int32))), .val (.int (((i4.toUInt32 >>> ((2 : Int32) &&& 31).toUInt32).toInt32) &&& (3 : Int32))), .val (.int (((i4.toUInt32 >>> ((4 : Int32) &&& 31).toUInt32).toInt32) &&& (3 : Int32))), .unset, .unset, .unset, .unset] [(.int i4)]))
  refine own_st (fun wt wk => XS.bipush X5.here hx rfl (hb hby at_45) wk) ?_
  show Fin1 p e below s (rm0Q Z i0 i1 i2 i3 i4 i5 h0 n0) room_1.cells room_1.slots (T5.setTop (mkF m 47 #[.val (.int i0), .val (.int i1), .val (.int i2), .val (.int i3), .val (.int i4), .val (.int i5), .val (.ref ba), .val (.int (i4 &&& (3 : Int32))), .val (.int (((i4.toUInt32 >>> ((2 : Int32) &&& 31).toUInt32).toInt32) &&& (3 : Int32))), .val (.int (((i4.toUInt32 >>> ((4 : Int32) &&& 31).toUInt32).toInt32) &&& (3 : Int32))), .unset, .unset, .unset, .unset] [(.int (6 : Int32)), (.int i4)]))
  refine own_st (fun wt wk => XS.iushr X5.here hx rfl (hb hby at_47) rfl wk) ?_
  show Fin1 p e below s (rm0Q Z i0 i1 i2 i3 i4 i5 h0 n0) room_1.cells room_1.slots (T5.setTop (mkF m 48 #[.val (.int i0), .val (.int i1), .val (.int i2), .val (.int i3), .val (.int i4), .val (.int i5), .val (.ref ba), .val (.int (i4 &&& (3 : Int32))), .val (.int (((i4.toUInt32 >>> ((2 : Int32) &&& 31).toUInt32).toInt32) &&& (3 : Int32))), .val (.int (((i4.toUInt32 >>> ((4 : Int32) &&& 31).toUInt32).toInt32) &&& (3 : Int32))), .unset, .unset, .unset, .unset] [(.int ((i4.toUInt32 >>> ((6 : Int32) &&& 31).toUInt32).toInt32))]))
  refine own_st (fun wt wk => XS.iconst X5.here hx rfl (hb hby at_48) wk) ?_
  show Fin1 p e below s (rm0Q Z i0 i1 i2 i3 i4 i5 h0 n0) room_1.cells room_1.slots (T5.setTop (mkF m 49 #[.val (.int i0), .val (.int i1), .val (.int i2), .val (.int i3), .val (.int i4), .val (.int i5), .val (.ref ba), .val (.int (i4 &&& (3 : Int32))), .val (.int (((i4.toUInt32 >>> ((2 : Int32) &&& 31).toUInt32).toInt32) &&& (3 : Int32))), .val (.int (((i4.toUInt32 >>> ((4 : Int32) &&& 31).toUInt32).toInt32) &&& (3 : Int32))), .unset, .unset, .unset, .unset] [(.int (3 : Int32)), (.int ((i4.toUInt32 >>> ((6 : Int32) &&& 31).toUInt32).toInt32))]))
  refine own_st (fun wt wk => XS.iand X5.here hx rfl (hb hby at_49) rfl wk) ?_
  show Fin1 p e below s (rm0Q Z i0 i1 i2 i3 i4 i5 h0 n0) room_1.cells room_1.slots (T5.setTop (mkF m 50 #[.val (.int i0), .val (.int i1), .val (.int i2), .val (.int i3), .val (.int i4), .val (.int i5), .val (.ref ba), .val (.int (i4 &&& (3 : Int32))), .val (.int (((i4.toUInt32 >>> ((2 : Int32) &&& 31).toUInt32).toInt32) &&& (3 : Int32))), .val (.int (((i4.toUInt32 >>> ((4 : Int32) &&& 31).toUInt32).toInt32) &&& (3 : Int32))), .unset, .unset, .unset, .unset] [(.int (((i4.toUInt32 >>> ((6 : Int32) &&& 31).toUInt32).toInt32) &&& (3 : Int32)))]))
  refine own_st (fun wt wk => XS.istore X5.here hx rfl (hb hby at_50) rfl (l' := #[.val (.int i0), .val (.int i1), .val (.int i2), .val (.int i3), .val (.int i4), .val (.int i5), .val (.ref ba), .val (.int (i4 &&& (3 : Int32))), .val (.int (((i4.toUInt32 >>> ((2 : Int32) &&& 31).toUInt32).toInt32) &&& (3 : Int32))), .val (.int (((i4.toUInt32 >>> ((4 : Int32) &&& 31).toUInt32).toInt32) &&& (3 : Int32))), .val (.int (((i4.toUInt32 >>> ((6 : Int32) &&& 31).toUInt32).toInt32) &&& (3 : Int32))), .unset, .unset, .unset]) rfl wk) ?_
  show Fin1 p e below s (rm0Q Z i0 i1 i2 i3 i4 i5 h0 n0) room_1.cells room_1.slots (T5.setTop (mkF m 52 #[.val (.int i0), .val (.int i1), .val (.int i2), .val (.int i3), .val (.int i4), .val (.int i5), .val (.ref ba), .val (.int (i4 &&& (3 : Int32))), .val (.int (((i4.toUInt32 >>> ((2 : Int32) &&& 31).toUInt32).toInt32) &&& (3 : Int32))), .val (.int (((i4.toUInt32 >>> ((4 : Int32) &&& 31).toUInt32).toInt32) &&& (3 : Int32))), .val (.int (((i4.toUInt32 >>> ((6 : Int32) &&& 31).toUInt32).toInt32) &&& (3 : Int32))), .unset, .unset, .unset] []))
  suffices K52 : ∀ (y0 : Int32) (y1 : Int32) (y2 : Int32) (y3 : Int32), (¬ y0 < (0 : Int32) ∧ y0 < (4 : Int32)) → (¬ y1 < (0 : Int32) ∧ y1 < (4 : Int32)) → (¬ y2 < (0 : Int32) ∧ y2 < (4 : Int32)) → (¬ y3 < (0 : Int32) ∧ y3 < (4 : Int32)) → Fin1 p e below s (rm0Q Z i0 i1 i2 i3 i4 i5 h0 n0) room_1.cells room_1.slots (T5.setTop (mkF m 52 #[.val (.int i0), .val (.int i1), .val (.int i2), .val (.int i3), .val (.int i4), .val (.int i5), .val (.ref ba), .val (.int y0), .val (.int y1), .val (.int y2), .val (.int y3), .unset, .unset, .unset] [])) by
    exact K52 _ _ _ _ (own_rng _) (own_rng _) (own_rng _) (own_rng _)
  intro y0 y1 y2 y3 r0 r1 r2 r3
  refine own_st (fun wt wk => XS.iconst X5.here hx rfl (hb hby at_52) wk) ?_
  show Fin1 p e below s (rm0Q Z i0 i1 i2 i3 i4 i5 h0 n0) room_1.cells room_1.slots (T5.setTop (mkF m 53 #[.val (.int i0), .val (.int i1), .val (.int i2), .val (.int i3), .val (.int i4), .val (.int i5), .val (.ref ba), .val (.int y0), .val (.int y1), .val (.int y2), .val (.int y3), .unset, .unset, .unset] [(.int (4 : Int32))]))
  obtain ⟨T6, h6, kc6, X6, e6, E6, A6, st6⟩ := newP X5 hx hZ (hw _ (List.mem_of_getElem? (i := 0) rfl)) e5 (g := (mkF m 53 #[.val (.int i0), .val (.int i1), .val (.int i2), .val (.int i3), .val (.int i4), .val (.int i5), .val (.ref ba), .val (.int y0), .val (.int y1), .val (.int y2), .val (.int y3), .unset, .unset, .unset] [(.int (4 : Int32))])) rfl (hb hby at_53) rfl (by decide) (cap := 4) (by decide) (by decide) (by decide) (by decide)
  obtain ⟨bn, gz_bn⟩ : ∃ z, z = h5.size := ⟨_, rfl⟩
  rw [← gz_bn] at A6 st6
  have ne_ba_bn : ba ≠ bn := Nat.ne_of_lt (Nat.lt_of_lt_of_le V_ba.lt (Nat.le_of_eq gz_bn.symm))
  have g_bn : n0 ≤ bn := Nat.le_trans Z0 (Nat.le_of_eq gz_bn.symm)
  have Z0 := Nat.le_trans Z0 E6.1
  have V_ba := V_ba.ext E6
  refine own_st st6 ?_
  have V_bn : Arv Z h6 bn kc6 .int (4 : Int32) [(.int (0 : Int32)), (.int (0 : Int32)), (.int (0 : Int32)), (.int (0 : Int32))] (.int (0 : Int32)) := (Arv.new A6 (by decide)).pad (pad_rep [] (.int (0 : Int32)) 4)
  show Fin1 p e below s (rm0Q Z i0 i1 i2 i3 i4 i5 h0 n0) room_1.cells room_1.slots (T6.setTop (mkF m 55 #[.val (.int i0), .val (.int i1), .val (.int i2), .val (.int i3), .val (.int i4), .val (.int i5), .val (.ref ba), .val (.int y0), .val (.int y1), .val (.int y2), .val (.int y3), .unset, .unset, .unset] [(.ref bn)]))
  refine own_st (fun wt wk => XS.dup X6.here hx rfl (hb hby at_55) rfl rfl wk) ?_
  show Fin1 p e below s (rm0Q Z i0 i1 i2 i3 i4 i5 h0 n0) room_1.cells room_1.slots (T6.setTop (mkF m 56 #[.val (.int i0), .val (.int i1), .val (.int i2), .val (.int i3), .val (.int i4), .val (.int i5), .val (.ref ba), .val (.int y0), .val (.int y1), .val (.int y2), .val (.int y3), .unset, .unset, .unset] [(.ref bn), (.ref bn)]))
  refine own_st (fun wt wk => XS.iconst X6.here hx rfl (hb hby at_56) wk) ?_
  show Fin1 p e below s (rm0Q Z i0 i1 i2 i3 i4 i5 h0 n0) room_1.cells room_1.slots (T6.setTop (mkF m 57 #[.val (.int i0), .val (.int i1), .val (.int i2), .val (.int i3), .val (.int i4), .val (.int i5), .val (.ref ba), .val (.int y0), .val (.int y1), .val (.int y2), .val (.int y3), .unset, .unset, .unset] [(.int (0 : Int32)), (.ref bn), (.ref bn)]))
  refine own_st (fun wt wk => XS.iload X6.here hx rfl (hb hby at_57) rfl wk) ?_
  show Fin1 p e below s (rm0Q Z i0 i1 i2 i3 i4 i5 h0 n0) room_1.cells room_1.slots (T6.setTop (mkF m 59 #[.val (.int i0), .val (.int i1), .val (.int i2), .val (.int i3), .val (.int i4), .val (.int i5), .val (.ref ba), .val (.int y0), .val (.int y1), .val (.int y2), .val (.int y3), .unset, .unset, .unset] [(.int y0), (.int (0 : Int32)), (.ref bn), (.ref bn)]))
  obtain ⟨T7, h7, X7, e7, W7, U7, st7⟩ := own_stI (j := (0 : Int32)) X6 hx hZ e6 V_bn ⟨by decide, by decide⟩ 0 rfl (by simp) (g := (mkF m 59 #[.val (.int i0), .val (.int i1), .val (.int i2), .val (.int i3), .val (.int i4), .val (.int i5), .val (.ref ba), .val (.int y0), .val (.int y1), .val (.int y2), .val (.int y3), .unset, .unset, .unset] [(.int y0), (.int (0 : Int32)), (.ref bn), (.ref bn)])) rfl rfl (hb hby at_59)
  have N7 := Fr.snoc X7 N5 g_bn
  have Z0 := Nat.le_trans Z0 (Nat.le_of_eq W7.size.symm)
  have V_ba := V_ba.other W7 ne_ba_bn
  have V_bn : Arv Z h7 bn kc6 .int (4 : Int32) [(.int y0), (.int (0 : Int32)), (.int (0 : Int32)), (.int (0 : Int32))] (.int (0 : Int32)) := U7
  refine own_st st7 ?_
  show Fin1 p e below s (rm0Q Z i0 i1 i2 i3 i4 i5 h0 n0) room_1.cells room_1.slots (T7.setTop (mkF m 60 #[.val (.int i0), .val (.int i1), .val (.int i2), .val (.int i3), .val (.int i4), .val (.int i5), .val (.ref ba), .val (.int y0), .val (.int y1), .val (.int y2), .val (.int y3), .unset, .unset, .unset] [(.ref bn)]))
  refine own_st (fun wt wk => XS.dup X7.here hx rfl (hb hby at_60) rfl rfl wk) ?_
  show Fin1 p e below s (rm0Q Z i0 i1 i2 i3 i4 i5 h0 n0) room_1.cells room_1.slots (T7.setTop (mkF m 61 #[.val (.int i0), .val (.int i1), .val (.int i2), .val (.int i3), .val (.int i4), .val (.int i5), .val (.ref ba), .val (.int y0), .val (.int y1), .val (.int y2), .val (.int y3), .unset, .unset, .unset] [(.ref bn), (.ref bn)]))
  refine own_st (fun wt wk => XS.iconst X7.here hx rfl (hb hby at_61) wk) ?_
  show Fin1 p e below s (rm0Q Z i0 i1 i2 i3 i4 i5 h0 n0) room_1.cells room_1.slots (T7.setTop (mkF m 62 #[.val (.int i0), .val (.int i1), .val (.int i2), .val (.int i3), .val (.int i4), .val (.int i5), .val (.ref ba), .val (.int y0), .val (.int y1), .val (.int y2), .val (.int y3), .unset, .unset, .unset] [(.int (1 : Int32)), (.ref bn), (.ref bn)]))
  refine own_st (fun wt wk => XS.iload X7.here hx rfl (hb hby at_62) rfl wk) ?_
  show Fin1 p e below s (rm0Q Z i0 i1 i2 i3 i4 i5 h0 n0) room_1.cells room_1.slots (T7.setTop (mkF m 64 #[.val (.int i0), .val (.int i1), .val (.int i2), .val (.int i3), .val (.int i4), .val (.int i5), .val (.ref ba), .val (.int y0), .val (.int y1), .val (.int y2), .val (.int y3), .unset, .unset, .unset] [(.int y1), (.int (1 : Int32)), (.ref bn), (.ref bn)]))
  obtain ⟨T8, h8, X8, e8, W8, U8, st8⟩ := own_stI (j := (1 : Int32)) X7 hx hZ e7 V_bn ⟨by decide, by decide⟩ 1 rfl (by simp) (g := (mkF m 64 #[.val (.int i0), .val (.int i1), .val (.int i2), .val (.int i3), .val (.int i4), .val (.int i5), .val (.ref ba), .val (.int y0), .val (.int y1), .val (.int y2), .val (.int y3), .unset, .unset, .unset] [(.int y1), (.int (1 : Int32)), (.ref bn), (.ref bn)])) rfl rfl (hb hby at_64)
  have N8 := Fr.snoc X8 N7 g_bn
  have Z0 := Nat.le_trans Z0 (Nat.le_of_eq W8.size.symm)
  have V_ba := V_ba.other W8 ne_ba_bn
  have V_bn : Arv Z h8 bn kc6 .int (4 : Int32) [(.int y0), (.int y1), (.int (0 : Int32)), (.int (0 : Int32))] (.int (0 : Int32)) := U8
  refine own_st st8 ?_
  show Fin1 p e below s (rm0Q Z i0 i1 i2 i3 i4 i5 h0 n0) room_1.cells room_1.slots (T8.setTop (mkF m 65 #[.val (.int i0), .val (.int i1), .val (.int i2), .val (.int i3), .val (.int i4), .val (.int i5), .val (.ref ba), .val (.int y0), .val (.int y1), .val (.int y2), .val (.int y3), .unset, .unset, .unset] [(.ref bn)]))
  refine own_st (fun wt wk => XS.dup X8.here hx rfl (hb hby at_65) rfl rfl wk) ?_
  show Fin1 p e below s (rm0Q Z i0 i1 i2 i3 i4 i5 h0 n0) room_1.cells room_1.slots (T8.setTop (mkF m 66 #[.val (.int i0), .val (.int i1), .val (.int i2), .val (.int i3), .val (.int i4), .val (.int i5), .val (.ref ba), .val (.int y0), .val (.int y1), .val (.int y2), .val (.int y3), .unset, .unset, .unset] [(.ref bn), (.ref bn)]))
  refine own_st (fun wt wk => XS.iconst X8.here hx rfl (hb hby at_66) wk) ?_
  show Fin1 p e below s (rm0Q Z i0 i1 i2 i3 i4 i5 h0 n0) room_1.cells room_1.slots (T8.setTop (mkF m 67 #[.val (.int i0), .val (.int i1), .val (.int i2), .val (.int i3), .val (.int i4), .val (.int i5), .val (.ref ba), .val (.int y0), .val (.int y1), .val (.int y2), .val (.int y3), .unset, .unset, .unset] [(.int (2 : Int32)), (.ref bn), (.ref bn)]))
  refine own_st (fun wt wk => XS.iload X8.here hx rfl (hb hby at_67) rfl wk) ?_
  show Fin1 p e below s (rm0Q Z i0 i1 i2 i3 i4 i5 h0 n0) room_1.cells room_1.slots (T8.setTop (mkF m 69 #[.val (.int i0), .val (.int i1), .val (.int i2), .val (.int i3), .val (.int i4), .val (.int i5), .val (.ref ba), .val (.int y0), .val (.int y1), .val (.int y2), .val (.int y3), .unset, .unset, .unset] [(.int y2), (.int (2 : Int32)), (.ref bn), (.ref bn)]))
  obtain ⟨T9, h9, X9, e9, W9, U9, st9⟩ := own_stI (j := (2 : Int32)) X8 hx hZ e8 V_bn ⟨by decide, by decide⟩ 2 rfl (by simp) (g := (mkF m 69 #[.val (.int i0), .val (.int i1), .val (.int i2), .val (.int i3), .val (.int i4), .val (.int i5), .val (.ref ba), .val (.int y0), .val (.int y1), .val (.int y2), .val (.int y3), .unset, .unset, .unset] [(.int y2), (.int (2 : Int32)), (.ref bn), (.ref bn)])) rfl rfl (hb hby at_69)
  have N9 := Fr.snoc X9 N8 g_bn
  have Z0 := Nat.le_trans Z0 (Nat.le_of_eq W9.size.symm)
  have V_ba := V_ba.other W9 ne_ba_bn
  have V_bn : Arv Z h9 bn kc6 .int (4 : Int32) [(.int y0), (.int y1), (.int y2), (.int (0 : Int32))] (.int (0 : Int32)) := U9
  refine own_st st9 ?_
  show Fin1 p e below s (rm0Q Z i0 i1 i2 i3 i4 i5 h0 n0) room_1.cells room_1.slots (T9.setTop (mkF m 70 #[.val (.int i0), .val (.int i1), .val (.int i2), .val (.int i3), .val (.int i4), .val (.int i5), .val (.ref ba), .val (.int y0), .val (.int y1), .val (.int y2), .val (.int y3), .unset, .unset, .unset] [(.ref bn)]))
  refine own_st (fun wt wk => XS.dup X9.here hx rfl (hb hby at_70) rfl rfl wk) ?_
  show Fin1 p e below s (rm0Q Z i0 i1 i2 i3 i4 i5 h0 n0) room_1.cells room_1.slots (T9.setTop (mkF m 71 #[.val (.int i0), .val (.int i1), .val (.int i2), .val (.int i3), .val (.int i4), .val (.int i5), .val (.ref ba), .val (.int y0), .val (.int y1), .val (.int y2), .val (.int y3), .unset, .unset, .unset] [(.ref bn), (.ref bn)]))
  refine own_st (fun wt wk => XS.iconst X9.here hx rfl (hb hby at_71) wk) ?_
  show Fin1 p e below s (rm0Q Z i0 i1 i2 i3 i4 i5 h0 n0) room_1.cells room_1.slots (T9.setTop (mkF m 72 #[.val (.int i0), .val (.int i1), .val (.int i2), .val (.int i3), .val (.int i4), .val (.int i5), .val (.ref ba), .val (.int y0), .val (.int y1), .val (.int y2), .val (.int y3), .unset, .unset, .unset] [(.int (3 : Int32)), (.ref bn), (.ref bn)]))
  refine own_st (fun wt wk => XS.iload X9.here hx rfl (hb hby at_72) rfl wk) ?_
  show Fin1 p e below s (rm0Q Z i0 i1 i2 i3 i4 i5 h0 n0) room_1.cells room_1.slots (T9.setTop (mkF m 74 #[.val (.int i0), .val (.int i1), .val (.int i2), .val (.int i3), .val (.int i4), .val (.int i5), .val (.ref ba), .val (.int y0), .val (.int y1), .val (.int y2), .val (.int y3), .unset, .unset, .unset] [(.int y3), (.int (3 : Int32)), (.ref bn), (.ref bn)]))
  obtain ⟨T10, h10, X10, e10, W10, U10, st10⟩ := own_stI (j := (3 : Int32)) X9 hx hZ e9 V_bn ⟨by decide, by decide⟩ 3 rfl (by simp) (g := (mkF m 74 #[.val (.int i0), .val (.int i1), .val (.int i2), .val (.int i3), .val (.int i4), .val (.int i5), .val (.ref ba), .val (.int y0), .val (.int y1), .val (.int y2), .val (.int y3), .unset, .unset, .unset] [(.int y3), (.int (3 : Int32)), (.ref bn), (.ref bn)])) rfl rfl (hb hby at_74)
  have N10 := Fr.snoc X10 N9 g_bn
  have Z0 := Nat.le_trans Z0 (Nat.le_of_eq W10.size.symm)
  have V_ba := V_ba.other W10 ne_ba_bn
  have V_bn : Arv Z h10 bn kc6 .int (4 : Int32) [(.int y0), (.int y1), (.int y2), (.int y3)] (.int (0 : Int32)) := U10
  refine own_st st10 ?_
  show Fin1 p e below s (rm0Q Z i0 i1 i2 i3 i4 i5 h0 n0) room_1.cells room_1.slots (T10.setTop (mkF m 75 #[.val (.int i0), .val (.int i1), .val (.int i2), .val (.int i3), .val (.int i4), .val (.int i5), .val (.ref ba), .val (.int y0), .val (.int y1), .val (.int y2), .val (.int y3), .unset, .unset, .unset] [(.ref bn)]))
  refine own_st (fun wt wk => XS.astore X10.here hx rfl (hb hby at_75) rfl rfl (l' := #[.val (.int i0), .val (.int i1), .val (.int i2), .val (.int i3), .val (.int i4), .val (.int i5), .val (.ref ba), .val (.int y0), .val (.int y1), .val (.int y2), .val (.int y3), .val (.ref bn), .unset, .unset]) rfl wk) ?_
  show Fin1 p e below s (rm0Q Z i0 i1 i2 i3 i4 i5 h0 n0) room_1.cells room_1.slots (T10.setTop (mkF m 77 #[.val (.int i0), .val (.int i1), .val (.int i2), .val (.int i3), .val (.int i4), .val (.int i5), .val (.ref ba), .val (.int y0), .val (.int y1), .val (.int y2), .val (.int y3), .val (.ref bn), .unset, .unset] []))
  refine own_st (fun wt wk => XS.iload X10.here hx rfl (hb hby at_77) rfl wk) ?_
  show Fin1 p e below s (rm0Q Z i0 i1 i2 i3 i4 i5 h0 n0) room_1.cells room_1.slots (T10.setTop (mkF m 79 #[.val (.int i0), .val (.int i1), .val (.int i2), .val (.int i3), .val (.int i4), .val (.int i5), .val (.ref ba), .val (.int y0), .val (.int y1), .val (.int y2), .val (.int y3), .val (.ref bn), .unset, .unset] [(.int i5)]))
  refine own_st (X10.ldcInt hx hown (mvT hZ (hw _ (List.mem_of_getElem? (i := 1) rfl))) (g := (mkF m 79 #[.val (.int i0), .val (.int i1), .val (.int i2), .val (.int i3), .val (.int i4), .val (.int i5), .val (.ref ba), .val (.int y0), .val (.int y1), .val (.int y2), .val (.int y3), .val (.ref bn), .unset, .unset] [(.int i5)])) rfl (hb hby at_79)) ?_
  show Fin1 p e below s (rm0Q Z i0 i1 i2 i3 i4 i5 h0 n0) room_1.cells room_1.slots (T10.setTop (mkF m 81 #[.val (.int i0), .val (.int i1), .val (.int i2), .val (.int i3), .val (.int i4), .val (.int i5), .val (.ref ba), .val (.int y0), .val (.int y1), .val (.int y2), .val (.int y3), .val (.ref bn), .unset, .unset] [(.int (2147483647 : Int32)), (.int i5)]))
  refine own_st (fun wt wk => XS.iand X10.here hx rfl (hb hby at_81) rfl wk) ?_
  show Fin1 p e below s (rm0Q Z i0 i1 i2 i3 i4 i5 h0 n0) room_1.cells room_1.slots (T10.setTop (mkF m 82 #[.val (.int i0), .val (.int i1), .val (.int i2), .val (.int i3), .val (.int i4), .val (.int i5), .val (.ref ba), .val (.int y0), .val (.int y1), .val (.int y2), .val (.int y3), .val (.ref bn), .unset, .unset] [(.int (i5 &&& (2147483647 : Int32)))]))
  refine own_st (fun wt wk => XS.iconst X10.here hx rfl (hb hby at_82) wk) ?_
  show Fin1 p e below s (rm0Q Z i0 i1 i2 i3 i4 i5 h0 n0) room_1.cells room_1.slots (T10.setTop (mkF m 83 #[.val (.int i0), .val (.int i1), .val (.int i2), .val (.int i3), .val (.int i4), .val (.int i5), .val (.ref ba), .val (.int y0), .val (.int y1), .val (.int y2), .val (.int y3), .val (.ref bn), .unset, .unset] [(.int (5 : Int32)), (.int (i5 &&& (2147483647 : Int32)))]))
  refine own_st (fun wt wk => iremM X10 hx rfl (hb hby at_83) rfl (by decide) wk) ?_
  show Fin1 p e below s (rm0Q Z i0 i1 i2 i3 i4 i5 h0 n0) room_1.cells room_1.slots (T10.setTop (mkF m 84 #[.val (.int i0), .val (.int i1), .val (.int i2), .val (.int i3), .val (.int i4), .val (.int i5), .val (.ref ba), .val (.int y0), .val (.int y1), .val (.int y2), .val (.int y3), .val (.ref bn), .unset, .unset] [(.int ((i5 &&& (2147483647 : Int32)) % (5 : Int32)))]))
  suffices K84 : ∀ (ct : Int32), (ct = 0 ∨ ct = 1 ∨ ct = 2 ∨ ct = 3 ∨ ct = 4) → Fin1 p e below s (rm0Q Z i0 i1 i2 i3 i4 i5 h0 n0) room_1.cells room_1.slots (T10.setTop (mkF m 84 #[.val (.int i0), .val (.int i1), .val (.int i2), .val (.int i3), .val (.int i4), .val (.int i5), .val (.ref ba), .val (.int y0), .val (.int y1), .val (.int y2), .val (.int y3), .val (.ref bn), .unset, .unset] [(.int ct)])) by
    exact K84 _ (own_cnt _)
  intro ct hct
  rcases hct with rfl | rfl | rfl | rfl | rfl
  · show Fin1 p e below s (rm0Q Z i0 i1 i2 i3 i4 i5 h0 n0) room_1.cells room_1.slots (T10.setTop (mkF m 84 #[.val (.int i0), .val (.int i1), .val (.int i2), .val (.int i3), .val (.int i4), .val (.int i5), .val (.ref ba), .val (.int y0), .val (.int y1), .val (.int y2), .val (.int y3), .val (.ref bn), .unset, .unset] [(.int (0 : Int32))]))
    refine own_st (fun wt wk => XS.istore X10.here hx rfl (hb hby at_84) rfl (l' := #[.val (.int i0), .val (.int i1), .val (.int i2), .val (.int i3), .val (.int i4), .val (.int i5), .val (.ref ba), .val (.int y0), .val (.int y1), .val (.int y2), .val (.int y3), .val (.ref bn), .val (.int (0 : Int32)), .unset]) rfl wk) ?_
    show Fin1 p e below s (rm0Q Z i0 i1 i2 i3 i4 i5 h0 n0) room_1.cells room_1.slots (T10.setTop (mkF m 86 #[.val (.int i0), .val (.int i1), .val (.int i2), .val (.int i3), .val (.int i4), .val (.int i5), .val (.ref ba), .val (.int y0), .val (.int y1), .val (.int y2), .val (.int y3), .val (.ref bn), .val (.int (0 : Int32)), .unset] []))
    refine own_st (fun wt wk => XS.aload X10.here hx rfl (hb hby at_86) rfl rfl wk) ?_
    show Fin1 p e below s (rm0Q Z i0 i1 i2 i3 i4 i5 h0 n0) room_1.cells room_1.slots (T10.setTop (mkF m 88 #[.val (.int i0), .val (.int i1), .val (.int i2), .val (.int i3), .val (.int i4), .val (.int i5), .val (.ref ba), .val (.int y0), .val (.int y1), .val (.int y2), .val (.int y3), .val (.ref bn), .val (.int (0 : Int32)), .unset] [(.ref ba)]))
    refine own_st (fun wt wk => XS.aload X10.here hx rfl (hb hby at_88) rfl rfl wk) ?_
    show Fin1 p e below s (rm0Q Z i0 i1 i2 i3 i4 i5 h0 n0) room_1.cells room_1.slots (T10.setTop (mkF m 90 #[.val (.int i0), .val (.int i1), .val (.int i2), .val (.int i3), .val (.int i4), .val (.int i5), .val (.ref ba), .val (.int y0), .val (.int y1), .val (.int y2), .val (.int y3), .val (.ref bn), .val (.int (0 : Int32)), .unset] [(.ref bn), (.ref ba)]))
    refine own_st (fun wt wk => XS.iload X10.here hx rfl (hb hby at_90) rfl wk) ?_
    show Fin1 p e below s (rm0Q Z i0 i1 i2 i3 i4 i5 h0 n0) room_1.cells room_1.slots (T10.setTop (mkF m 92 #[.val (.int i0), .val (.int i1), .val (.int i2), .val (.int i3), .val (.int i4), .val (.int i5), .val (.ref ba), .val (.int y0), .val (.int y1), .val (.int y2), .val (.int y3), .val (.ref bn), .val (.int (0 : Int32)), .unset] [(.int (0 : Int32)), (.ref bn), (.ref ba)]))
    obtain ⟨v11, T11, h11, L11, X11, e11, hQ11, st11⟩ := own_static X10 hx hZ hown (hw _ (List.mem_of_getElem? (i := 2) rfl)) (hw _ (List.mem_of_getElem? (i := 3) rfl)) (hw _ (List.mem_of_getElem? (i := 4) rfl)) (hw _ (List.mem_of_getElem? (i := 5) rfl)) (by decide) (rmS0 l Z a0 hw ba bn kc1 kc6 i0 i1 i2 i3 y0 y1 y2 y3 h10 n0 Z0 V_ba V_bn r0 r1 r2 r3) e10 (g := (mkF m 92 #[.val (.int i0), .val (.int i1), .val (.int i2), .val (.int i3), .val (.int i4), .val (.int i5), .val (.ref ba), .val (.int y0), .val (.int y1), .val (.int y2), .val (.int y3), .val (.ref bn), .val (.int (0 : Int32)), .unset] [(.int (0 : Int32)), (.ref bn), (.ref ba)])) rfl (by rw [hml]; rfl) (argsL := [(.ref ba), (.ref bn), (.int (0 : Int32))]) (rest := []) (lenOf pd_2 rfl) rfl (W := 0) (by show 2 * 0 + _ ≤ _; exact Nat.le_of_eq rfl) (hb hby at_92) (by decide) (by decide) (by decide) (by decide)
    obtain ⟨br, kr, rfl, N11q, hs, K11, V_br⟩ := hQ11
    have N11 := Fr.app N10 N11q
    have ne_ba_br : ba ≠ br := Nat.ne_of_lt (Nat.lt_of_lt_of_le V_ba.lt hs)
    have ne_bn_br : bn ≠ br := Nat.ne_of_lt (Nat.lt_of_lt_of_le V_bn.lt hs)
    have g_br : n0 ≤ br := Nat.le_trans Z0 hs
    have Z0 := Nat.le_trans Z0 K11.1
    have V_ba := V_ba.keep K11 nin0
    have V_bn := V_bn.keep K11 nin0
    refine own_st st11 ?_
    show Fin1 p e below s (rm0Q Z i0 i1 i2 i3 i4 i5 h0 n0) room_1.cells room_1.slots (T11.setTop (mkF m 95 #[.val (.int i0), .val (.int i1), .val (.int i2), .val (.int i3), .val (.int i4), .val (.int i5), .val (.ref ba), .val (.int y0), .val (.int y1), .val (.int y2), .val (.int y3), .val (.ref bn), .val (.int (0 : Int32)), .unset] [(.ref br)]))
    refine own_st (fun wt wk => XS.astore X11.here hx rfl (hb hby at_95) rfl rfl (l' := #[.val (.int i0), .val (.int i1), .val (.int i2), .val (.int i3), .val (.int i4), .val (.int i5), .val (.ref ba), .val (.int y0), .val (.int y1), .val (.int y2), .val (.int y3), .val (.ref bn), .val (.int (0 : Int32)), .val (.ref br)]) rfl wk) ?_
    show Fin1 p e below s (rm0Q Z i0 i1 i2 i3 i4 i5 h0 n0) room_1.cells room_1.slots (T11.setTop (mkF m 97 #[.val (.int i0), .val (.int i1), .val (.int i2), .val (.int i3), .val (.int i4), .val (.int i5), .val (.ref ba), .val (.int y0), .val (.int y1), .val (.int y2), .val (.int y3), .val (.ref bn), .val (.int (0 : Int32)), .val (.ref br)] []))
    refine own_st (fun wt wk => XS.aload X11.here hx rfl (hb hby at_97) rfl rfl wk) ?_
    show Fin1 p e below s (rm0Q Z i0 i1 i2 i3 i4 i5 h0 n0) room_1.cells room_1.slots (T11.setTop (mkF m 99 #[.val (.int i0), .val (.int i1), .val (.int i2), .val (.int i3), .val (.int i4), .val (.int i5), .val (.ref ba), .val (.int y0), .val (.int y1), .val (.int y2), .val (.int y3), .val (.ref bn), .val (.int (0 : Int32)), .val (.ref br)] [(.ref br)]))
    refine own_st (own_len X11 hx hZ e11 V_br (g := (mkF m 99 #[.val (.int i0), .val (.int i1), .val (.int i2), .val (.int i3), .val (.int i4), .val (.int i5), .val (.ref ba), .val (.int y0), .val (.int y1), .val (.int y2), .val (.int y3), .val (.ref bn), .val (.int (0 : Int32)), .val (.ref br)] [(.ref br)])) rfl rfl (hb hby at_99)) ?_
    show Fin1 p e below s (rm0Q Z i0 i1 i2 i3 i4 i5 h0 n0) room_1.cells room_1.slots (T11.setTop (mkF m 100 #[.val (.int i0), .val (.int i1), .val (.int i2), .val (.int i3), .val (.int i4), .val (.int i5), .val (.ref ba), .val (.int y0), .val (.int y1), .val (.int y2), .val (.int y3), .val (.ref bn), .val (.int (0 : Int32)), .val (.ref br)] [(.int (0 : Int32))]))
    refine own_st (fun wt wk => XS.iload X11.here hx rfl (hb hby at_100) rfl wk) ?_
    show Fin1 p e below s (rm0Q Z i0 i1 i2 i3 i4 i5 h0 n0) room_1.cells room_1.slots (T11.setTop (mkF m 102 #[.val (.int i0), .val (.int i1), .val (.int i2), .val (.int i3), .val (.int i4), .val (.int i5), .val (.ref ba), .val (.int y0), .val (.int y1), .val (.int y2), .val (.int y3), .val (.ref bn), .val (.int (0 : Int32)), .val (.ref br)] [(.int (0 : Int32)), (.int (0 : Int32))]))
    refine own_st (fun wt wk => XS.icmpYes X11.here hx rfl (pc0 := 102) (pc' := 107) rfl (hb hby at_102) rfl (teq (by decide)).1 (by decide) (by decide) wk) ?_
    show Fin1 p e below s (rm0Q Z i0 i1 i2 i3 i4 i5 h0 n0) room_1.cells room_1.slots (T11.setTop (mkF m 107 #[.val (.int i0), .val (.int i1), .val (.int i2), .val (.int i3), .val (.int i4), .val (.int i5), .val (.ref ba), .val (.int y0), .val (.int y1), .val (.int y2), .val (.int y3), .val (.ref bn), .val (.int (0 : Int32)), .val (.ref br)] []))
    refine own_st (fun wt wk => XS.iload X11.here hx rfl (hb hby at_107) rfl wk) ?_
    show Fin1 p e below s (rm0Q Z i0 i1 i2 i3 i4 i5 h0 n0) room_1.cells room_1.slots (T11.setTop (mkF m 109 #[.val (.int i0), .val (.int i1), .val (.int i2), .val (.int i3), .val (.int i4), .val (.int i5), .val (.ref ba), .val (.int y0), .val (.int y1), .val (.int y2), .val (.int y3), .val (.ref bn), .val (.int (0 : Int32)), .val (.ref br)] [(.int (0 : Int32))]))
    refine own_st (fun wt wk => XS.ifYes X11.here hx rfl (pc0 := 109) (pc' := 130) rfl (hb hby at_109) rfl ((if0 _ _).trans (flt (by decide)).2.2.2) (by decide) (by decide) wk) ?_
    show Fin1 p e below s (rm0Q Z i0 i1 i2 i3 i4 i5 h0 n0) room_1.cells room_1.slots (T11.setTop (mkF m 130 #[.val (.int i0), .val (.int i1), .val (.int i2), .val (.int i3), .val (.int i4), .val (.int i5), .val (.ref ba), .val (.int y0), .val (.int y1), .val (.int y2), .val (.int y3), .val (.ref bn), .val (.int (0 : Int32)), .val (.ref br)] []))
    refine own_st (fun wt wk => XS.iload X11.here hx rfl (hb hby at_130) rfl wk) ?_
    show Fin1 p e below s (rm0Q Z i0 i1 i2 i3 i4 i5 h0 n0) room_1.cells room_1.slots (T11.setTop (mkF m 132 #[.val (.int i0), .val (.int i1), .val (.int i2), .val (.int i3), .val (.int i4), .val (.int i5), .val (.ref ba), .val (.int y0), .val (.int y1), .val (.int y2), .val (.int y3), .val (.ref bn), .val (.int (0 : Int32)), .val (.ref br)] [(.int (0 : Int32))]))
    refine own_st (fun wt wk => XS.iconst X11.here hx rfl (hb hby at_132) wk) ?_
    show Fin1 p e below s (rm0Q Z i0 i1 i2 i3 i4 i5 h0 n0) room_1.cells room_1.slots (T11.setTop (mkF m 133 #[.val (.int i0), .val (.int i1), .val (.int i2), .val (.int i3), .val (.int i4), .val (.int i5), .val (.ref ba), .val (.int y0), .val (.int y1), .val (.int y2), .val (.int y3), .val (.ref bn), .val (.int (0 : Int32)), .val (.ref br)] [(.int (1 : Int32)), (.int (0 : Int32))]))
    refine own_st (fun wt wk => XS.icmpYes X11.here hx rfl (pc0 := 133) (pc' := 154) rfl (hb hby at_133) rfl (flt (by decide)).2.2.2 (by decide) (by decide) wk) ?_
    show Fin1 p e below s (rm0Q Z i0 i1 i2 i3 i4 i5 h0 n0) room_1.cells room_1.slots (T11.setTop (mkF m 154 #[.val (.int i0), .val (.int i1), .val (.int i2), .val (.int i3), .val (.int i4), .val (.int i5), .val (.ref ba), .val (.int y0), .val (.int y1), .val (.int y2), .val (.int y3), .val (.ref bn), .val (.int (0 : Int32)), .val (.ref br)] []))
    refine own_st (fun wt wk => XS.iload X11.here hx rfl (hb hby at_154) rfl wk) ?_
    show Fin1 p e below s (rm0Q Z i0 i1 i2 i3 i4 i5 h0 n0) room_1.cells room_1.slots (T11.setTop (mkF m 156 #[.val (.int i0), .val (.int i1), .val (.int i2), .val (.int i3), .val (.int i4), .val (.int i5), .val (.ref ba), .val (.int y0), .val (.int y1), .val (.int y2), .val (.int y3), .val (.ref bn), .val (.int (0 : Int32)), .val (.ref br)] [(.int (0 : Int32))]))
    refine own_st (fun wt wk => XS.iconst X11.here hx rfl (hb hby at_156) wk) ?_
    show Fin1 p e below s (rm0Q Z i0 i1 i2 i3 i4 i5 h0 n0) room_1.cells room_1.slots (T11.setTop (mkF m 157 #[.val (.int i0), .val (.int i1), .val (.int i2), .val (.int i3), .val (.int i4), .val (.int i5), .val (.ref ba), .val (.int y0), .val (.int y1), .val (.int y2), .val (.int y3), .val (.ref bn), .val (.int (0 : Int32)), .val (.ref br)] [(.int (2 : Int32)), (.int (0 : Int32))]))
    refine own_st (fun wt wk => XS.icmpYes X11.here hx rfl (pc0 := 157) (pc' := 178) rfl (hb hby at_157) rfl (flt (by decide)).2.2.2 (by decide) (by decide) wk) ?_
    show Fin1 p e below s (rm0Q Z i0 i1 i2 i3 i4 i5 h0 n0) room_1.cells room_1.slots (T11.setTop (mkF m 178 #[.val (.int i0), .val (.int i1), .val (.int i2), .val (.int i3), .val (.int i4), .val (.int i5), .val (.ref ba), .val (.int y0), .val (.int y1), .val (.int y2), .val (.int y3), .val (.ref bn), .val (.int (0 : Int32)), .val (.ref br)] []))
    refine own_st (fun wt wk => XS.iload X11.here hx rfl (hb hby at_178) rfl wk) ?_
    show Fin1 p e below s (rm0Q Z i0 i1 i2 i3 i4 i5 h0 n0) room_1.cells room_1.slots (T11.setTop (mkF m 180 #[.val (.int i0), .val (.int i1), .val (.int i2), .val (.int i3), .val (.int i4), .val (.int i5), .val (.ref ba), .val (.int y0), .val (.int y1), .val (.int y2), .val (.int y3), .val (.ref bn), .val (.int (0 : Int32)), .val (.ref br)] [(.int (0 : Int32))]))
    refine own_st (fun wt wk => XS.iconst X11.here hx rfl (hb hby at_180) wk) ?_
    show Fin1 p e below s (rm0Q Z i0 i1 i2 i3 i4 i5 h0 n0) room_1.cells room_1.slots (T11.setTop (mkF m 181 #[.val (.int i0), .val (.int i1), .val (.int i2), .val (.int i3), .val (.int i4), .val (.int i5), .val (.ref ba), .val (.int y0), .val (.int y1), .val (.int y2), .val (.int y3), .val (.ref bn), .val (.int (0 : Int32)), .val (.ref br)] [(.int (3 : Int32)), (.int (0 : Int32))]))
    refine own_st (fun wt wk => XS.icmpYes X11.here hx rfl (pc0 := 181) (pc' := 202) rfl (hb hby at_181) rfl (flt (by decide)).2.2.2 (by decide) (by decide) wk) ?_
    show Fin1 p e below s (rm0Q Z i0 i1 i2 i3 i4 i5 h0 n0) room_1.cells room_1.slots (T11.setTop (mkF m 202 #[.val (.int i0), .val (.int i1), .val (.int i2), .val (.int i3), .val (.int i4), .val (.int i5), .val (.ref ba), .val (.int y0), .val (.int y1), .val (.int y2), .val (.int y3), .val (.ref bn), .val (.int (0 : Int32)), .val (.ref br)] []))
    refine own_st (fun wt wk => XS.aload X11.here hx rfl (hb hby at_202) rfl rfl wk) ?_
    show Fin1 p e below s (rm0Q Z i0 i1 i2 i3 i4 i5 h0 n0) room_1.cells room_1.slots (T11.setTop (mkF m 204 #[.val (.int i0), .val (.int i1), .val (.int i2), .val (.int i3), .val (.int i4), .val (.int i5), .val (.ref ba), .val (.int y0), .val (.int y1), .val (.int y2), .val (.int y3), .val (.ref bn), .val (.int (0 : Int32)), .val (.ref br)] [(.ref ba)]))
    refine own_st (fun wt wk => XS.iconst X11.here hx rfl (hb hby at_204) wk) ?_
    show Fin1 p e below s (rm0Q Z i0 i1 i2 i3 i4 i5 h0 n0) room_1.cells room_1.slots (T11.setTop (mkF m 205 #[.val (.int i0), .val (.int i1), .val (.int i2), .val (.int i3), .val (.int i4), .val (.int i5), .val (.ref ba), .val (.int y0), .val (.int y1), .val (.int y2), .val (.int y3), .val (.ref bn), .val (.int (0 : Int32)), .val (.ref br)] [(.int (0 : Int32)), (.ref ba)]))
    refine own_st (own_ld (j := (0 : Int32)) (v := (.int i0)) X11 hx hZ e11 V_ba ⟨by decide, by decide⟩ rfl (g := (mkF m 205 #[.val (.int i0), .val (.int i1), .val (.int i2), .val (.int i3), .val (.int i4), .val (.int i5), .val (.ref ba), .val (.int y0), .val (.int y1), .val (.int y2), .val (.int y3), .val (.ref bn), .val (.int (0 : Int32)), .val (.ref br)] [(.int (0 : Int32)), (.ref ba)])) rfl rfl (Or.inl ⟨rfl, rfl⟩) (hb hby at_205)) ?_
    show Fin1 p e below s (rm0Q Z i0 i1 i2 i3 i4 i5 h0 n0) room_1.cells room_1.slots (T11.setTop (mkF m 206 #[.val (.int i0), .val (.int i1), .val (.int i2), .val (.int i3), .val (.int i4), .val (.int i5), .val (.ref ba), .val (.int y0), .val (.int y1), .val (.int y2), .val (.int y3), .val (.ref bn), .val (.int (0 : Int32)), .val (.ref br)] [(.int i0)]))
    refine own_st (fun wt wk => XS.iloadN X11.here hx rfl (hb hby at_206) rfl wk) ?_
    show Fin1 p e below s (rm0Q Z i0 i1 i2 i3 i4 i5 h0 n0) room_1.cells room_1.slots (T11.setTop (mkF m 207 #[.val (.int i0), .val (.int i1), .val (.int i2), .val (.int i3), .val (.int i4), .val (.int i5), .val (.ref ba), .val (.int y0), .val (.int y1), .val (.int y2), .val (.int y3), .val (.ref bn), .val (.int (0 : Int32)), .val (.ref br)] [(.int i0), (.int i0)]))
    refine own_st (fun wt wk => XS.icmpNo X11.here hx rfl (hb hby at_207) rfl (teq (rfl : i0 = i0)).2 wk) ?_
    show Fin1 p e below s (rm0Q Z i0 i1 i2 i3 i4 i5 h0 n0) room_1.cells room_1.slots (T11.setTop (mkF m 210 #[.val (.int i0), .val (.int i1), .val (.int i2), .val (.int i3), .val (.int i4), .val (.int i5), .val (.ref ba), .val (.int y0), .val (.int y1), .val (.int y2), .val (.int y3), .val (.ref bn), .val (.int (0 : Int32)), .val (.ref br)] []))
    refine own_st (fun wt wk => XS.aload X11.here hx rfl (hb hby at_210) rfl rfl wk) ?_
    show Fin1 p e below s (rm0Q Z i0 i1 i2 i3 i4 i5 h0 n0) room_1.cells room_1.slots (T11.setTop (mkF m 212 #[.val (.int i0), .val (.int i1), .val (.int i2), .val (.int i3), .val (.int i4), .val (.int i5), .val (.ref ba), .val (.int y0), .val (.int y1), .val (.int y2), .val (.int y3), .val (.ref bn), .val (.int (0 : Int32)), .val (.ref br)] [(.ref ba)]))
    refine own_st (fun wt wk => XS.iconst X11.here hx rfl (hb hby at_212) wk) ?_
    show Fin1 p e below s (rm0Q Z i0 i1 i2 i3 i4 i5 h0 n0) room_1.cells room_1.slots (T11.setTop (mkF m 213 #[.val (.int i0), .val (.int i1), .val (.int i2), .val (.int i3), .val (.int i4), .val (.int i5), .val (.ref ba), .val (.int y0), .val (.int y1), .val (.int y2), .val (.int y3), .val (.ref bn), .val (.int (0 : Int32)), .val (.ref br)] [(.int (1 : Int32)), (.ref ba)]))
    refine own_st (own_ld (j := (1 : Int32)) (v := (.int i1)) X11 hx hZ e11 V_ba ⟨by decide, by decide⟩ rfl (g := (mkF m 213 #[.val (.int i0), .val (.int i1), .val (.int i2), .val (.int i3), .val (.int i4), .val (.int i5), .val (.ref ba), .val (.int y0), .val (.int y1), .val (.int y2), .val (.int y3), .val (.ref bn), .val (.int (0 : Int32)), .val (.ref br)] [(.int (1 : Int32)), (.ref ba)])) rfl rfl (Or.inl ⟨rfl, rfl⟩) (hb hby at_213)) ?_
    show Fin1 p e below s (rm0Q Z i0 i1 i2 i3 i4 i5 h0 n0) room_1.cells room_1.slots (T11.setTop (mkF m 214 #[.val (.int i0), .val (.int i1), .val (.int i2), .val (.int i3), .val (.int i4), .val (.int i5), .val (.ref ba), .val (.int y0), .val (.int y1), .val (.int y2), .val (.int y3), .val (.ref bn), .val (.int (0 : Int32)), .val (.ref br)] [(.int i1)]))
    refine own_st (fun wt wk => XS.iloadN X11.here hx rfl (hb hby at_214) rfl wk) ?_
    show Fin1 p e below s (rm0Q Z i0 i1 i2 i3 i4 i5 h0 n0) room_1.cells room_1.slots (T11.setTop (mkF m 215 #[.val (.int i0), .val (.int i1), .val (.int i2), .val (.int i3), .val (.int i4), .val (.int i5), .val (.ref ba), .val (.int y0), .val (.int y1), .val (.int y2), .val (.int y3), .val (.ref bn), .val (.int (0 : Int32)), .val (.ref br)] [(.int i1), (.int i1)]))
    refine own_st (fun wt wk => XS.icmpNo X11.here hx rfl (hb hby at_215) rfl (teq (rfl : i1 = i1)).2 wk) ?_
    show Fin1 p e below s (rm0Q Z i0 i1 i2 i3 i4 i5 h0 n0) room_1.cells room_1.slots (T11.setTop (mkF m 218 #[.val (.int i0), .val (.int i1), .val (.int i2), .val (.int i3), .val (.int i4), .val (.int i5), .val (.ref ba), .val (.int y0), .val (.int y1), .val (.int y2), .val (.int y3), .val (.ref bn), .val (.int (0 : Int32)), .val (.ref br)] []))
    refine own_st (fun wt wk => XS.aload X11.here hx rfl (hb hby at_218) rfl rfl wk) ?_
    show Fin1 p e below s (rm0Q Z i0 i1 i2 i3 i4 i5 h0 n0) room_1.cells room_1.slots (T11.setTop (mkF m 220 #[.val (.int i0), .val (.int i1), .val (.int i2), .val (.int i3), .val (.int i4), .val (.int i5), .val (.ref ba), .val (.int y0), .val (.int y1), .val (.int y2), .val (.int y3), .val (.ref bn), .val (.int (0 : Int32)), .val (.ref br)] [(.ref ba)]))
    refine own_st (fun wt wk => XS.iconst X11.here hx rfl (hb hby at_220) wk) ?_
    show Fin1 p e below s (rm0Q Z i0 i1 i2 i3 i4 i5 h0 n0) room_1.cells room_1.slots (T11.setTop (mkF m 221 #[.val (.int i0), .val (.int i1), .val (.int i2), .val (.int i3), .val (.int i4), .val (.int i5), .val (.ref ba), .val (.int y0), .val (.int y1), .val (.int y2), .val (.int y3), .val (.ref bn), .val (.int (0 : Int32)), .val (.ref br)] [(.int (2 : Int32)), (.ref ba)]))
    refine own_st (own_ld (j := (2 : Int32)) (v := (.int i2)) X11 hx hZ e11 V_ba ⟨by decide, by decide⟩ rfl (g := (mkF m 221 #[.val (.int i0), .val (.int i1), .val (.int i2), .val (.int i3), .val (.int i4), .val (.int i5), .val (.ref ba), .val (.int y0), .val (.int y1), .val (.int y2), .val (.int y3), .val (.ref bn), .val (.int (0 : Int32)), .val (.ref br)] [(.int (2 : Int32)), (.ref ba)])) rfl rfl (Or.inl ⟨rfl, rfl⟩) (hb hby at_221)) ?_
    show Fin1 p e below s (rm0Q Z i0 i1 i2 i3 i4 i5 h0 n0) room_1.cells room_1.slots (T11.setTop (mkF m 222 #[.val (.int i0), .val (.int i1), .val (.int i2), .val (.int i3), .val (.int i4), .val (.int i5), .val (.ref ba), .val (.int y0), .val (.int y1), .val (.int y2), .val (.int y3), .val (.ref bn), .val (.int (0 : Int32)), .val (.ref br)] [(.int i2)]))
    refine own_st (fun wt wk => XS.iloadN X11.here hx rfl (hb hby at_222) rfl wk) ?_
    show Fin1 p e below s (rm0Q Z i0 i1 i2 i3 i4 i5 h0 n0) room_1.cells room_1.slots (T11.setTop (mkF m 223 #[.val (.int i0), .val (.int i1), .val (.int i2), .val (.int i3), .val (.int i4), .val (.int i5), .val (.ref ba), .val (.int y0), .val (.int y1), .val (.int y2), .val (.int y3), .val (.ref bn), .val (.int (0 : Int32)), .val (.ref br)] [(.int i2), (.int i2)]))
    refine own_st (fun wt wk => XS.icmpNo X11.here hx rfl (hb hby at_223) rfl (teq (rfl : i2 = i2)).2 wk) ?_
    show Fin1 p e below s (rm0Q Z i0 i1 i2 i3 i4 i5 h0 n0) room_1.cells room_1.slots (T11.setTop (mkF m 226 #[.val (.int i0), .val (.int i1), .val (.int i2), .val (.int i3), .val (.int i4), .val (.int i5), .val (.ref ba), .val (.int y0), .val (.int y1), .val (.int y2), .val (.int y3), .val (.ref bn), .val (.int (0 : Int32)), .val (.ref br)] []))
    refine own_st (fun wt wk => XS.aload X11.here hx rfl (hb hby at_226) rfl rfl wk) ?_
    show Fin1 p e below s (rm0Q Z i0 i1 i2 i3 i4 i5 h0 n0) room_1.cells room_1.slots (T11.setTop (mkF m 228 #[.val (.int i0), .val (.int i1), .val (.int i2), .val (.int i3), .val (.int i4), .val (.int i5), .val (.ref ba), .val (.int y0), .val (.int y1), .val (.int y2), .val (.int y3), .val (.ref bn), .val (.int (0 : Int32)), .val (.ref br)] [(.ref ba)]))
    refine own_st (fun wt wk => XS.iconst X11.here hx rfl (hb hby at_228) wk) ?_
    show Fin1 p e below s (rm0Q Z i0 i1 i2 i3 i4 i5 h0 n0) room_1.cells room_1.slots (T11.setTop (mkF m 229 #[.val (.int i0), .val (.int i1), .val (.int i2), .val (.int i3), .val (.int i4), .val (.int i5), .val (.ref ba), .val (.int y0), .val (.int y1), .val (.int y2), .val (.int y3), .val (.ref bn), .val (.int (0 : Int32)), .val (.ref br)] [(.int (3 : Int32)), (.ref ba)]))
    refine own_st (own_ld (j := (3 : Int32)) (v := (.int i3)) X11 hx hZ e11 V_ba ⟨by decide, by decide⟩ rfl (g := (mkF m 229 #[.val (.int i0), .val (.int i1), .val (.int i2), .val (.int i3), .val (.int i4), .val (.int i5), .val (.ref ba), .val (.int y0), .val (.int y1), .val (.int y2), .val (.int y3), .val (.ref bn), .val (.int (0 : Int32)), .val (.ref br)] [(.int (3 : Int32)), (.ref ba)])) rfl rfl (Or.inl ⟨rfl, rfl⟩) (hb hby at_229)) ?_
    show Fin1 p e below s (rm0Q Z i0 i1 i2 i3 i4 i5 h0 n0) room_1.cells room_1.slots (T11.setTop (mkF m 230 #[.val (.int i0), .val (.int i1), .val (.int i2), .val (.int i3), .val (.int i4), .val (.int i5), .val (.ref ba), .val (.int y0), .val (.int y1), .val (.int y2), .val (.int y3), .val (.ref bn), .val (.int (0 : Int32)), .val (.ref br)] [(.int i3)]))
    refine own_st (fun wt wk => XS.iloadN X11.here hx rfl (hb hby at_230) rfl wk) ?_
    show Fin1 p e below s (rm0Q Z i0 i1 i2 i3 i4 i5 h0 n0) room_1.cells room_1.slots (T11.setTop (mkF m 231 #[.val (.int i0), .val (.int i1), .val (.int i2), .val (.int i3), .val (.int i4), .val (.int i5), .val (.ref ba), .val (.int y0), .val (.int y1), .val (.int y2), .val (.int y3), .val (.ref bn), .val (.int (0 : Int32)), .val (.ref br)] [(.int i3), (.int i3)]))
    refine own_st (fun wt wk => XS.icmpNo X11.here hx rfl (hb hby at_231) rfl (teq (rfl : i3 = i3)).2 wk) ?_
    show Fin1 p e below s (rm0Q Z i0 i1 i2 i3 i4 i5 h0 n0) room_1.cells room_1.slots (T11.setTop (mkF m 234 #[.val (.int i0), .val (.int i1), .val (.int i2), .val (.int i3), .val (.int i4), .val (.int i5), .val (.ref ba), .val (.int y0), .val (.int y1), .val (.int y2), .val (.int y3), .val (.ref bn), .val (.int (0 : Int32)), .val (.ref br)] []))
    refine own_st (fun wt wk => XS.aload X11.here hx rfl (hb hby at_234) rfl rfl wk) ?_
    show Fin1 p e below s (rm0Q Z i0 i1 i2 i3 i4 i5 h0 n0) room_1.cells room_1.slots (T11.setTop (mkF m 236 #[.val (.int i0), .val (.int i1), .val (.int i2), .val (.int i3), .val (.int i4), .val (.int i5), .val (.ref ba), .val (.int y0), .val (.int y1), .val (.int y2), .val (.int y3), .val (.ref bn), .val (.int (0 : Int32)), .val (.ref br)] [(.ref bn)]))
    refine own_st (fun wt wk => XS.iconst X11.here hx rfl (hb hby at_236) wk) ?_
    show Fin1 p e below s (rm0Q Z i0 i1 i2 i3 i4 i5 h0 n0) room_1.cells room_1.slots (T11.setTop (mkF m 237 #[.val (.int i0), .val (.int i1), .val (.int i2), .val (.int i3), .val (.int i4), .val (.int i5), .val (.ref ba), .val (.int y0), .val (.int y1), .val (.int y2), .val (.int y3), .val (.ref bn), .val (.int (0 : Int32)), .val (.ref br)] [(.int (0 : Int32)), (.ref bn)]))
    refine own_st (own_ld (j := (0 : Int32)) (v := (.int y0)) X11 hx hZ e11 V_bn ⟨by decide, by decide⟩ rfl (g := (mkF m 237 #[.val (.int i0), .val (.int i1), .val (.int i2), .val (.int i3), .val (.int i4), .val (.int i5), .val (.ref ba), .val (.int y0), .val (.int y1), .val (.int y2), .val (.int y3), .val (.ref bn), .val (.int (0 : Int32)), .val (.ref br)] [(.int (0 : Int32)), (.ref bn)])) rfl rfl (Or.inl ⟨rfl, rfl⟩) (hb hby at_237)) ?_
    show Fin1 p e below s (rm0Q Z i0 i1 i2 i3 i4 i5 h0 n0) room_1.cells room_1.slots (T11.setTop (mkF m 238 #[.val (.int i0), .val (.int i1), .val (.int i2), .val (.int i3), .val (.int i4), .val (.int i5), .val (.ref ba), .val (.int y0), .val (.int y1), .val (.int y2), .val (.int y3), .val (.ref bn), .val (.int (0 : Int32)), .val (.ref br)] [(.int y0)]))
    refine own_st (fun wt wk => XS.iload X11.here hx rfl (hb hby at_238) rfl wk) ?_
    show Fin1 p e below s (rm0Q Z i0 i1 i2 i3 i4 i5 h0 n0) room_1.cells room_1.slots (T11.setTop (mkF m 240 #[.val (.int i0), .val (.int i1), .val (.int i2), .val (.int i3), .val (.int i4), .val (.int i5), .val (.ref ba), .val (.int y0), .val (.int y1), .val (.int y2), .val (.int y3), .val (.ref bn), .val (.int (0 : Int32)), .val (.ref br)] [(.int y0), (.int y0)]))
    refine own_st (fun wt wk => XS.icmpNo X11.here hx rfl (hb hby at_240) rfl (teq (rfl : y0 = y0)).2 wk) ?_
    show Fin1 p e below s (rm0Q Z i0 i1 i2 i3 i4 i5 h0 n0) room_1.cells room_1.slots (T11.setTop (mkF m 243 #[.val (.int i0), .val (.int i1), .val (.int i2), .val (.int i3), .val (.int i4), .val (.int i5), .val (.ref ba), .val (.int y0), .val (.int y1), .val (.int y2), .val (.int y3), .val (.ref bn), .val (.int (0 : Int32)), .val (.ref br)] []))
    refine own_st (fun wt wk => XS.aload X11.here hx rfl (hb hby at_243) rfl rfl wk) ?_
    show Fin1 p e below s (rm0Q Z i0 i1 i2 i3 i4 i5 h0 n0) room_1.cells room_1.slots (T11.setTop (mkF m 245 #[.val (.int i0), .val (.int i1), .val (.int i2), .val (.int i3), .val (.int i4), .val (.int i5), .val (.ref ba), .val (.int y0), .val (.int y1), .val (.int y2), .val (.int y3), .val (.ref bn), .val (.int (0 : Int32)), .val (.ref br)] [(.ref bn)]))
    refine own_st (fun wt wk => XS.iconst X11.here hx rfl (hb hby at_245) wk) ?_
    show Fin1 p e below s (rm0Q Z i0 i1 i2 i3 i4 i5 h0 n0) room_1.cells room_1.slots (T11.setTop (mkF m 246 #[.val (.int i0), .val (.int i1), .val (.int i2), .val (.int i3), .val (.int i4), .val (.int i5), .val (.ref ba), .val (.int y0), .val (.int y1), .val (.int y2), .val (.int y3), .val (.ref bn), .val (.int (0 : Int32)), .val (.ref br)] [(.int (1 : Int32)), (.ref bn)]))
    refine own_st (own_ld (j := (1 : Int32)) (v := (.int y1)) X11 hx hZ e11 V_bn ⟨by decide, by decide⟩ rfl (g := (mkF m 246 #[.val (.int i0), .val (.int i1), .val (.int i2), .val (.int i3), .val (.int i4), .val (.int i5), .val (.ref ba), .val (.int y0), .val (.int y1), .val (.int y2), .val (.int y3), .val (.ref bn), .val (.int (0 : Int32)), .val (.ref br)] [(.int (1 : Int32)), (.ref bn)])) rfl rfl (Or.inl ⟨rfl, rfl⟩) (hb hby at_246)) ?_
    show Fin1 p e below s (rm0Q Z i0 i1 i2 i3 i4 i5 h0 n0) room_1.cells room_1.slots (T11.setTop (mkF m 247 #[.val (.int i0), .val (.int i1), .val (.int i2), .val (.int i3), .val (.int i4), .val (.int i5), .val (.ref ba), .val (.int y0), .val (.int y1), .val (.int y2), .val (.int y3), .val (.ref bn), .val (.int (0 : Int32)), .val (.ref br)] [(.int y1)]))
    refine own_st (fun wt wk => XS.iload X11.here hx rfl (hb hby at_247) rfl wk) ?_
    show Fin1 p e below s (rm0Q Z i0 i1 i2 i3 i4 i5 h0 n0) room_1.cells room_1.slots (T11.setTop (mkF m 249 #[.val (.int i0), .val (.int i1), .val (.int i2), .val (.int i3), .val (.int i4), .val (.int i5), .val (.ref ba), .val (.int y0), .val (.int y1), .val (.int y2), .val (.int y3), .val (.ref bn), .val (.int (0 : Int32)), .val (.ref br)] [(.int y1), (.int y1)]))
    refine own_st (fun wt wk => XS.icmpNo X11.here hx rfl (hb hby at_249) rfl (teq (rfl : y1 = y1)).2 wk) ?_
    show Fin1 p e below s (rm0Q Z i0 i1 i2 i3 i4 i5 h0 n0) room_1.cells room_1.slots (T11.setTop (mkF m 252 #[.val (.int i0), .val (.int i1), .val (.int i2), .val (.int i3), .val (.int i4), .val (.int i5), .val (.ref ba), .val (.int y0), .val (.int y1), .val (.int y2), .val (.int y3), .val (.ref bn), .val (.int (0 : Int32)), .val (.ref br)] []))
    refine own_st (fun wt wk => XS.aload X11.here hx rfl (hb hby at_252) rfl rfl wk) ?_
    show Fin1 p e below s (rm0Q Z i0 i1 i2 i3 i4 i5 h0 n0) room_1.cells room_1.slots (T11.setTop (mkF m 254 #[.val (.int i0), .val (.int i1), .val (.int i2), .val (.int i3), .val (.int i4), .val (.int i5), .val (.ref ba), .val (.int y0), .val (.int y1), .val (.int y2), .val (.int y3), .val (.ref bn), .val (.int (0 : Int32)), .val (.ref br)] [(.ref bn)]))
    refine own_st (fun wt wk => XS.iconst X11.here hx rfl (hb hby at_254) wk) ?_
    show Fin1 p e below s (rm0Q Z i0 i1 i2 i3 i4 i5 h0 n0) room_1.cells room_1.slots (T11.setTop (mkF m 255 #[.val (.int i0), .val (.int i1), .val (.int i2), .val (.int i3), .val (.int i4), .val (.int i5), .val (.ref ba), .val (.int y0), .val (.int y1), .val (.int y2), .val (.int y3), .val (.ref bn), .val (.int (0 : Int32)), .val (.ref br)] [(.int (2 : Int32)), (.ref bn)]))
    refine own_st (own_ld (j := (2 : Int32)) (v := (.int y2)) X11 hx hZ e11 V_bn ⟨by decide, by decide⟩ rfl (g := (mkF m 255 #[.val (.int i0), .val (.int i1), .val (.int i2), .val (.int i3), .val (.int i4), .val (.int i5), .val (.ref ba), .val (.int y0), .val (.int y1), .val (.int y2), .val (.int y3), .val (.ref bn), .val (.int (0 : Int32)), .val (.ref br)] [(.int (2 : Int32)), (.ref bn)])) rfl rfl (Or.inl ⟨rfl, rfl⟩) (hb hby at_255)) ?_
    show Fin1 p e below s (rm0Q Z i0 i1 i2 i3 i4 i5 h0 n0) room_1.cells room_1.slots (T11.setTop (mkF m 256 #[.val (.int i0), .val (.int i1), .val (.int i2), .val (.int i3), .val (.int i4), .val (.int i5), .val (.ref ba), .val (.int y0), .val (.int y1), .val (.int y2), .val (.int y3), .val (.ref bn), .val (.int (0 : Int32)), .val (.ref br)] [(.int y2)]))
    refine own_st (fun wt wk => XS.iload X11.here hx rfl (hb hby at_256) rfl wk) ?_
    show Fin1 p e below s (rm0Q Z i0 i1 i2 i3 i4 i5 h0 n0) room_1.cells room_1.slots (T11.setTop (mkF m 258 #[.val (.int i0), .val (.int i1), .val (.int i2), .val (.int i3), .val (.int i4), .val (.int i5), .val (.ref ba), .val (.int y0), .val (.int y1), .val (.int y2), .val (.int y3), .val (.ref bn), .val (.int (0 : Int32)), .val (.ref br)] [(.int y2), (.int y2)]))
    refine own_st (fun wt wk => XS.icmpNo X11.here hx rfl (hb hby at_258) rfl (teq (rfl : y2 = y2)).2 wk) ?_
    show Fin1 p e below s (rm0Q Z i0 i1 i2 i3 i4 i5 h0 n0) room_1.cells room_1.slots (T11.setTop (mkF m 261 #[.val (.int i0), .val (.int i1), .val (.int i2), .val (.int i3), .val (.int i4), .val (.int i5), .val (.ref ba), .val (.int y0), .val (.int y1), .val (.int y2), .val (.int y3), .val (.ref bn), .val (.int (0 : Int32)), .val (.ref br)] []))
    refine own_st (fun wt wk => XS.aload X11.here hx rfl (hb hby at_261) rfl rfl wk) ?_
    show Fin1 p e below s (rm0Q Z i0 i1 i2 i3 i4 i5 h0 n0) room_1.cells room_1.slots (T11.setTop (mkF m 263 #[.val (.int i0), .val (.int i1), .val (.int i2), .val (.int i3), .val (.int i4), .val (.int i5), .val (.ref ba), .val (.int y0), .val (.int y1), .val (.int y2), .val (.int y3), .val (.ref bn), .val (.int (0 : Int32)), .val (.ref br)] [(.ref bn)]))
    refine own_st (fun wt wk => XS.iconst X11.here hx rfl (hb hby at_263) wk) ?_
    show Fin1 p e below s (rm0Q Z i0 i1 i2 i3 i4 i5 h0 n0) room_1.cells room_1.slots (T11.setTop (mkF m 264 #[.val (.int i0), .val (.int i1), .val (.int i2), .val (.int i3), .val (.int i4), .val (.int i5), .val (.ref ba), .val (.int y0), .val (.int y1), .val (.int y2), .val (.int y3), .val (.ref bn), .val (.int (0 : Int32)), .val (.ref br)] [(.int (3 : Int32)), (.ref bn)]))
    refine own_st (own_ld (j := (3 : Int32)) (v := (.int y3)) X11 hx hZ e11 V_bn ⟨by decide, by decide⟩ rfl (g := (mkF m 264 #[.val (.int i0), .val (.int i1), .val (.int i2), .val (.int i3), .val (.int i4), .val (.int i5), .val (.ref ba), .val (.int y0), .val (.int y1), .val (.int y2), .val (.int y3), .val (.ref bn), .val (.int (0 : Int32)), .val (.ref br)] [(.int (3 : Int32)), (.ref bn)])) rfl rfl (Or.inl ⟨rfl, rfl⟩) (hb hby at_264)) ?_
    show Fin1 p e below s (rm0Q Z i0 i1 i2 i3 i4 i5 h0 n0) room_1.cells room_1.slots (T11.setTop (mkF m 265 #[.val (.int i0), .val (.int i1), .val (.int i2), .val (.int i3), .val (.int i4), .val (.int i5), .val (.ref ba), .val (.int y0), .val (.int y1), .val (.int y2), .val (.int y3), .val (.ref bn), .val (.int (0 : Int32)), .val (.ref br)] [(.int y3)]))
    refine own_st (fun wt wk => XS.iload X11.here hx rfl (hb hby at_265) rfl wk) ?_
    show Fin1 p e below s (rm0Q Z i0 i1 i2 i3 i4 i5 h0 n0) room_1.cells room_1.slots (T11.setTop (mkF m 267 #[.val (.int i0), .val (.int i1), .val (.int i2), .val (.int i3), .val (.int i4), .val (.int i5), .val (.ref ba), .val (.int y0), .val (.int y1), .val (.int y2), .val (.int y3), .val (.ref bn), .val (.int (0 : Int32)), .val (.ref br)] [(.int y3), (.int y3)]))
    refine own_st (fun wt wk => XS.icmpNo X11.here hx rfl (hb hby at_267) rfl (teq (rfl : y3 = y3)).2 wk) ?_
    show Fin1 p e below s (rm0Q Z i0 i1 i2 i3 i4 i5 h0 n0) room_1.cells room_1.slots (T11.setTop (mkF m 270 #[.val (.int i0), .val (.int i1), .val (.int i2), .val (.int i3), .val (.int i4), .val (.int i5), .val (.ref ba), .val (.int y0), .val (.int y1), .val (.int y2), .val (.int y3), .val (.ref bn), .val (.int (0 : Int32)), .val (.ref br)] []))
    refine own_st (fun wt wk => XS.iconst X11.here hx rfl (hb hby at_270) wk) ?_
    show Fin1 p e below s (rm0Q Z i0 i1 i2 i3 i4 i5 h0 n0) room_1.cells room_1.slots (T11.setTop (mkF m 271 #[.val (.int i0), .val (.int i1), .val (.int i2), .val (.int i3), .val (.int i4), .val (.int i5), .val (.ref ba), .val (.int y0), .val (.int y1), .val (.int y2), .val (.int y3), .val (.ref bn), .val (.int (0 : Int32)), .val (.ref br)] [(.int (1 : Int32))]))
    refine own_st (fun wt wk => XS.goto X11.here hx rfl (pc0 := 271) (pc' := 275) rfl (hb hby at_271) (by decide) (by decide) wk) ?_
    show Fin1 p e below s (rm0Q Z i0 i1 i2 i3 i4 i5 h0 n0) room_1.cells room_1.slots (T11.setTop (mkF m 275 #[.val (.int i0), .val (.int i1), .val (.int i2), .val (.int i3), .val (.int i4), .val (.int i5), .val (.ref ba), .val (.int y0), .val (.int y1), .val (.int y2), .val (.int y3), .val (.ref bn), .val (.int (0 : Int32)), .val (.ref br)] [(.int (1 : Int32))]))
    exact own_retZ X11 hx hlk hret (hb hby at_275) (z := (1 : Int32)) (by decide) (by rw [e11]; exact ⟨rfl, N11⟩) (by decide) (by decide)
  · show Fin1 p e below s (rm0Q Z i0 i1 i2 i3 i4 i5 h0 n0) room_1.cells room_1.slots (T10.setTop (mkF m 84 #[.val (.int i0), .val (.int i1), .val (.int i2), .val (.int i3), .val (.int i4), .val (.int i5), .val (.ref ba), .val (.int y0), .val (.int y1), .val (.int y2), .val (.int y3), .val (.ref bn), .unset, .unset] [(.int (1 : Int32))]))
    refine own_st (fun wt wk => XS.istore X10.here hx rfl (hb hby at_84) rfl (l' := #[.val (.int i0), .val (.int i1), .val (.int i2), .val (.int i3), .val (.int i4), .val (.int i5), .val (.ref ba), .val (.int y0), .val (.int y1), .val (.int y2), .val (.int y3), .val (.ref bn), .val (.int (1 : Int32)), .unset]) rfl wk) ?_
    show Fin1 p e below s (rm0Q Z i0 i1 i2 i3 i4 i5 h0 n0) room_1.cells room_1.slots (T10.setTop (mkF m 86 #[.val (.int i0), .val (.int i1), .val (.int i2), .val (.int i3), .val (.int i4), .val (.int i5), .val (.ref ba), .val (.int y0), .val (.int y1), .val (.int y2), .val (.int y3), .val (.ref bn), .val (.int (1 : Int32)), .unset] []))
    refine own_st (fun wt wk => XS.aload X10.here hx rfl (hb hby at_86) rfl rfl wk) ?_
    show Fin1 p e below s (rm0Q Z i0 i1 i2 i3 i4 i5 h0 n0) room_1.cells room_1.slots (T10.setTop (mkF m 88 #[.val (.int i0), .val (.int i1), .val (.int i2), .val (.int i3), .val (.int i4), .val (.int i5), .val (.ref ba), .val (.int y0), .val (.int y1), .val (.int y2), .val (.int y3), .val (.ref bn), .val (.int (1 : Int32)), .unset] [(.ref ba)]))
    refine own_st (fun wt wk => XS.aload X10.here hx rfl (hb hby at_88) rfl rfl wk) ?_
    show Fin1 p e below s (rm0Q Z i0 i1 i2 i3 i4 i5 h0 n0) room_1.cells room_1.slots (T10.setTop (mkF m 90 #[.val (.int i0), .val (.int i1), .val (.int i2), .val (.int i3), .val (.int i4), .val (.int i5), .val (.ref ba), .val (.int y0), .val (.int y1), .val (.int y2), .val (.int y3), .val (.ref bn), .val (.int (1 : Int32)), .unset] [(.ref bn), (.ref ba)]))
    refine own_st (fun wt wk => XS.iload X10.here hx rfl (hb hby at_90) rfl wk) ?_
    show Fin1 p e below s (rm0Q Z i0 i1 i2 i3 i4 i5 h0 n0) room_1.cells room_1.slots (T10.setTop (mkF m 92 #[.val (.int i0), .val (.int i1), .val (.int i2), .val (.int i3), .val (.int i4), .val (.int i5), .val (.ref ba), .val (.int y0), .val (.int y1), .val (.int y2), .val (.int y3), .val (.ref bn), .val (.int (1 : Int32)), .unset] [(.int (1 : Int32)), (.ref bn), (.ref ba)]))
    obtain ⟨v12, T12, h12, L12, X12, e12, hQ12, st12⟩ := own_static X10 hx hZ hown (hw _ (List.mem_of_getElem? (i := 2) rfl)) (hw _ (List.mem_of_getElem? (i := 3) rfl)) (hw _ (List.mem_of_getElem? (i := 4) rfl)) (hw _ (List.mem_of_getElem? (i := 5) rfl)) (by decide) (rmS1 l Z a0 hw ba bn kc1 kc6 i0 i1 i2 i3 y0 y1 y2 y3 h10 n0 Z0 V_ba V_bn r0 r1 r2 r3) e10 (g := (mkF m 92 #[.val (.int i0), .val (.int i1), .val (.int i2), .val (.int i3), .val (.int i4), .val (.int i5), .val (.ref ba), .val (.int y0), .val (.int y1), .val (.int y2), .val (.int y3), .val (.ref bn), .val (.int (1 : Int32)), .unset] [(.int (1 : Int32)), (.ref bn), (.ref ba)])) rfl (by rw [hml]; rfl) (argsL := [(.ref ba), (.ref bn), (.int (1 : Int32))]) (rest := []) (lenOf pd_2 rfl) rfl (W := 0) (by show 2 * 0 + _ ≤ _; exact Nat.le_of_eq rfl) (hb hby at_92) (by decide) (by decide) (by decide) (by decide)
    obtain ⟨br, kr, rfl, N12q, hs, K12, V_br⟩ := hQ12
    have N12 := Fr.app N10 N12q
    have ne_ba_br : ba ≠ br := Nat.ne_of_lt (Nat.lt_of_lt_of_le V_ba.lt hs)
    have ne_bn_br : bn ≠ br := Nat.ne_of_lt (Nat.lt_of_lt_of_le V_bn.lt hs)
    have g_br : n0 ≤ br := Nat.le_trans Z0 hs
    have Z0 := Nat.le_trans Z0 K12.1
    have V_ba := V_ba.keep K12 nin0
    have V_bn := V_bn.keep K12 nin0
    refine own_st st12 ?_
    show Fin1 p e below s (rm0Q Z i0 i1 i2 i3 i4 i5 h0 n0) room_1.cells room_1.slots (T12.setTop (mkF m 95 #[.val (.int i0), .val (.int i1), .val (.int i2), .val (.int i3), .val (.int i4), .val (.int i5), .val (.ref ba), .val (.int y0), .val (.int y1), .val (.int y2), .val (.int y3), .val (.ref bn), .val (.int (1 : Int32)), .unset] [(.ref br)]))
    refine own_st (fun wt wk => XS.astore X12.here hx rfl (hb hby at_95) rfl rfl (l' := #[.val (.int i0), .val (.int i1), .val (.int i2), .val (.int i3), .val (.int i4), .val (.int i5), .val (.ref ba), .val (.int y0), .val (.int y1), .val (.int y2), .val (.int y3), .val (.ref bn), .val (.int (1 : Int32)), .val (.ref br)]) rfl wk) ?_
    show Fin1 p e below s (rm0Q Z i0 i1 i2 i3 i4 i5 h0 n0) room_1.cells room_1.slots (T12.setTop (mkF m 97 #[.val (.int i0), .val (.int i1), .val (.int i2), .val (.int i3), .val (.int i4), .val (.int i5), .val (.ref ba), .val (.int y0), .val (.int y1), .val (.int y2), .val (.int y3), .val (.ref bn), .val (.int (1 : Int32)), .val (.ref br)] []))
    refine own_st (fun wt wk => XS.aload X12.here hx rfl (hb hby at_97) rfl rfl wk) ?_
    show Fin1 p e below s (rm0Q Z i0 i1 i2 i3 i4 i5 h0 n0) room_1.cells room_1.slots (T12.setTop (mkF m 99 #[.val (.int i0), .val (.int i1), .val (.int i2), .val (.int i3), .val (.int i4), .val (.int i5), .val (.ref ba), .val (.int y0), .val (.int y1), .val (.int y2), .val (.int y3), .val (.ref bn), .val (.int (1 : Int32)), .val (.ref br)] [(.ref br)]))
    refine own_st (own_len X12 hx hZ e12 V_br (g := (mkF m 99 #[.val (.int i0), .val (.int i1), .val (.int i2), .val (.int i3), .val (.int i4), .val (.int i5), .val (.ref ba), .val (.int y0), .val (.int y1), .val (.int y2), .val (.int y3), .val (.ref bn), .val (.int (1 : Int32)), .val (.ref br)] [(.ref br)])) rfl rfl (hb hby at_99)) ?_
    show Fin1 p e below s (rm0Q Z i0 i1 i2 i3 i4 i5 h0 n0) room_1.cells room_1.slots (T12.setTop (mkF m 100 #[.val (.int i0), .val (.int i1), .val (.int i2), .val (.int i3), .val (.int i4), .val (.int i5), .val (.ref ba), .val (.int y0), .val (.int y1), .val (.int y2), .val (.int y3), .val (.ref bn), .val (.int (1 : Int32)), .val (.ref br)] [(.int (1 : Int32))]))
    refine own_st (fun wt wk => XS.iload X12.here hx rfl (hb hby at_100) rfl wk) ?_
    show Fin1 p e below s (rm0Q Z i0 i1 i2 i3 i4 i5 h0 n0) room_1.cells room_1.slots (T12.setTop (mkF m 102 #[.val (.int i0), .val (.int i1), .val (.int i2), .val (.int i3), .val (.int i4), .val (.int i5), .val (.ref ba), .val (.int y0), .val (.int y1), .val (.int y2), .val (.int y3), .val (.ref bn), .val (.int (1 : Int32)), .val (.ref br)] [(.int (1 : Int32)), (.int (1 : Int32))]))
    refine own_st (fun wt wk => XS.icmpYes X12.here hx rfl (pc0 := 102) (pc' := 107) rfl (hb hby at_102) rfl (teq (by decide)).1 (by decide) (by decide) wk) ?_
    show Fin1 p e below s (rm0Q Z i0 i1 i2 i3 i4 i5 h0 n0) room_1.cells room_1.slots (T12.setTop (mkF m 107 #[.val (.int i0), .val (.int i1), .val (.int i2), .val (.int i3), .val (.int i4), .val (.int i5), .val (.ref ba), .val (.int y0), .val (.int y1), .val (.int y2), .val (.int y3), .val (.ref bn), .val (.int (1 : Int32)), .val (.ref br)] []))
    refine own_st (fun wt wk => XS.iload X12.here hx rfl (hb hby at_107) rfl wk) ?_
    show Fin1 p e below s (rm0Q Z i0 i1 i2 i3 i4 i5 h0 n0) room_1.cells room_1.slots (T12.setTop (mkF m 109 #[.val (.int i0), .val (.int i1), .val (.int i2), .val (.int i3), .val (.int i4), .val (.int i5), .val (.ref ba), .val (.int y0), .val (.int y1), .val (.int y2), .val (.int y3), .val (.ref bn), .val (.int (1 : Int32)), .val (.ref br)] [(.int (1 : Int32))]))
    refine own_st (fun wt wk => XS.ifNo X12.here hx rfl (hb hby at_109) rfl ((if0 _ _).trans (tlt (by decide)).2.2.2) wk) ?_
    show Fin1 p e below s (rm0Q Z i0 i1 i2 i3 i4 i5 h0 n0) room_1.cells room_1.slots (T12.setTop (mkF m 112 #[.val (.int i0), .val (.int i1), .val (.int i2), .val (.int i3), .val (.int i4), .val (.int i5), .val (.ref ba), .val (.int y0), .val (.int y1), .val (.int y2), .val (.int y3), .val (.ref bn), .val (.int (1 : Int32)), .val (.ref br)] []))
    refine own_st (fun wt wk => XS.aload X12.here hx rfl (hb hby at_112) rfl rfl wk) ?_
    show Fin1 p e below s (rm0Q Z i0 i1 i2 i3 i4 i5 h0 n0) room_1.cells room_1.slots (T12.setTop (mkF m 114 #[.val (.int i0), .val (.int i1), .val (.int i2), .val (.int i3), .val (.int i4), .val (.int i5), .val (.ref ba), .val (.int y0), .val (.int y1), .val (.int y2), .val (.int y3), .val (.ref bn), .val (.int (1 : Int32)), .val (.ref br)] [(.ref br)]))
    refine own_st (fun wt wk => XS.iconst X12.here hx rfl (hb hby at_114) wk) ?_
    show Fin1 p e below s (rm0Q Z i0 i1 i2 i3 i4 i5 h0 n0) room_1.cells room_1.slots (T12.setTop (mkF m 115 #[.val (.int i0), .val (.int i1), .val (.int i2), .val (.int i3), .val (.int i4), .val (.int i5), .val (.ref ba), .val (.int y0), .val (.int y1), .val (.int y2), .val (.int y3), .val (.ref bn), .val (.int (1 : Int32)), .val (.ref br)] [(.int (0 : Int32)), (.ref br)]))
    refine own_st (own_ld (j := (0 : Int32)) (v := (.int (own_pick i0 i1 i2 i3 y0))) X12 hx hZ e12 V_br ⟨by decide, by decide⟩ rfl (g := (mkF m 115 #[.val (.int i0), .val (.int i1), .val (.int i2), .val (.int i3), .val (.int i4), .val (.int i5), .val (.ref ba), .val (.int y0), .val (.int y1), .val (.int y2), .val (.int y3), .val (.ref bn), .val (.int (1 : Int32)), .val (.ref br)] [(.int (0 : Int32)), (.ref br)])) rfl rfl (Or.inl ⟨rfl, rfl⟩) (hb hby at_115)) ?_
    show Fin1 p e below s (rm0Q Z i0 i1 i2 i3 i4 i5 h0 n0) room_1.cells room_1.slots (T12.setTop (mkF m 116 #[.val (.int i0), .val (.int i1), .val (.int i2), .val (.int i3), .val (.int i4), .val (.int i5), .val (.ref ba), .val (.int y0), .val (.int y1), .val (.int y2), .val (.int y3), .val (.ref bn), .val (.int (1 : Int32)), .val (.ref br)] [(.int (own_pick i0 i1 i2 i3 y0))]))
    refine own_st (fun wt wk => XS.iloadN X12.here hx rfl (hb hby at_116) rfl wk) ?_
    show Fin1 p e below s (rm0Q Z i0 i1 i2 i3 i4 i5 h0 n0) room_1.cells room_1.slots (T12.setTop (mkF m 117 #[.val (.int i0), .val (.int i1), .val (.int i2), .val (.int i3), .val (.int i4), .val (.int i5), .val (.ref ba), .val (.int y0), .val (.int y1), .val (.int y2), .val (.int y3), .val (.ref bn), .val (.int (1 : Int32)), .val (.ref br)] [(.int i0), (.int (own_pick i0 i1 i2 i3 y0))]))
    refine own_st (fun wt wk => XS.iloadN X12.here hx rfl (hb hby at_117) rfl wk) ?_
    show Fin1 p e below s (rm0Q Z i0 i1 i2 i3 i4 i5 h0 n0) room_1.cells room_1.slots (T12.setTop (mkF m 118 #[.val (.int i0), .val (.int i1), .val (.int i2), .val (.int i3), .val (.int i4), .val (.int i5), .val (.ref ba), .val (.int y0), .val (.int y1), .val (.int y2), .val (.int y3), .val (.ref bn), .val (.int (1 : Int32)), .val (.ref br)] [(.int i1), (.int i0), (.int (own_pick i0 i1 i2 i3 y0))]))
    refine own_st (fun wt wk => XS.iloadN X12.here hx rfl (hb hby at_118) rfl wk) ?_
    show Fin1 p e below s (rm0Q Z i0 i1 i2 i3 i4 i5 h0 n0) room_1.cells room_1.slots (T12.setTop (mkF m 119 #[.val (.int i0), .val (.int i1), .val (.int i2), .val (.int i3), .val (.int i4), .val (.int i5), .val (.ref ba), .val (.int y0), .val (.int y1), .val (.int y2), .val (.int y3), .val (.ref bn), .val (.int (1 : Int32)), .val (.ref br)] [(.int i2), (.int i1), (.int i0), (.int (own_pick i0 i1 i2 i3 y0))]))
    refine own_st (fun wt wk => XS.iloadN X12.here hx rfl (hb hby at_119) rfl wk) ?_
    show Fin1 p e below s (rm0Q Z i0 i1 i2 i3 i4 i5 h0 n0) room_1.cells room_1.slots (T12.setTop (mkF m 120 #[.val (.int i0), .val (.int i1), .val (.int i2), .val (.int i3), .val (.int i4), .val (.int i5), .val (.ref ba), .val (.int y0), .val (.int y1), .val (.int y2), .val (.int y3), .val (.ref bn), .val (.int (1 : Int32)), .val (.ref br)] [(.int i3), (.int i2), (.int i1), (.int i0), (.int (own_pick i0 i1 i2 i3 y0))]))
    refine own_st (fun wt wk => XS.iload X12.here hx rfl (hb hby at_120) rfl wk) ?_
    show Fin1 p e below s (rm0Q Z i0 i1 i2 i3 i4 i5 h0 n0) room_1.cells room_1.slots (T12.setTop (mkF m 122 #[.val (.int i0), .val (.int i1), .val (.int i2), .val (.int i3), .val (.int i4), .val (.int i5), .val (.ref ba), .val (.int y0), .val (.int y1), .val (.int y2), .val (.int y3), .val (.ref bn), .val (.int (1 : Int32)), .val (.ref br)] [(.int y0), (.int i3), (.int i2), (.int i1), (.int i0), (.int (own_pick i0 i1 i2 i3 y0))]))
    obtain ⟨v13, T13, h13, L13, X13, e13, hQ13, st13⟩ := own_static X12 hx hZ hown (hw _ (List.mem_of_getElem? (i := 6) rfl)) (hw _ (List.mem_of_getElem? (i := 7) rfl)) (hw _ (List.mem_of_getElem? (i := 8) rfl)) (hw _ (List.mem_of_getElem? (i := 9) rfl)) (by decide) (rmP l Z a0 hw i0 i1 i2 i3 y0 h12 n0 Z0) e12 (g := (mkF m 122 #[.val (.int i0), .val (.int i1), .val (.int i2), .val (.int i3), .val (.int i4), .val (.int i5), .val (.ref ba), .val (.int y0), .val (.int y1), .val (.int y2), .val (.int y3), .val (.ref bn), .val (.int (1 : Int32)), .val (.ref br)] [(.int y0), (.int i3), (.int i2), (.int i1), (.int i0), (.int (own_pick i0 i1 i2 i3 y0))])) rfl (by rw [hml]; rfl) (argsL := [(.int i0), (.int i1), (.int i2), (.int i3), (.int y0)]) (rest := [(.int (own_pick i0 i1 i2 i3 y0))]) (lenOf pd_3 rfl) rfl (W := 1) (by show 2 * 0 + _ ≤ _; exact Nat.le_of_eq rfl) (hb hby at_122) (by decide) (by decide) (by decide) (by decide)
    obtain ⟨rfl, N13q, hh13⟩ := hQ13
    have N13 := Fr.app N12 N13q
    rw [hh13] at e13
    refine own_st st13 ?_
    show Fin1 p e below s (rm0Q Z i0 i1 i2 i3 i4 i5 h0 n0) room_1.cells room_1.slots (T13.setTop (mkF m 125 #[.val (.int i0), .val (.int i1), .val (.int i2), .val (.int i3), .val (.int i4), .val (.int i5), .val (.ref ba), .val (.int y0), .val (.int y1), .val (.int y2), .val (.int y3), .val (.ref bn), .val (.int (1 : Int32)), .val (.ref br)] [(.int (own_pick i0 i1 i2 i3 y0)), (.int (own_pick i0 i1 i2 i3 y0))]))
    refine own_st (fun wt wk => XS.icmpYes X13.here hx rfl (pc0 := 125) (pc' := 130) rfl (hb hby at_125) rfl (teq (rfl : (own_pick i0 i1 i2 i3 y0) = (own_pick i0 i1 i2 i3 y0))).1 (by decide) (by decide) wk) ?_
    show Fin1 p e below s (rm0Q Z i0 i1 i2 i3 i4 i5 h0 n0) room_1.cells room_1.slots (T13.setTop (mkF m 130 #[.val (.int i0), .val (.int i1), .val (.int i2), .val (.int i3), .val (.int i4), .val (.int i5), .val (.ref ba), .val (.int y0), .val (.int y1), .val (.int y2), .val (.int y3), .val (.ref bn), .val (.int (1 : Int32)), .val (.ref br)] []))
    refine own_st (fun wt wk => XS.iload X13.here hx rfl (hb hby at_130) rfl wk) ?_
    show Fin1 p e below s (rm0Q Z i0 i1 i2 i3 i4 i5 h0 n0) room_1.cells room_1.slots (T13.setTop (mkF m 132 #[.val (.int i0), .val (.int i1), .val (.int i2), .val (.int i3), .val (.int i4), .val (.int i5), .val (.ref ba), .val (.int y0), .val (.int y1), .val (.int y2), .val (.int y3), .val (.ref bn), .val (.int (1 : Int32)), .val (.ref br)] [(.int (1 : Int32))]))
    refine own_st (fun wt wk => XS.iconst X13.here hx rfl (hb hby at_132) wk) ?_
    show Fin1 p e below s (rm0Q Z i0 i1 i2 i3 i4 i5 h0 n0) room_1.cells room_1.slots (T13.setTop (mkF m 133 #[.val (.int i0), .val (.int i1), .val (.int i2), .val (.int i3), .val (.int i4), .val (.int i5), .val (.ref ba), .val (.int y0), .val (.int y1), .val (.int y2), .val (.int y3), .val (.ref bn), .val (.int (1 : Int32)), .val (.ref br)] [(.int (1 : Int32)), (.int (1 : Int32))]))
    refine own_st (fun wt wk => XS.icmpYes X13.here hx rfl (pc0 := 133) (pc' := 154) rfl (hb hby at_133) rfl (flt (by decide)).2.2.2 (by decide) (by decide) wk) ?_
    show Fin1 p e below s (rm0Q Z i0 i1 i2 i3 i4 i5 h0 n0) room_1.cells room_1.slots (T13.setTop (mkF m 154 #[.val (.int i0), .val (.int i1), .val (.int i2), .val (.int i3), .val (.int i4), .val (.int i5), .val (.ref ba), .val (.int y0), .val (.int y1), .val (.int y2), .val (.int y3), .val (.ref bn), .val (.int (1 : Int32)), .val (.ref br)] []))
    refine own_st (fun wt wk => XS.iload X13.here hx rfl (hb hby at_154) rfl wk) ?_
    show Fin1 p e below s (rm0Q Z i0 i1 i2 i3 i4 i5 h0 n0) room_1.cells room_1.slots (T13.setTop (mkF m 156 #[.val (.int i0), .val (.int i1), .val (.int i2), .val (.int i3), .val (.int i4), .val (.int i5), .val (.ref ba), .val (.int y0), .val (.int y1), .val (.int y2), .val (.int y3), .val (.ref bn), .val (.int (1 : Int32)), .val (.ref br)] [(.int (1 : Int32))]))
    refine own_st (fun wt wk => XS.iconst X13.here hx rfl (hb hby at_156) wk) ?_
    show Fin1 p e below s (rm0Q Z i0 i1 i2 i3 i4 i5 h0 n0) room_1.cells room_1.slots (T13.setTop (mkF m 157 #[.val (.int i0), .val (.int i1), .val (.int i2), .val (.int i3), .val (.int i4), .val (.int i5), .val (.ref ba), .val (.int y0), .val (.int y1), .val (.int y2), .val (.int y3), .val (.ref bn), .val (.int (1 : Int32)), .val (.ref br)] [(.int (2 : Int32)), (.int (1 : Int32))]))
    refine own_st (fun wt wk => XS.icmpYes X13.here hx rfl (pc0 := 157) (pc' := 178) rfl (hb hby at_157) rfl (flt (by decide)).2.2.2 (by decide) (by decide) wk) ?_
    show Fin1 p e below s (rm0Q Z i0 i1 i2 i3 i4 i5 h0 n0) room_1.cells room_1.slots (T13.setTop (mkF m 178 #[.val (.int i0), .val (.int i1), .val (.int i2), .val (.int i3), .val (.int i4), .val (.int i5), .val (.ref ba), .val (.int y0), .val (.int y1), .val (.int y2), .val (.int y3), .val (.ref bn), .val (.int (1 : Int32)), .val (.ref br)] []))
    refine own_st (fun wt wk => XS.iload X13.here hx rfl (hb hby at_178) rfl wk) ?_
    show Fin1 p e below s (rm0Q Z i0 i1 i2 i3 i4 i5 h0 n0) room_1.cells room_1.slots (T13.setTop (mkF m 180 #[.val (.int i0), .val (.int i1), .val (.int i2), .val (.int i3), .val (.int i4), .val (.int i5), .val (.ref ba), .val (.int y0), .val (.int y1), .val (.int y2), .val (.int y3), .val (.ref bn), .val (.int (1 : Int32)), .val (.ref br)] [(.int (1 : Int32))]))
    refine own_st (fun wt wk => XS.iconst X13.here hx rfl (hb hby at_180) wk) ?_
    show Fin1 p e below s (rm0Q Z i0 i1 i2 i3 i4 i5 h0 n0) room_1.cells room_1.slots (T13.setTop (mkF m 181 #[.val (.int i0), .val (.int i1), .val (.int i2), .val (.int i3), .val (.int i4), .val (.int i5), .val (.ref ba), .val (.int y0), .val (.int y1), .val (.int y2), .val (.int y3), .val (.ref bn), .val (.int (1 : Int32)), .val (.ref br)] [(.int (3 : Int32)), (.int (1 : Int32))]))
    refine own_st (fun wt wk => XS.icmpYes X13.here hx rfl (pc0 := 181) (pc' := 202) rfl (hb hby at_181) rfl (flt (by decide)).2.2.2 (by decide) (by decide) wk) ?_
    show Fin1 p e below s (rm0Q Z i0 i1 i2 i3 i4 i5 h0 n0) room_1.cells room_1.slots (T13.setTop (mkF m 202 #[.val (.int i0), .val (.int i1), .val (.int i2), .val (.int i3), .val (.int i4), .val (.int i5), .val (.ref ba), .val (.int y0), .val (.int y1), .val (.int y2), .val (.int y3), .val (.ref bn), .val (.int (1 : Int32)), .val (.ref br)] []))
    refine own_st (fun wt wk => XS.aload X13.here hx rfl (hb hby at_202) rfl rfl wk) ?_
    show Fin1 p e below s (rm0Q Z i0 i1 i2 i3 i4 i5 h0 n0) room_1.cells room_1.slots (T13.setTop (mkF m 204 #[.val (.int i0), .val (.int i1), .val (.int i2), .val (.int i3), .val (.int i4), .val (.int i5), .val (.ref ba), .val (.int y0), .val (.int y1), .val (.int y2), .val (.int y3), .val (.ref bn), .val (.int (1 : Int32)), .val (.ref br)] [(.ref ba)]))
    refine own_st (fun wt wk => XS.iconst X13.here hx rfl (hb hby at_204) wk) ?_
    show Fin1 p e below s (rm0Q Z i0 i1 i2 i3 i4 i5 h0 n0) room_1.cells room_1.slots (T13.setTop (mkF m 205 #[.val (.int i0), .val (.int i1), .val (.int i2), .val (.int i3), .val (.int i4), .val (.int i5), .val (.ref ba), .val (.int y0), .val (.int y1), .val (.int y2), .val (.int y3), .val (.ref bn), .val (.int (1 : Int32)), .val (.ref br)] [(.int (0 : Int32)), (.ref ba)]))
    refine own_st (own_ld (j := (0 : Int32)) (v := (.int i0)) X13 hx hZ e13 V_ba ⟨by decide, by decide⟩ rfl (g := (mkF m 205 #[.val (.int i0), .val (.int i1), .val (.int i2), .val (.int i3), .val (.int i4), .val (.int i5), .val (.ref ba), .val (.int y0), .val (.int y1), .val (.int y2), .val (.int y3), .val (.ref bn), .val (.int (1 : Int32)), .val (.ref br)] [(.int (0 : Int32)), (.ref ba)])) rfl rfl (Or.inl ⟨rfl, rfl⟩) (hb hby at_205)) ?_
    show Fin1 p e below s (rm0Q Z i0 i1 i2 i3 i4 i5 h0 n0) room_1.cells room_1.slots (T13.setTop (mkF m 206 #[.val (.int i0), .val (.int i1), .val (.int i2), .val (.int i3), .val (.int i4), .val (.int i5), .val (.ref ba), .val (.int y0), .val (.int y1), .val (.int y2), .val (.int y3), .val (.ref bn), .val (.int (1 : Int32)), .val (.ref br)] [(.int i0)]))
    refine own_st (fun wt wk => XS.iloadN X13.here hx rfl (hb hby at_206) rfl wk) ?_
    show Fin1 p e below s (rm0Q Z i0 i1 i2 i3 i4 i5 h0 n0) room_1.cells room_1.slots (T13.setTop (mkF m 207 #[.val (.int i0), .val (.int i1), .val (.int i2), .val (.int i3), .val (.int i4), .val (.int i5), .val (.ref ba), .val (.int y0), .val (.int y1), .val (.int y2), .val (.int y3), .val (.ref bn), .val (.int (1 : Int32)), .val (.ref br)] [(.int i0), (.int i0)]))
    refine own_st (fun wt wk => XS.icmpNo X13.here hx rfl (hb hby at_207) rfl (teq (rfl : i0 = i0)).2 wk) ?_
    show Fin1 p e below s (rm0Q Z i0 i1 i2 i3 i4 i5 h0 n0) room_1.cells room_1.slots (T13.setTop (mkF m 210 #[.val (.int i0), .val (.int i1), .val (.int i2), .val (.int i3), .val (.int i4), .val (.int i5), .val (.ref ba), .val (.int y0), .val (.int y1), .val (.int y2), .val (.int y3), .val (.ref bn), .val (.int (1 : Int32)), .val (.ref br)] []))
    refine own_st (fun wt wk => XS.aload X13.here hx rfl (hb hby at_210) rfl rfl wk) ?_
    show Fin1 p e below s (rm0Q Z i0 i1 i2 i3 i4 i5 h0 n0) room_1.cells room_1.slots (T13.setTop (mkF m 212 #[.val (.int i0), .val (.int i1), .val (.int i2), .val (.int i3), .val (.int i4), .val (.int i5), .val (.ref ba), .val (.int y0), .val (.int y1), .val (.int y2), .val (.int y3), .val (.ref bn), .val (.int (1 : Int32)), .val (.ref br)] [(.ref ba)]))
    refine own_st (fun wt wk => XS.iconst X13.here hx rfl (hb hby at_212) wk) ?_
    show Fin1 p e below s (rm0Q Z i0 i1 i2 i3 i4 i5 h0 n0) room_1.cells room_1.slots (T13.setTop (mkF m 213 #[.val (.int i0), .val (.int i1), .val (.int i2), .val (.int i3), .val (.int i4), .val (.int i5), .val (.ref ba), .val (.int y0), .val (.int y1), .val (.int y2), .val (.int y3), .val (.ref bn), .val (.int (1 : Int32)), .val (.ref br)] [(.int (1 : Int32)), (.ref ba)]))
    refine own_st (own_ld (j := (1 : Int32)) (v := (.int i1)) X13 hx hZ e13 V_ba ⟨by decide, by decide⟩ rfl (g := (mkF m 213 #[.val (.int i0), .val (.int i1), .val (.int i2), .val (.int i3), .val (.int i4), .val (.int i5), .val (.ref ba), .val (.int y0), .val (.int y1), .val (.int y2), .val (.int y3), .val (.ref bn), .val (.int (1 : Int32)), .val (.ref br)] [(.int (1 : Int32)), (.ref ba)])) rfl rfl (Or.inl ⟨rfl, rfl⟩) (hb hby at_213)) ?_
    show Fin1 p e below s (rm0Q Z i0 i1 i2 i3 i4 i5 h0 n0) room_1.cells room_1.slots (T13.setTop (mkF m 214 #[.val (.int i0), .val (.int i1), .val (.int i2), .val (.int i3), .val (.int i4), .val (.int i5), .val (.ref ba), .val (.int y0), .val (.int y1), .val (.int y2), .val (.int y3), .val (.ref bn), .val (.int (1 : Int32)), .val (.ref br)] [(.int i1)]))
    refine own_st (fun wt wk => XS.iloadN X13.here hx rfl (hb hby at_214) rfl wk) ?_
    show Fin1 p e below s (rm0Q Z i0 i1 i2 i3 i4 i5 h0 n0) room_1.cells room_1.slots (T13.setTop (mkF m 215 #[.val (.int i0), .val (.int i1), .val (.int i2), .val (.int i3), .val (.int i4), .val (.int i5), .val (.ref ba), .val (.int y0), .val (.int y1), .val (.int y2), .val (.int y3), .val (.ref bn), .val (.int (1 : Int32)), .val (.ref br)] [(.int i1), (.int i1)]))
    refine own_st (fun wt wk => XS.icmpNo X13.here hx rfl (hb hby at_215) rfl (teq (rfl : i1 = i1)).2 wk) ?_
    show Fin1 p e below s (rm0Q Z i0 i1 i2 i3 i4 i5 h0 n0) room_1.cells room_1.slots (T13.setTop (mkF m 218 #[.val (.int i0), .val (.int i1), .val (.int i2), .val (.int i3), .val (.int i4), .val (.int i5), .val (.ref ba), .val (.int y0), .val (.int y1), .val (.int y2), .val (.int y3), .val (.ref bn), .val (.int (1 : Int32)), .val (.ref br)] []))
    refine own_st (fun wt wk => XS.aload X13.here hx rfl (hb hby at_218) rfl rfl wk) ?_
    show Fin1 p e below s (rm0Q Z i0 i1 i2 i3 i4 i5 h0 n0) room_1.cells room_1.slots (T13.setTop (mkF m 220 #[.val (.int i0), .val (.int i1), .val (.int i2), .val (.int i3), .val (.int i4), .val (.int i5), .val (.ref ba), .val (.int y0), .val (.int y1), .val (.int y2), .val (.int y3), .val (.ref bn), .val (.int (1 : Int32)), .val (.ref br)] [(.ref ba)]))
    refine own_st (fun wt wk => XS.iconst X13.here hx rfl (hb hby at_220) wk) ?_
    show Fin1 p e below s (rm0Q Z i0 i1 i2 i3 i4 i5 h0 n0) room_1.cells room_1.slots (T13.setTop (mkF m 221 #[.val (.int i0), .val (.int i1), .val (.int i2), .val (.int i3), .val (.int i4), .val (.int i5), .val (.ref ba), .val (.int y0), .val (.int y1), .val (.int y2), .val (.int y3), .val (.ref bn), .val (.int (1 : Int32)), .val (.ref br)] [(.int (2 : Int32)), (.ref ba)]))
    refine own_st (own_ld (j := (2 : Int32)) (v := (.int i2)) X13 hx hZ e13 V_ba ⟨by decide, by decide⟩ rfl (g := (mkF m 221 #[.val (.int i0), .val (.int i1), .val (.int i2), .val (.int i3), .val (.int i4), .val (.int i5), .val (.ref ba), .val (.int y0), .val (.int y1), .val (.int y2), .val (.int y3), .val (.ref bn), .val (.int (1 : Int32)), .val (.ref br)] [(.int (2 : Int32)), (.ref ba)])) rfl rfl (Or.inl ⟨rfl, rfl⟩) (hb hby at_221)) ?_
    show Fin1 p e below s (rm0Q Z i0 i1 i2 i3 i4 i5 h0 n0) room_1.cells room_1.slots (T13.setTop (mkF m 222 #[.val (.int i0), .val (.int i1), .val (.int i2), .val (.int i3), .val (.int i4), .val (.int i5), .val (.ref ba), .val (.int y0), .val (.int y1), .val (.int y2), .val (.int y3), .val (.ref bn), .val (.int (1 : Int32)), .val (.ref br)] [(.int i2)]))
    refine own_st (fun wt wk => XS.iloadN X13.here hx rfl (hb hby at_222) rfl wk) ?_
    show Fin1 p e below s (rm0Q Z i0 i1 i2 i3 i4 i5 h0 n0) room_1.cells room_1.slots (T13.setTop (mkF m 223 #[.val (.int i0), .val (.int i1), .val (.int i2), .val (.int i3), .val (.int i4), .val (.int i5), .val (.ref ba), .val (.int y0), .val (.int y1), .val (.int y2), .val (.int y3), .val (.ref bn), .val (.int (1 : Int32)), .val (.ref br)] [(.int i2), (.int i2)]))
    refine own_st (fun wt wk => XS.icmpNo X13.here hx rfl (hb hby at_223) rfl (teq (rfl : i2 = i2)).2 wk) ?_
    show Fin1 p e below s (rm0Q Z i0 i1 i2 i3 i4 i5 h0 n0) room_1.cells room_1.slots (T13.setTop (mkF m 226 #[.val (.int i0), .val (.int i1), .val (.int i2), .val (.int i3), .val (.int i4), .val (.int i5), .val (.ref ba), .val (.int y0), .val (.int y1), .val (.int y2), .val (.int y3), .val (.ref bn), .val (.int (1 : Int32)), .val (.ref br)] []))
    refine own_st (fun wt wk => XS.aload X13.here hx rfl (hb hby at_226) rfl rfl wk) ?_
    show Fin1 p e below s (rm0Q Z i0 i1 i2 i3 i4 i5 h0 n0) room_1.cells room_1.slots (T13.setTop (mkF m 228 #[.val (.int i0), .val (.int i1), .val (.int i2), .val (.int i3), .val (.int i4), .val (.int i5), .val (.ref ba), .val (.int y0), .val (.int y1), .val (.int y2), .val (.int y3), .val (.ref bn), .val (.int (1 : Int32)), .val (.ref br)] [(.ref ba)]))
    refine own_st (fun wt wk => XS.iconst X13.here hx rfl (hb hby at_228) wk) ?_
    show Fin1 p e below s (rm0Q Z i0 i1 i2 i3 i4 i5 h0 n0) room_1.cells room_1.slots (T13.setTop (mkF m 229 #[.val (.int i0), .val (.int i1), .val (.int i2), .val (.int i3), .val (.int i4), .val (.int i5), .val (.ref ba), .val (.int y0), .val (.int y1), .val (.int y2), .val (.int y3), .val (.ref bn), .val (.int (1 : Int32)), .val (.ref br)] [(.int (3 : Int32)), (.ref ba)]))
    refine own_st (own_ld (j := (3 : Int32)) (v := (.int i3)) X13 hx hZ e13 V_ba ⟨by decide, by decide⟩ rfl (g := (mkF m 229 #[.val (.int i0), .val (.int i1), .val (.int i2), .val (.int i3), .val (.int i4), .val (.int i5), .val (.ref ba), .val (.int y0), .val (.int y1), .val (.int y2), .val (.int y3), .val (.ref bn), .val (.int (1 : Int32)), .val (.ref br)] [(.int (3 : Int32)), (.ref ba)])) rfl rfl (Or.inl ⟨rfl, rfl⟩) (hb hby at_229)) ?_
    show Fin1 p e below s (rm0Q Z i0 i1 i2 i3 i4 i5 h0 n0) room_1.cells room_1.slots (T13.setTop (mkF m 230 #[.val (.int i0), .val (.int i1), .val (.int i2), .val (.int i3), .val (.int i4), .val (.int i5), .val (.ref ba), .val (.int y0), .val (.int y1), .val (.int y2), .val (.int y3), .val (.ref bn), .val (.int (1 : Int32)), .val (.ref br)] [(.int i3)]))
    refine own_st (fun wt wk => XS.iloadN X13.here hx rfl (hb hby at_230) rfl wk) ?_
    show Fin1 p e below s (rm0Q Z i0 i1 i2 i3 i4 i5 h0 n0) room_1.cells room_1.slots (T13.setTop (mkF m 231 #[.val (.int i0), .val (.int i1), .val (.int i2), .val (.int i3), .val (.int i4), .val (.int i5), .val (.ref ba), .val (.int y0), .val (.int y1), .val (.int y2), .val (.int y3), .val (.ref bn), .val (.int (1 : Int32)), .val (.ref br)] [(.int i3), (.int i3)]))
    refine own_st (fun wt wk => XS.icmpNo X13.here hx rfl (hb hby at_231) rfl (teq (rfl : i3 = i3)).2 wk) ?_
    show Fin1 p e below s (rm0Q Z i0 i1 i2 i3 i4 i5 h0 n0) room_1.cells room_1.slots (T13.setTop (mkF m 234 #[.val (.int i0), .val (.int i1), .val (.int i2), .val (.int i3), .val (.int i4), .val (.int i5), .val (.ref ba), .val (.int y0), .val (.int y1), .val (.int y2), .val (.int y3), .val (.ref bn), .val (.int (1 : Int32)), .val (.ref br)] []))
    refine own_st (fun wt wk => XS.aload X13.here hx rfl (hb hby at_234) rfl rfl wk) ?_
    show Fin1 p e below s (rm0Q Z i0 i1 i2 i3 i4 i5 h0 n0) room_1.cells room_1.slots (T13.setTop (mkF m 236 #[.val (.int i0), .val (.int i1), .val (.int i2), .val (.int i3), .val (.int i4), .val (.int i5), .val (.ref ba), .val (.int y0), .val (.int y1), .val (.int y2), .val (.int y3), .val (.ref bn), .val (.int (1 : Int32)), .val (.ref br)] [(.ref bn)]))
    refine own_st (fun wt wk => XS.iconst X13.here hx rfl (hb hby at_236) wk) ?_
    show Fin1 p e below s (rm0Q Z i0 i1 i2 i3 i4 i5 h0 n0) room_1.cells room_1.slots (T13.setTop (mkF m 237 #[.val (.int i0), .val (.int i1), .val (.int i2), .val (.int i3), .val (.int i4), .val (.int i5), .val (.ref ba), .val (.int y0), .val (.int y1), .val (.int y2), .val (.int y3), .val (.ref bn), .val (.int (1 : Int32)), .val (.ref br)] [(.int (0 : Int32)), (.ref bn)]))
    refine own_st (own_ld (j := (0 : Int32)) (v := (.int y0)) X13 hx hZ e13 V_bn ⟨by decide, by decide⟩ rfl (g := (mkF m 237 #[.val (.int i0), .val (.int i1), .val (.int i2), .val (.int i3), .val (.int i4), .val (.int i5), .val (.ref ba), .val (.int y0), .val (.int y1), .val (.int y2), .val (.int y3), .val (.ref bn), .val (.int (1 : Int32)), .val (.ref br)] [(.int (0 : Int32)), (.ref bn)])) rfl rfl (Or.inl ⟨rfl, rfl⟩) (hb hby at_237)) ?_
    show Fin1 p e below s (rm0Q Z i0 i1 i2 i3 i4 i5 h0 n0) room_1.cells room_1.slots (T13.setTop (mkF m 238 #[.val (.int i0), .val (.int i1), .val (.int i2), .val (.int i3), .val (.int i4), .val (.int i5), .val (.ref ba), .val (.int y0), .val (.int y1), .val (.int y2), .val (.int y3), .val (.ref bn), .val (.int (1 : Int32)), .val (.ref br)] [(.int y0)]))
    refine own_st (fun wt wk => XS.iload X13.here hx rfl (hb hby at_238) rfl wk) ?_
    show Fin1 p e below s (rm0Q Z i0 i1 i2 i3 i4 i5 h0 n0) room_1.cells room_1.slots (T13.setTop (mkF m 240 #[.val (.int i0), .val (.int i1), .val (.int i2), .val (.int i3), .val (.int i4), .val (.int i5), .val (.ref ba), .val (.int y0), .val (.int y1), .val (.int y2), .val (.int y3), .val (.ref bn), .val (.int (1 : Int32)), .val (.ref br)] [(.int y0), (.int y0)]))
    refine own_st (fun wt wk => XS.icmpNo X13.here hx rfl (hb hby at_240) rfl (teq (rfl : y0 = y0)).2 wk) ?_
    show Fin1 p e below s (rm0Q Z i0 i1 i2 i3 i4 i5 h0 n0) room_1.cells room_1.slots (T13.setTop (mkF m 243 #[.val (.int i0), .val (.int i1), .val (.int i2), .val (.int i3), .val (.int i4), .val (.int i5), .val (.ref ba), .val (.int y0), .val (.int y1), .val (.int y2), .val (.int y3), .val (.ref bn), .val (.int (1 : Int32)), .val (.ref br)] []))
    refine own_st (fun wt wk => XS.aload X13.here hx rfl (hb hby at_243) rfl rfl wk) ?_
    show Fin1 p e below s (rm0Q Z i0 i1 i2 i3 i4 i5 h0 n0) room_1.cells room_1.slots (T13.setTop (mkF m 245 #[.val (.int i0), .val (.int i1), .val (.int i2), .val (.int i3), .val (.int i4), .val (.int i5), .val (.ref ba), .val (.int y0), .val (.int y1), .val (.int y2), .val (.int y3), .val (.ref bn), .val (.int (1 : Int32)), .val (.ref br)] [(.ref bn)]))
    refine own_st (fun wt wk => XS.iconst X13.here hx rfl (hb hby at_245) wk) ?_
    show Fin1 p e below s (rm0Q Z i0 i1 i2 i3 i4 i5 h0 n0) room_1.cells room_1.slots (T13.setTop (mkF m 246 #[.val (.int i0), .val (.int i1), .val (.int i2), .val (.int i3), .val (.int i4), .val (.int i5), .val (.ref ba), .val (.int y0), .val (.int y1), .val (.int y2), .val (.int y3), .val (.ref bn), .val (.int (1 : Int32)), .val (.ref br)] [(.int (1 : Int32)), (.ref bn)]))
    refine own_st (own_ld (j := (1 : Int32)) (v := (.int y1)) X13 hx hZ e13 V_bn ⟨by decide, by decide⟩ rfl (g := (mkF m 246 #[.val (.int i0), .val (.int i1), .val (.int i2), .val (.int i3), .val (.int i4), .val (.int i5), .val (.ref ba), .val (.int y0), .val (.int y1), .val (.int y2), .val (.int y3), .val (.ref bn), .val (.int (1 : Int32)), .val (.ref br)] [(.int (1 : Int32)), (.ref bn)])) rfl rfl (Or.inl ⟨rfl, rfl⟩) (hb hby at_246)) ?_
    show Fin1 p e below s (rm0Q Z i0 i1 i2 i3 i4 i5 h0 n0) room_1.cells room_1.slots (T13.setTop (mkF m 247 #[.val (.int i0), .val (.int i1), .val (.int i2), .val (.int i3), .val (.int i4), .val (.int i5), .val (.ref ba), .val (.int y0), .val (.int y1), .val (.int y2), .val (.int y3), .val (.ref bn), .val (.int (1 : Int32)), .val (.ref br)] [(.int y1)]))
    refine own_st (fun wt wk => XS.iload X13.here hx rfl (hb hby at_247) rfl wk) ?_
    show Fin1 p e below s (rm0Q Z i0 i1 i2 i3 i4 i5 h0 n0) room_1.cells room_1.slots (T13.setTop (mkF m 249 #[.val (.int i0), .val (.int i1), .val (.int i2), .val (.int i3), .val (.int i4), .val (.int i5), .val (.ref ba), .val (.int y0), .val (.int y1), .val (.int y2), .val (.int y3), .val (.ref bn), .val (.int (1 : Int32)), .val (.ref br)] [(.int y1), (.int y1)]))
    refine own_st (fun wt wk => XS.icmpNo X13.here hx rfl (hb hby at_249) rfl (teq (rfl : y1 = y1)).2 wk) ?_
    show Fin1 p e below s (rm0Q Z i0 i1 i2 i3 i4 i5 h0 n0) room_1.cells room_1.slots (T13.setTop (mkF m 252 #[.val (.int i0), .val (.int i1), .val (.int i2), .val (.int i3), .val (.int i4), .val (.int i5), .val (.ref ba), .val (.int y0), .val (.int y1), .val (.int y2), .val (.int y3), .val (.ref bn), .val (.int (1 : Int32)), .val (.ref br)] []))
    refine own_st (fun wt wk => XS.aload X13.here hx rfl (hb hby at_252) rfl rfl wk) ?_
    show Fin1 p e below s (rm0Q Z i0 i1 i2 i3 i4 i5 h0 n0) room_1.cells room_1.slots (T13.setTop (mkF m 254 #[.val (.int i0), .val (.int i1), .val (.int i2), .val (.int i3), .val (.int i4), .val (.int i5), .val (.ref ba), .val (.int y0), .val (.int y1), .val (.int y2), .val (.int y3), .val (.ref bn), .val (.int (1 : Int32)), .val (.ref br)] [(.ref bn)]))
    refine own_st (fun wt wk => XS.iconst X13.here hx rfl (hb hby at_254) wk) ?_
    show Fin1 p e below s (rm0Q Z i0 i1 i2 i3 i4 i5 h0 n0) room_1.cells room_1.slots (T13.setTop (mkF m 255 #[.val (.int i0), .val (.int i1), .val (.int i2), .val (.int i3), .val (.int i4), .val (.int i5), .val (.ref ba), .val (.int y0), .val (.int y1), .val (.int y2), .val (.int y3), .val (.ref bn), .val (.int (1 : Int32)), .val (.ref br)] [(.int (2 : Int32)), (.ref bn)]))
    refine own_st (own_ld (j := (2 : Int32)) (v := (.int y2)) X13 hx hZ e13 V_bn ⟨by decide, by decide⟩ rfl (g := (mkF m 255 #[.val (.int i0), .val (.int i1), .val (.int i2), .val (.int i3), .val (.int i4), .val (.int i5), .val (.ref ba), .val (.int y0), .val (.int y1), .val (.int y2), .val (.int y3), .val (.ref bn), .val (.int (1 : Int32)), .val (.ref br)] [(.int (2 : Int32)), (.ref bn)])) rfl rfl (Or.inl ⟨rfl, rfl⟩) (hb hby at_255)) ?_
    show Fin1 p e below s (rm0Q Z i0 i1 i2 i3 i4 i5 h0 n0) room_1.cells room_1.slots (T13.setTop (mkF m 256 #[.val (.int i0), .val (.int i1), .val (.int i2), .val (.int i3), .val (.int i4), .val (.int i5), .val (.ref ba), .val (.int y0), .val (.int y1), .val (.int y2), .val (.int y3), .val (.ref bn), .val (.int (1 : Int32)), .val (.ref br)] [(.int y2)]))
    refine own_st (fun wt wk => XS.iload X13.here hx rfl (hb hby at_256) rfl wk) ?_
    show Fin1 p e below s (rm0Q Z i0 i1 i2 i3 i4 i5 h0 n0) room_1.cells room_1.slots (T13.setTop (mkF m 258 #[.val (.int i0), .val (.int i1), .val (.int i2), .val (.int i3), .val (.int i4), .val (.int i5), .val (.ref ba), .val (.int y0), .val (.int y1), .val (.int y2), .val (.int y3), .val (.ref bn), .val (.int (1 : Int32)), .val (.ref br)] [(.int y2), (.int y2)]))
    refine own_st (fun wt wk => XS.icmpNo X13.here hx rfl (hb hby at_258) rfl (teq (rfl : y2 = y2)).2 wk) ?_
    show Fin1 p e below s (rm0Q Z i0 i1 i2 i3 i4 i5 h0 n0) room_1.cells room_1.slots (T13.setTop (mkF m 261 #[.val (.int i0), .val (.int i1), .val (.int i2), .val (.int i3), .val (.int i4), .val (.int i5), .val (.ref ba), .val (.int y0), .val (.int y1), .val (.int y2), .val (.int y3), .val (.ref bn), .val (.int (1 : Int32)), .val (.ref br)] []))
    refine own_st (fun wt wk => XS.aload X13.here hx rfl (hb hby at_261) rfl rfl wk) ?_
    show Fin1 p e below s (rm0Q Z i0 i1 i2 i3 i4 i5 h0 n0) room_1.cells room_1.slots (T13.setTop (mkF m 263 #[.val (.int i0), .val (.int i1), .val (.int i2), .val (.int i3), .val (.int i4), .val (.int i5), .val (.ref ba), .val (.int y0), .val (.int y1), .val (.int y2), .val (.int y3), .val (.ref bn), .val (.int (1 : Int32)), .val (.ref br)] [(.ref bn)]))
    refine own_st (fun wt wk => XS.iconst X13.here hx rfl (hb hby at_263) wk) ?_
    show Fin1 p e below s (rm0Q Z i0 i1 i2 i3 i4 i5 h0 n0) room_1.cells room_1.slots (T13.setTop (mkF m 264 #[.val (.int i0), .val (.int i1), .val (.int i2), .val (.int i3), .val (.int i4), .val (.int i5), .val (.ref ba), .val (.int y0), .val (.int y1), .val (.int y2), .val (.int y3), .val (.ref bn), .val (.int (1 : Int32)), .val (.ref br)] [(.int (3 : Int32)), (.ref bn)]))
    refine own_st (own_ld (j := (3 : Int32)) (v := (.int y3)) X13 hx hZ e13 V_bn ⟨by decide, by decide⟩ rfl (g := (mkF m 264 #[.val (.int i0), .val (.int i1), .val (.int i2), .val (.int i3), .val (.int i4), .val (.int i5), .val (.ref ba), .val (.int y0), .val (.int y1), .val (.int y2), .val (.int y3), .val (.ref bn), .val (.int (1 : Int32)), .val (.ref br)] [(.int (3 : Int32)), (.ref bn)])) rfl rfl (Or.inl ⟨rfl, rfl⟩) (hb hby at_264)) ?_
    show Fin1 p e below s (rm0Q Z i0 i1 i2 i3 i4 i5 h0 n0) room_1.cells room_1.slots (T13.setTop (mkF m 265 #[.val (.int i0), .val (.int i1), .val (.int i2), .val (.int i3), .val (.int i4), .val (.int i5), .val (.ref ba), .val (.int y0), .val (.int y1), .val (.int y2), .val (.int y3), .val (.ref bn), .val (.int (1 : Int32)), .val (.ref br)] [(.int y3)]))
    refine own_st (fun wt wk => XS.iload X13.here hx rfl (hb hby at_265) rfl wk) ?_
    show Fin1 p e below s (rm0Q Z i0 i1 i2 i3 i4 i5 h0 n0) room_1.cells room_1.slots (T13.setTop (mkF m 267 #[.val (.int i0), .val (.int i1), .val (.int i2), .val (.int i3), .val (.int i4), .val (.int i5), .val (.ref ba), .val (.int y0), .val (.int y1), .val (.int y2), .val (.int y3), .val (.ref bn), .val (.int (1 : Int32)), .val (.ref br)] [(.int y3), (.int y3)]))
    refine own_st (fun wt wk => XS.icmpNo X13.here hx rfl (hb hby at_267) rfl (teq (rfl : y3 = y3)).2 wk) ?_
    show Fin1 p e below s (rm0Q Z i0 i1 i2 i3 i4 i5 h0 n0) room_1.cells room_1.slots (T13.setTop (mkF m 270 #[.val (.int i0), .val (.int i1), .val (.int i2), .val (.int i3), .val (.int i4), .val (.int i5), .val (.ref ba), .val (.int y0), .val (.int y1), .val (.int y2), .val (.int y3), .val (.ref bn), .val (.int (1 : Int32)), .val (.ref br)] []))
    refine own_st (fun wt wk => XS.iconst X13.here hx rfl (hb hby at_270) wk) ?_
    show Fin1 p e below s (rm0Q Z i0 i1 i2 i3 i4 i5 h0 n0) room_1.cells room_1.slots (T13.setTop (mkF m 271 #[.val (.int i0), .val (.int i1), .val (.int i2), .val (.int i3), .val (.int i4), .val (.int i5), .val (.ref ba), .val (.int y0), .val (.int y1), .val (.int y2), .val (.int y3), .val (.ref bn), .val (.int (1 : Int32)), .val (.ref br)] [(.int (1 : Int32))]))
    refine own_st (fun wt wk => XS.goto X13.here hx rfl (pc0 := 271) (pc' := 275) rfl (hb hby at_271) (by decide) (by decide) wk) ?_
    show Fin1 p e below s (rm0Q Z i0 i1 i2 i3 i4 i5 h0 n0) room_1.cells room_1.slots (T13.setTop (mkF m 275 #[.val (.int i0), .val (.int i1), .val (.int i2), .val (.int i3), .val (.int i4), .val (.int i5), .val (.ref ba), .val (.int y0), .val (.int y1), .val (.int y2), .val (.int y3), .val (.ref bn), .val (.int (1 : Int32)), .val (.ref br)] [(.int (1 : Int32))]))
    exact own_retZ X13 hx hlk hret (hb hby at_275) (z := (1 : Int32)) (by decide) (by rw [e13]; exact ⟨rfl, N13⟩) (by decide) (by decide)
  · show Fin1 p e below s (rm0Q Z i0 i1 i2 i3 i4 i5 h0 n0) room_1.cells room_1.slots (T10.setTop (mkF m 84 #[.val (.int i0), .val (.int i1), .val (.int i2), .val (.int i3), .val (.int i4), .val (.int i5), .val (.ref ba), .val (.int y0), .val (.int y1), .val (.int y2), .val (.int y3), .val (.ref bn), .unset, .unset] [(.int (2 : Int32))]))
    refine own_st (fun wt wk => XS.istore X10.here hx rfl (hb hby at_84) rfl (l' := #[.val (.int i0), .val (.int i1), .val (.int i2), .val (.int i3), .val (.int i4), .val (.int i5), .val (.ref ba), .val (.int y0), .val (.int y1), .val (.int y2), .val (.int y3), .val (.ref bn), .val (.int (2 : Int32)), .unset]) rfl wk) ?_
    show Fin1 p e below s (rm0Q Z i0 i1 i2 i3 i4 i5 h0 n0) room_1.cells room_1.slots (T10.setTop (mkF m 86 #[.val (.int i0), .val (.int i1), .val (.int i2), .val (.int i3), .val (.int i4), .val (.int i5), .val (.ref ba), .val (.int y0), .val (.int y1), .val (.int y2), .val (.int y3), .val (.ref bn), .val (.int (2 : Int32)), .unset] []))
    refine own_st (fun wt wk => XS.aload X10.here hx rfl (hb hby at_86) rfl rfl wk) ?_
    show Fin1 p e below s (rm0Q Z i0 i1 i2 i3 i4 i5 h0 n0) room_1.cells room_1.slots (T10.setTop (mkF m 88 #[.val (.int i0), .val (.int i1), .val (.int i2), .val (.int i3), .val (.int i4), .val (.int i5), .val (.ref ba), .val (.int y0), .val (.int y1), .val (.int y2), .val (.int y3), .val (.ref bn), .val (.int (2 : Int32)), .unset] [(.ref ba)]))
    refine own_st (fun wt wk => XS.aload X10.here hx rfl (hb hby at_88) rfl rfl wk) ?_
    show Fin1 p e below s (rm0Q Z i0 i1 i2 i3 i4 i5 h0 n0) room_1.cells room_1.slots (T10.setTop (mkF m 90 #[.val (.int i0), .val (.int i1), .val (.int i2), .val (.int i3), .val (.int i4), .val (.int i5), .val (.ref ba), .val (.int y0), .val (.int y1), .val (.int y2), .val (.int y3), .val (.ref bn), .val (.int (2 : Int32)), .unset] [(.ref bn), (.ref ba)]))
    refine own_st (fun wt wk => XS.iload X10.here hx rfl (hb hby at_90) rfl wk) ?_
    show Fin1 p e below s (rm0Q Z i0 i1 i2 i3 i4 i5 h0 n0) room_1.cells room_1.slots (T10.setTop (mkF m 92 #[.val (.int i0), .val (.int i1), .val (.int i2), .val (.int i3), .val (.int i4), .val (.int i5), .val (.ref ba), .val (.int y0), .val (.int y1), .val (.int y2), .val (.int y3), .val (.ref bn), .val (.int (2 : Int32)), .unset] [(.int (2 : Int32)), (.ref bn), (.ref ba)]))
    obtain ⟨v14, T14, h14, L14, X14, e14, hQ14, st14⟩ := own_static X10 hx hZ hown (hw _ (List.mem_of_getElem? (i := 2) rfl)) (hw _ (List.mem_of_getElem? (i := 3) rfl)) (hw _ (List.mem_of_getElem? (i := 4) rfl)) (hw _ (List.mem_of_getElem? (i := 5) rfl)) (by decide) (rmS2 l Z a0 hw ba bn kc1 kc6 i0 i1 i2 i3 y0 y1 y2 y3 h10 n0 Z0 V_ba V_bn r0 r1 r2 r3) e10 (g := (mkF m 92 #[.val (.int i0), .val (.int i1), .val (.int i2), .val (.int i3), .val (.int i4), .val (.int i5), .val (.ref ba), .val (.int y0), .val (.int y1), .val (.int y2), .val (.int y3), .val (.ref bn), .val (.int (2 : Int32)), .unset] [(.int (2 : Int32)), (.ref bn), (.ref ba)])) rfl (by rw [hml]; rfl) (argsL := [(.ref ba), (.ref bn), (.int (2 : Int32))]) (rest := []) (lenOf pd_2 rfl) rfl (W := 0) (by show 2 * 0 + _ ≤ _; exact Nat.le_of_eq rfl) (hb hby at_92) (by decide) (by decide) (by decide) (by decide)
    obtain ⟨br, kr, rfl, N14q, hs, K14, V_br⟩ := hQ14
    have N14 := Fr.app N10 N14q
    have ne_ba_br : ba ≠ br := Nat.ne_of_lt (Nat.lt_of_lt_of_le V_ba.lt hs)
    have ne_bn_br : bn ≠ br := Nat.ne_of_lt (Nat.lt_of_lt_of_le V_bn.lt hs)
    have g_br : n0 ≤ br := Nat.le_trans Z0 hs
    have Z0 := Nat.le_trans Z0 K14.1
    have V_ba := V_ba.keep K14 nin0
    have V_bn := V_bn.keep K14 nin0
    refine own_st st14 ?_
    show Fin1 p e below s (rm0Q Z i0 i1 i2 i3 i4 i5 h0 n0) room_1.cells room_1.slots (T14.setTop (mkF m 95 #[.val (.int i0), .val (.int i1), .val (.int i2), .val (.int i3), .val (.int i4), .val (.int i5), .val (.ref ba), .val (.int y0), .val (.int y1), .val (.int y2), .val (.int y3), .val (.ref bn), .val (.int (2 : Int32)), .unset] [(.ref br)]))
    refine own_st (fun wt wk => XS.astore X14.here hx rfl (hb hby at_95) rfl rfl (l' := #[.val (.int i0), .val (.int i1), .val (.int i2), .val (.int i3), .val (.int i4), .val (.int i5), .val (.ref ba), .val (.int y0), .val (.int y1), .val (.int y2), .val (.int y3), .val (.ref bn), .val (.int (2 : Int32)), .val (.ref br)]) rfl wk) ?_
    show Fin1 p e below s (rm0Q Z i0 i1 i2 i3 i4 i5 h0 n0) room_1.cells room_1.slots (T14.setTop (mkF m 97 #[.val (.int i0), .val (.int i1), .val (.int i2), .val (.int i3), .val (.int i4), .val (.int i5), .val (.ref ba), .val (.int y0), .val (.int y1), .val (.int y2), .val (.int y3), .val (.ref bn), .val (.int (2 : Int32)), .val (.ref br)] []))
    refine own_st (fun wt wk => XS.aload X14.here hx rfl (hb hby at_97) rfl rfl wk) ?_
    show Fin1 p e below s (rm0Q Z i0 i1 i2 i3 i4 i5 h0 n0) room_1.cells room_1.slots (T14.setTop (mkF m 99 #[.val (.int i0), .val (.int i1), .val (.int i2), .val (.int i3), .val (.int i4), .val (.int i5), .val (.ref ba), .val (.int y0), .val (.int y1), .val (.int y2), .val (.int y3), .val (.ref bn), .val (.int (2 : Int32)), .val (.ref br)] [(.ref br)]))
    refine own_st (own_len X14 hx hZ e14 V_br (g := (mkF m 99 #[.val (.int i0), .val (.int i1), .val (.int i2), .val (.int i3), .val (.int i4), .val (.int i5), .val (.ref ba), .val (.int y0), .val (.int y1), .val (.int y2), .val (.int y3), .val (.ref bn), .val (.int (2 : Int32)), .val (.ref br)] [(.ref br)])) rfl rfl (hb hby at_99)) ?_
    show Fin1 p e below s (rm0Q Z i0 i1 i2 i3 i4 i5 h0 n0) room_1.cells room_1.slots (T14.setTop (mkF m 100 #[.val (.int i0), .val (.int i1), .val (.int i2), .val (.int i3), .val (.int i4), .val (.int i5), .val (.ref ba), .val (.int y0), .val (.int y1), .val (.int y2), .val (.int y3), .val (.ref bn), .val (.int (2 : Int32)), .val (.ref br)] [(.int (2 : Int32))]))
    refine own_st (fun wt wk => XS.iload X14.here hx rfl (hb hby at_100) rfl wk) ?_
    show Fin1 p e below s (rm0Q Z i0 i1 i2 i3 i4 i5 h0 n0) room_1.cells room_1.slots (T14.setTop (mkF m 102 #[.val (.int i0), .val (.int i1), .val (.int i2), .val (.int i3), .val (.int i4), .val (.int i5), .val (.ref ba), .val (.int y0), .val (.int y1), .val (.int y2), .val (.int y3), .val (.ref bn), .val (.int (2 : Int32)), .val (.ref br)] [(.int (2 : Int32)), (.int (2 : Int32))]))
    refine own_st (fun wt wk => XS.icmpYes X14.here hx rfl (pc0 := 102) (pc' := 107) rfl (hb hby at_102) rfl (teq (by decide)).1 (by decide) (by decide) wk) ?_
    show Fin1 p e below s (rm0Q Z i0 i1 i2 i3 i4 i5 h0 n0) room_1.cells room_1.slots (T14.setTop (mkF m 107 #[.val (.int i0), .val (.int i1), .val (.int i2), .val (.int i3), .val (.int i4), .val (.int i5), .val (.ref ba), .val (.int y0), .val (.int y1), .val (.int y2), .val (.int y3), .val (.ref bn), .val (.int (2 : Int32)), .val (.ref br)] []))
    refine own_st (fun wt wk => XS.iload X14.here hx rfl (hb hby at_107) rfl wk) ?_
    show Fin1 p e below s (rm0Q Z i0 i1 i2 i3 i4 i5 h0 n0) room_1.cells room_1.slots (T14.setTop (mkF m 109 #[.val (.int i0), .val (.int i1), .val (.int i2), .val (.int i3), .val (.int i4), .val (.int i5), .val (.ref ba), .val (.int y0), .val (.int y1), .val (.int y2), .val (.int y3), .val (.ref bn), .val (.int (2 : Int32)), .val (.ref br)] [(.int (2 : Int32))]))
    refine own_st (fun wt wk => XS.ifNo X14.here hx rfl (hb hby at_109) rfl ((if0 _ _).trans (tlt (by decide)).2.2.2) wk) ?_
    show Fin1 p e below s (rm0Q Z i0 i1 i2 i3 i4 i5 h0 n0) room_1.cells room_1.slots (T14.setTop (mkF m 112 #[.val (.int i0), .val (.int i1), .val (.int i2), .val (.int i3), .val (.int i4), .val (.int i5), .val (.ref ba), .val (.int y0), .val (.int y1), .val (.int y2), .val (.int y3), .val (.ref bn), .val (.int (2 : Int32)), .val (.ref br)] []))
    refine own_st (fun wt wk => XS.aload X14.here hx rfl (hb hby at_112) rfl rfl wk) ?_
    show Fin1 p e below s (rm0Q Z i0 i1 i2 i3 i4 i5 h0 n0) room_1.cells room_1.slots (T14.setTop (mkF m 114 #[.val (.int i0), .val (.int i1), .val (.int i2), .val (.int i3), .val (.int i4), .val (.int i5), .val (.ref ba), .val (.int y0), .val (.int y1), .val (.int y2), .val (.int y3), .val (.ref bn), .val (.int (2 : Int32)), .val (.ref br)] [(.ref br)]))
    refine own_st (fun wt wk => XS.iconst X14.here hx rfl (hb hby at_114) wk) ?_
    show Fin1 p e below s (rm0Q Z i0 i1 i2 i3 i4 i5 h0 n0) room_1.cells room_1.slots (T14.setTop (mkF m 115 #[.val (.int i0), .val (.int i1), .val (.int i2), .val (.int i3), .val (.int i4), .val (.int i5), .val (.ref ba), .val (.int y0), .val (.int y1), .val (.int y2), .val (.int y3), .val (.ref bn), .val (.int (2 : Int32)), .val (.ref br)] [(.int (0 : Int32)), (.ref br)]))
    refine own_st (own_ld (j := (0 : Int32)) (v := (.int (own_pick i0 i1 i2 i3 y0))) X14 hx hZ e14 V_br ⟨by decide, by decide⟩ rfl (g := (mkF m 115 #[.val (.int i0), .val (.int i1), .val (.int i2), .val (.int i3), .val (.int i4), .val (.int i5), .val (.ref ba), .val (.int y0), .val (.int y1), .val (.int y2), .val (.int y3), .val (.ref bn), .val (.int (2 : Int32)), .val (.ref br)] [(.int (0 : Int32)), (.ref br)])) rfl rfl (Or.inl ⟨rfl, rfl⟩) (hb hby at_115)) ?_
    show Fin1 p e below s (rm0Q Z i0 i1 i2 i3 i4 i5 h0 n0) room_1.cells room_1.slots (T14.setTop (mkF m 116 #[.val (.int i0), .val (.int i1), .val (.int i2), .val (.int i3), .val (.int i4), .val (.int i5), .val (.ref ba), .val (.int y0), .val (.int y1), .val (.int y2), .val (.int y3), .val (.ref bn), .val (.int (2 : Int32)), .val (.ref br)] [(.int (own_pick i0 i1 i2 i3 y0))]))
    refine own_st (fun wt wk => XS.iloadN X14.here hx rfl (hb hby at_116) rfl wk) ?_
    show Fin1 p e below s (rm0Q Z i0 i1 i2 i3 i4 i5 h0 n0) room_1.cells room_1.slots (T14.setTop (mkF m 117 #[.val (.int i0), .val (.int i1), .val (.int i2), .val (.int i3), .val (.int i4), .val (.int i5), .val (.ref ba), .val (.int y0), .val (.int y1), .val (.int y2), .val (.int y3), .val (.ref bn), .val (.int (2 : Int32)), .val (.ref br)] [(.int i0), (.int (own_pick i0 i1 i2 i3 y0))]))
    refine own_st (fun wt wk => XS.iloadN X14.here hx rfl (hb hby at_117) rfl wk) ?_
    show Fin1 p e below s (rm0Q Z i0 i1 i2 i3 i4 i5 h0 n0) room_1.cells room_1.slots (T14.setTop (mkF m 118 #[.val (.int i0), .val (.int i1), .val (.int i2), .val (.int i3), .val (.int i4), .val (.int i5), .val (.ref ba), .val (.int y0), .val (.int y1), .val (.int y2), .val (.int y3), .val (.ref bn), .val (.int (2 : Int32)), .val (.ref br)] [(.int i1), (.int i0), (.int (own_pick i0 i1 i2 i3 y0))]))
    refine own_st (fun wt wk => XS.iloadN X14.here hx rfl (hb hby at_118) rfl wk) ?_
    show Fin1 p e below s (rm0Q Z i0 i1 i2 i3 i4 i5 h0 n0) room_1.cells room_1.slots (T14.setTop (mkF m 119 #[.val (.int i0), .val (.int i1), .val (.int i2), .val (.int i3), .val (.int i4), .val (.int i5), .val (.ref ba), .val (.int y0), .val (.int y1), .val (.int y2), .val (.int y3), .val (.ref bn), .val (.int (2 : Int32)), .val (.ref br)] [(.int i2), (.int i1), (.int i0), (.int (own_pick i0 i1 i2 i3 y0))]))
    refine own_st (fun wt wk => XS.iloadN X14.here hx rfl (hb hby at_119) rfl wk) ?_
    show Fin1 p e below s (rm0Q Z i0 i1 i2 i3 i4 i5 h0 n0) room_1.cells room_1.slots (T14.setTop (mkF m 120 #[.val (.int i0), .val (.int i1), .val (.int i2), .val (.int i3), .val (.int i4), .val (.int i5), .val (.ref ba), .val (.int y0), .val (.int y1), .val (.int y2), .val (.int y3), .val (.ref bn), .val (.int (2 : Int32)), .val (.ref br)] [(.int i3), (.int i2), (.int i1), (.int i0), (.int (own_pick i0 i1 i2 i3 y0))]))
    refine own_st (fun wt wk => XS.iload X14.here hx rfl (hb hby at_120) rfl wk) ?_
    show Fin1 p e below s (rm0Q Z i0 i1 i2 i3 i4 i5 h0 n0) room_1.cells room_1.slots (T14.setTop (mkF m 122 #[.val (.int i0), .val (.int i1), .val (.int i2), .val (.int i3), .val (.int i4), .val (.int i5), .val (.ref ba), .val (.int y0), .val (.int y1), .val (.int y2), .val (.int y3), .val (.ref bn), .val (.int (2 : Int32)), .val (.ref br)] [(.int y0), (.int i3), (.int i2), (.int i1), (.int i0), (.int (own_pick i0 i1 i2 i3 y0))]))
    obtain ⟨v15, T15, h15, L15, X15, e15, hQ15, st15⟩ := own_static X14 hx hZ hown (hw _ (List.mem_of_getElem? (i := 6) rfl)) (hw _ (List.mem_of_getElem? (i := 7) rfl)) (hw _ (List.mem_of_getElem? (i := 8) rfl)) (hw _ (List.mem_of_getElem? (i := 9) rfl)) (by decide) (rmP l Z a0 hw i0 i1 i2 i3 y0 h14 n0 Z0) e14 (g := (mkF m 122 #[.val (.int i0), .val (.int i1), .val (.int i2), .val (.int i3), .val (.int i4), .val (.int i5), .val (.ref ba), .val (.int y0), .val (.int y1), .val (.int y2), .val (.int y3), .val (.ref bn), .val (.int (2 : Int32)), .val (.ref br)] [(.int y0), (.int i3), (.int i2), (.int i1), (.int i0), (.int (own_pick i0 i1 i2 i3 y0))])) rfl (by rw [hml]; rfl) (argsL := [(.int i0), (.int i1), (.int i2), (.int i3), (.int y0)]) (rest := [(.int (own_pick i0 i1 i2 i3 y0))]) (lenOf pd_3 rfl) rfl (W := 1) (by show 2 * 0 + _ ≤ _; exact Nat.le_of_eq rfl) (hb hby at_122) (by decide) (by decide) (by decide) (by decide)
    obtain ⟨rfl, N15q, hh15⟩ := hQ15
    have N15 := Fr.app N14 N15q
    rw [hh15] at e15
    refine own_st st15 ?_
    show Fin1 p e below s (rm0Q Z i0 i1 i2 i3 i4 i5 h0 n0) room_1.cells room_1.slots (T15.setTop (mkF m 125 #[.val (.int i0), .val (.int i1), .val (.int i2), .val (.int i3), .val (.int i4), .val (.int i5), .val (.ref ba), .val (.int y0), .val (.int y1), .val (.int y2), .val (.int y3), .val (.ref bn), .val (.int (2 : Int32)), .val (.ref br)] [(.int (own_pick i0 i1 i2 i3 y0)), (.int (own_pick i0 i1 i2 i3 y0))]))
    refine own_st (fun wt wk => XS.icmpYes X15.here hx rfl (pc0 := 125) (pc' := 130) rfl (hb hby at_125) rfl (teq (rfl : (own_pick i0 i1 i2 i3 y0) = (own_pick i0 i1 i2 i3 y0))).1 (by decide) (by decide) wk) ?_
    show Fin1 p e below s (rm0Q Z i0 i1 i2 i3 i4 i5 h0 n0) room_1.cells room_1.slots (T15.setTop (mkF m 130 #[.val (.int i0), .val (.int i1), .val (.int i2), .val (.int i3), .val (.int i4), .val (.int i5), .val (.ref ba), .val (.int y0), .val (.int y1), .val (.int y2), .val (.int y3), .val (.ref bn), .val (.int (2 : Int32)), .val (.ref br)] []))
    refine own_st (fun wt wk => XS.iload X15.here hx rfl (hb hby at_130) rfl wk) ?_
    show Fin1 p e below s (rm0Q Z i0 i1 i2 i3 i4 i5 h0 n0) room_1.cells room_1.slots (T15.setTop (mkF m 132 #[.val (.int i0), .val (.int i1), .val (.int i2), .val (.int i3), .val (.int i4), .val (.int i5), .val (.ref ba), .val (.int y0), .val (.int y1), .val (.int y2), .val (.int y3), .val (.ref bn), .val (.int (2 : Int32)), .val (.ref br)] [(.int (2 : Int32))]))
    refine own_st (fun wt wk => XS.iconst X15.here hx rfl (hb hby at_132) wk) ?_
    show Fin1 p e below s (rm0Q Z i0 i1 i2 i3 i4 i5 h0 n0) room_1.cells room_1.slots (T15.setTop (mkF m 133 #[.val (.int i0), .val (.int i1), .val (.int i2), .val (.int i3), .val (.int i4), .val (.int i5), .val (.ref ba), .val (.int y0), .val (.int y1), .val (.int y2), .val (.int y3), .val (.ref bn), .val (.int (2 : Int32)), .val (.ref br)] [(.int (1 : Int32)), (.int (2 : Int32))]))
    refine own_st (fun wt wk => XS.icmpNo X15.here hx rfl (hb hby at_133) rfl (tlt (by decide)).2.2.2 wk) ?_
    show Fin1 p e below s (rm0Q Z i0 i1 i2 i3 i4 i5 h0 n0) room_1.cells room_1.slots (T15.setTop (mkF m 136 #[.val (.int i0), .val (.int i1), .val (.int i2), .val (.int i3), .val (.int i4), .val (.int i5), .val (.ref ba), .val (.int y0), .val (.int y1), .val (.int y2), .val (.int y3), .val (.ref bn), .val (.int (2 : Int32)), .val (.ref br)] []))
    refine own_st (fun wt wk => XS.aload X15.here hx rfl (hb hby at_136) rfl rfl wk) ?_
    show Fin1 p e below s (rm0Q Z i0 i1 i2 i3 i4 i5 h0 n0) room_1.cells room_1.slots (T15.setTop (mkF m 138 #[.val (.int i0), .val (.int i1), .val (.int i2), .val (.int i3), .val (.int i4), .val (.int i5), .val (.ref ba), .val (.int y0), .val (.int y1), .val (.int y2), .val (.int y3), .val (.ref bn), .val (.int (2 : Int32)), .val (.ref br)] [(.ref br)]))
    refine own_st (fun wt wk => XS.iconst X15.here hx rfl (hb hby at_138) wk) ?_
    show Fin1 p e below s (rm0Q Z i0 i1 i2 i3 i4 i5 h0 n0) room_1.cells room_1.slots (T15.setTop (mkF m 139 #[.val (.int i0), .val (.int i1), .val (.int i2), .val (.int i3), .val (.int i4), .val (.int i5), .val (.ref ba), .val (.int y0), .val (.int y1), .val (.int y2), .val (.int y3), .val (.ref bn), .val (.int (2 : Int32)), .val (.ref br)] [(.int (1 : Int32)), (.ref br)]))
    refine own_st (own_ld (j := (1 : Int32)) (v := (.int (own_pick i0 i1 i2 i3 y1))) X15 hx hZ e15 V_br ⟨by decide, by decide⟩ rfl (g := (mkF m 139 #[.val (.int i0), .val (.int i1), .val (.int i2), .val (.int i3), .val (.int i4), .val (.int i5), .val (.ref ba), .val (.int y0), .val (.int y1), .val (.int y2), .val (.int y3), .val (.ref bn), .val (.int (2 : Int32)), .val (.ref br)] [(.int (1 : Int32)), (.ref br)])) rfl rfl (Or.inl ⟨rfl, rfl⟩) (hb hby at_139)) ?_
    show Fin1 p e below s (rm0Q Z i0 i1 i2 i3 i4 i5 h0 n0) room_1.cells room_1.slots (T15.setTop (mkF m 140 #[.val (.int i0), .val (.int i1), .val (.int i2), .val (.int i3), .val (.int i4), .val (.int i5), .val (.ref ba), .val (.int y0), .val (.int y1), .val (.int y2), .val (.int y3), .val (.ref bn), .val (.int (2 : Int32)), .val (.ref br)] [(.int (own_pick i0 i1 i2 i3 y1))]))
    refine own_st (fun wt wk => XS.iloadN X15.here hx rfl (hb hby at_140) rfl wk) ?_
    show Fin1 p e below s (rm0Q Z i0 i1 i2 i3 i4 i5 h0 n0) room_1.cells room_1.slots (T15.setTop (mkF m 141 #[.val (.int i0), .val (.int i1), .val (.int i2), .val (.int i3), .val (.int i4), .val (.int i5), .val (.ref ba), .val (.int y0), .val (.int y1), .val (.int y2), .val (.int y3), .val (.ref bn), .val (.int (2 : Int32)), .val (.ref br)] [(.int i0), (.int (own_pick i0 i1 i2 i3 y1))]))
    refine own_st (fun wt wk => XS.iloadN X15.here hx rfl (hb hby at_141) rfl wk) ?_
    show Fin1 p e below s (rm0Q Z i0 i1 i2 i3 i4 i5 h0 n0) room_1.cells room_1.slots (T15.setTop (mkF m 142 #[.val (.int i0), .val (.int i1), .val (.int i2), .val (.int i3), .val (.int i4), .val (.int i5), .val (.ref ba), .val (.int y0), .val (.int y1), .val (.int y2), .val (.int y3), .val (.ref bn), .val (.int (2 : Int32)), .val (.ref br)] [(.int i1), (.int i0), (.int (own_pick i0 i1 i2 i3 y1))]))
    refine own_st (fun wt wk => XS.iloadN X15.here hx rfl (hb hby at_142) rfl wk) ?_
    show Fin1 p e below s (rm0Q Z i0 i1 i2 i3 i4 i5 h0 n0) room_1.cells room_1.slots (T15.setTop (mkF m 143 #[.val (.int i0), .val (.int i1), .val (.int i2), .val (.int i3), .val (.int i4), .val (.int i5), .val (.ref ba), .val (.int y0), .val (.int y1), .val (.int y2), .val (.int y3), .val (.ref bn), .val (.int (2 : Int32)), .val (.ref br)] [(.int i2), (.int i1), (.int i0), (.int (own_pick i0 i1 i2 i3 y1))]))
    refine own_st (fun wt wk => XS.iloadN X15.here hx rfl (hb hby at_143) rfl wk) ?_
    show Fin1 p e below s (rm0Q Z i0 i1 i2 i3 i4 i5 h0 n0) room_1.cells room_1.slots (T15.setTop (mkF m 144 #[.val (.int i0), .val (.int i1), .val (.int i2), .val (.int i3), .val (.int i4), .val (.int i5), .val (.ref ba), .val (.int y0), .val (.int y1), .val (.int y2), .val (.int y3), .val (.ref bn), .val (.int (2 : Int32)), .val (.ref br)] [(.int i3), (.int i2), (.int i1), (.int i0), (.int (own_pick i0 i1 i2 i3 y1))]))
    refine own_st (fun wt wk => XS.iload X15.here hx rfl (hb hby at_144) rfl wk) ?_
    show Fin1 p e below s (rm0Q Z i0 i1 i2 i3 i4 i5 h0 n0) room_1.cells room_1.slots (T15.setTop (mkF m 146 #[.val (.int i0), .val (.int i1), .val (.int i2), .val (.int i3), .val (.int i4), .val (.int i5), .val (.ref ba), .val (.int y0), .val (.int y1), .val (.int y2), .val (.int y3), .val (.ref bn), .val (.int (2 : Int32)), .val (.ref br)] [(.int y1), (.int i3), (.int i2), (.int i1), (.int i0), (.int (own_pick i0 i1 i2 i3 y1))]))
    obtain ⟨v16, T16, h16, L16, X16, e16, hQ16, st16⟩ := own_static X15 hx hZ hown (hw _ (List.mem_of_getElem? (i := 6) rfl)) (hw _ (List.mem_of_getElem? (i := 7) rfl)) (hw _ (List.mem_of_getElem? (i := 8) rfl)) (hw _ (List.mem_of_getElem? (i := 9) rfl)) (by decide) (rmP l Z a0 hw i0 i1 i2 i3 y1 h14 n0 Z0) e15 (g := (mkF m 146 #[.val (.int i0), .val (.int i1), .val (.int i2), .val (.int i3), .val (.int i4), .val (.int i5), .val (.ref ba), .val (.int y0), .val (.int y1), .val (.int y2), .val (.int y3), .val (.ref bn), .val (.int (2 : Int32)), .val (.ref br)] [(.int y1), (.int i3), (.int i2), (.int i1), (.int i0), (.int (own_pick i0 i1 i2 i3 y1))])) rfl (by rw [hml]; rfl) (argsL := [(.int i0), (.int i1), (.int i2), (.int i3), (.int y1)]) (rest := [(.int (own_pick i0 i1 i2 i3 y1))]) (lenOf pd_3 rfl) rfl (W := 1) (by show 2 * 0 + _ ≤ _; exact Nat.le_of_eq rfl) (hb hby at_146) (by decide) (by decide) (by decide) (by decide)
    obtain ⟨rfl, N16q, hh16⟩ := hQ16
    have N16 := Fr.app N15 N16q
    rw [hh16] at e16
    refine own_st st16 ?_
    show Fin1 p e below s (rm0Q Z i0 i1 i2 i3 i4 i5 h0 n0) room_1.cells room_1.slots (T16.setTop (mkF m 149 #[.val (.int i0), .val (.int i1), .val (.int i2), .val (.int i3), .val (.int i4), .val (.int i5), .val (.ref ba), .val (.int y0), .val (.int y1), .val (.int y2), .val (.int y3), .val (.ref bn), .val (.int (2 : Int32)), .val (.ref br)] [(.int (own_pick i0 i1 i2 i3 y1)), (.int (own_pick i0 i1 i2 i3 y1))]))
    refine own_st (fun wt wk => XS.icmpYes X16.here hx rfl (pc0 := 149) (pc' := 154) rfl (hb hby at_149) rfl (teq (rfl : (own_pick i0 i1 i2 i3 y1) = (own_pick i0 i1 i2 i3 y1))).1 (by decide) (by decide) wk) ?_
    show Fin1 p e below s (rm0Q Z i0 i1 i2 i3 i4 i5 h0 n0) room_1.cells room_1.slots (T16.setTop (mkF m 154 #[.val (.int i0), .val (.int i1), .val (.int i2), .val (.int i3), .val (.int i4), .val (.int i5), .val (.ref ba), .val (.int y0), .val (.int y1), .val (.int y2), .val (.int y3), .val (.ref bn), .val (.int (2 : Int32)), .val (.ref br)] []))
    refine own_st (fun wt wk => XS.iload X16.here hx rfl (hb hby at_154) rfl wk) ?_
    show Fin1 p e below s (rm0Q Z i0 i1 i2 i3 i4 i5 h0 n0) room_1.cells room_1.slots (T16.setTop (mkF m 156 #[.val (.int i0), .val (.int i1), .val (.int i2), .val (.int i3), .val (.int i4), .val (.int i5), .val (.ref ba), .val (.int y0), .val (.int y1), .val (.int y2), .val (.int y3), .val (.ref bn), .val (.int (2 : Int32)), .val (.ref br)] [(.int (2 : Int32))]))
    refine own_st (fun wt wk => XS.iconst X16.here hx rfl (hb hby at_156) wk) ?_
    show Fin1 p e below s (rm0Q Z i0 i1 i2 i3 i4 i5 h0 n0) room_1.cells room_1.slots (T16.setTop (mkF m 157 #[.val (.int i0), .val (.int i1), .val (.int i2), .val (.int i3), .val (.int i4), .val (.int i5), .val (.ref ba), .val (.int y0), .val (.int y1), .val (.int y2), .val (.int y3), .val (.ref bn), .val (.int (2 : Int32)), .val (.ref br)] [(.int (2 : Int32)), (.int (2 : Int32))]))
    refine own_st (fun wt wk => XS.icmpYes X16.here hx rfl (pc0 := 157) (pc' := 178) rfl (hb hby at_157) rfl (flt (by decide)).2.2.2 (by decide) (by decide) wk) ?_
    show Fin1 p e below s (rm0Q Z i0 i1 i2 i3 i4 i5 h0 n0) room_1.cells room_1.slots (T16.setTop (mkF m 178 #[.val (.int i0), .val (.int i1), .val (.int i2), .val (.int i3), .val (.int i4), .val (.int i5), .val (.ref ba), .val (.int y0), .val (.int y1), .val (.int y2), .val (.int y3), .val (.ref bn), .val (.int (2 : Int32)), .val (.ref br)] []))
    refine own_st (fun wt wk => XS.iload X16.here hx rfl (hb hby at_178) rfl wk) ?_
    show Fin1 p e below s (rm0Q Z i0 i1 i2 i3 i4 i5 h0 n0) room_1.cells room_1.slots (T16.setTop (mkF m 180 #[.val (.int i0), .val (.int i1), .val (.int i2), .val (.int i3), .val (.int i4), .val (.int i5), .val (.ref ba), .val (.int y0), .val (.int y1), .val (.int y2), .val (.int y3), .val (.ref bn), .val (.int (2 : Int32)), .val (.ref br)] [(.int (2 : Int32))]))
    refine own_st (fun wt wk => XS.iconst X16.here hx rfl (hb hby at_180) wk) ?_
    show Fin1 p e below s (rm0Q Z i0 i1 i2 i3 i4 i5 h0 n0) room_1.cells room_1.slots (T16.setTop (mkF m 181 #[.val (.int i0), .val (.int i1), .val (.int i2), .val (.int i3), .val (.int i4), .val (.int i5), .val (.ref ba), .val (.int y0), .val (.int y1), .val (.int y2), .val (.int y3), .val (.ref bn), .val (.int (2 : Int32)), .val (.ref br)] [(.int (3 : Int32)), (.int (2 : Int32))]))
    refine own_st (fun wt wk => XS.icmpYes X16.here hx rfl (pc0 := 181) (pc' := 202) rfl (hb hby at_181) rfl (flt (by decide)).2.2.2 (by decide) (by decide) wk) ?_
    show Fin1 p e below s (rm0Q Z i0 i1 i2 i3 i4 i5 h0 n0) room_1.cells room_1.slots (T16.setTop (mkF m 202 #[.val (.int i0), .val (.int i1), .val (.int i2), .val (.int i3), .val (.int i4), .val (.int i5), .val (.ref ba), .val (.int y0), .val (.int y1), .val (.int y2), .val (.int y3), .val (.ref bn), .val (.int (2 : Int32)), .val (.ref br)] []))
    refine own_st (fun wt wk => XS.aload X16.here hx rfl (hb hby at_202) rfl rfl wk) ?_
    show Fin1 p e below s (rm0Q Z i0 i1 i2 i3 i4 i5 h0 n0) room_1.cells room_1.slots (T16.setTop (mkF m 204 #[.val (.int i0), .val (.int i1), .val (.int i2), .val (.int i3), .val (.int i4), .val (.int i5), .val (.ref ba), .val (.int y0), .val (.int y1), .val (.int y2), .val (.int y3), .val (.ref bn), .val (.int (2 : Int32)), .val (.ref br)] [(.ref ba)]))
    refine own_st (fun wt wk => XS.iconst X16.here hx rfl (hb hby at_204) wk) ?_
    show Fin1 p e below s (rm0Q Z i0 i1 i2 i3 i4 i5 h0 n0) room_1.cells room_1.slots (T16.setTop (mkF m 205 #[.val (.int i0), .val (.int i1), .val (.int i2), .val (.int i3), .val (.int i4), .val (.int i5), .val (.ref ba), .val (.int y0), .val (.int y1), .val (.int y2), .val (.int y3), .val (.ref bn), .val (.int (2 : Int32)), .val (.ref br)] [(.int (0 : Int32)), (.ref ba)]))
    refine own_st (own_ld (j := (0 : Int32)) (v := (.int i0)) X16 hx hZ e16 V_ba ⟨by decide, by decide⟩ rfl (g := (mkF m 205 #[.val (.int i0), .val (.int i1), .val (.int i2), .val (.int i3), .val (.int i4), .val (.int i5), .val (.ref ba), .val (.int y0), .val (.int y1), .val (.int y2), .val (.int y3), .val (.ref bn), .val (.int (2 : Int32)), .val (.ref br)] [(.int (0 : Int32)), (.ref ba)])) rfl rfl (Or.inl ⟨rfl, rfl⟩) (hb hby at_205)) ?_
    show Fin1 p e below s (rm0Q Z i0 i1 i2 i3 i4 i5 h0 n0) room_1.cells room_1.slots (T16.setTop (mkF m 206 #[.val (.int i0), .val (.int i1), .val (.int i2), .val (.int i3), .val (.int i4), .val (.int i5), .val (.ref ba), .val (.int y0), .val (.int y1), .val (.int y2), .val (.int y3), .val (.ref bn), .val (.int (2 : Int32)), .val (.ref br)] [(.int i0)]))
    refine own_st (fun wt wk => XS.iloadN X16.here hx rfl (hb hby at_206) rfl wk) ?_
    show Fin1 p e below s (rm0Q Z i0 i1 i2 i3 i4 i5 h0 n0) room_1.cells room_1.slots (T16.setTop (mkF m 207 #[.val (.int i0), .val (.int i1), .val (.int i2), .val (.int i3), .val (.int i4), .val (.int i5), .val (.ref ba), .val (.int y0), .val (.int y1), .val (.int y2), .val (.int y3), .val (.ref bn), .val (.int (2 : Int32)), .val (.ref br)] [(.int i0), (.int i0)]))
    refine own_st (fun wt wk => XS.icmpNo X16.here hx rfl (hb hby at_207) rfl (teq (rfl : i0 = i0)).2 wk) ?_
    show Fin1 p e below s (rm0Q Z i0 i1 i2 i3 i4 i5 h0 n0) room_1.cells room_1.slots (T16.setTop (mkF m 210 #[.val (.int i0), .val (.int i1), .val (.int i2), .val (.int i3), .val (.int i4), .val (.int i5), .val (.ref ba), .val (.int y0), .val (.int y1), .val (.int y2), .val (.int y3), .val (.ref bn), .val (.int (2 : Int32)), .val (.ref br)] []))
    refine own_st (fun wt wk => XS.aload X16.here hx rfl (hb hby at_210) rfl rfl wk) ?_
    show Fin1 p e below s (rm0Q Z i0 i1 i2 i3 i4 i5 h0 n0) room_1.cells room_1.slots (T16.setTop (mkF m 212 #[.val (.int i0), .val (.int i1), .val (.int i2), .val (.int i3), .val (.int i4), .val (.int i5), .val (.ref ba), .val (.int y0), .val (.int y1), .val (.int y2), .val (.int y3), .val (.ref bn), .val (.int (2 : Int32)), .val (.ref br)] [(.ref ba)]))
    refine own_st (fun wt wk => XS.iconst X16.here hx rfl (hb hby at_212) wk) ?_
    show Fin1 p e below s (rm0Q Z i0 i1 i2 i3 i4 i5 h0 n0) room_1.cells room_1.slots (T16.setTop (mkF m 213 #[.val (.int i0), .val (.int i1), .val (.int i2), .val (.int i3), .val (.int i4), .val (.int i5), .val (.ref ba), .val (.int y0), .val (.int y1), .val (.int y2), .val (.int y3), .val (.ref bn), .val (.int (2 : Int32)), .val (.ref br)] [(.int (1 : Int32)), (.ref ba)]))
    refine own_st (own_ld (j := (1 : Int32)) (v := (.int i1)) X16 hx hZ e16 V_ba ⟨by decide, by decide⟩ rfl (g := (mkF m 213 #[.val (.int i0), .val (.int i1), .val (.int i2), .val (.int i3), .val (.int i4), .val (.int i5), .val (.ref ba), .val (.int y0), .val (.int y1), .val (.int y2), .val (.int y3), .val (.ref bn), .val (.int (2 : Int32)), .val (.ref br)] [(.int (1 : Int32)), (.ref ba)])) rfl rfl (Or.inl ⟨rfl, rfl⟩) (hb hby at_213)) ?_
    show Fin1 p e below s (rm0Q Z i0 i1 i2 i3 i4 i5 h0 n0) room_1.cells room_1.slots (T16.setTop (mkF m 214 #[.val (.int i0), .val (.int i1), .val (.int i2), .val (.int i3), .val (.int i4), .val (.int i5), .val (.ref ba), .val (.int y0), .val (.int y1), .val (.int y2), .val (.int y3), .val (.ref bn), .val (.int (2 : Int32)), .val (.ref br)] [(.int i1)]))
    refine own_st (fun wt wk => XS.iloadN X16.here hx rfl (hb hby at_214) rfl wk) ?_
    show Fin1 p e below s (rm0Q Z i0 i1 i2 i3 i4 i5 h0 n0) room_1.cells room_1.slots (T16.setTop (mkF m 215 #[.val (.int i0), .val (.int i1), .val (.int i2), .val (.int i3), .val (.int i4), .val (.int i5), .val (.ref ba), .val (.int y0), .val (.int y1), .val (.int y2), .val (.int y3), .val (.ref bn), .val (.int (2 : Int32)), .val (.ref br)] [(.int i1), (.int i1)]))
    refine own_st (fun wt wk => XS.icmpNo X16.here hx rfl (hb hby at_215) rfl (teq (rfl : i1 = i1)).2 wk) ?_
    show Fin1 p e below s (rm0Q Z i0 i1 i2 i3 i4 i5 h0 n0) room_1.cells room_1.slots (T16.setTop (mkF m 218 #[.val (.int i0), .val (.int i1), .val (.int i2), .val (.int i3), .val (.int i4), .val (.int i5), .val (.ref ba), .val (.int y0), .val (.int y1), .val (.int y2), .val (.int y3), .val (.ref bn), .val (.int (2 : Int32)), .val (.ref br)] []))
    refine own_st (fun wt wk => XS.aload X16.here hx rfl (hb hby at_218) rfl rfl wk) ?_
    show Fin1 p e below s (rm0Q Z i0 i1 i2 i3 i4 i5 h0 n0) room_1.cells room_1.slots (T16.setTop (mkF m 220 #[.val (.int i0), .val (.int i1), .val (.int i2), .val (.int i3), .val (.int i4), .val (.int i5), .val (.ref ba), .val (.int y0), .val (.int y1), .val (.int y2), .val (.int y3), .val (.ref bn), .val (.int (2 : Int32)), .val (.ref br)] [(.ref ba)]))
    refine own_st (fun wt wk => XS.iconst X16.here hx rfl (hb hby at_220) wk) ?_
    show Fin1 p e below s (rm0Q Z i0 i1 i2 i3 i4 i5 h0 n0) room_1.cells room_1.slots (T16.setTop (mkF m 221 #[.val (.int i0), .val (.int i1), .val (.int i2), .val (.int i3), .val (.int i4), .val (.int i5), .val (.ref ba), .val (.int y0), .val (.int y1), .val (.int y2), .val (.int y3), .val (.ref bn), .val (.int (2 : Int32)), .val (.ref br)] [(.int (2 : Int32)), (.ref ba)]))
    refine own_st (own_ld (j := (2 : Int32)) (v := (.int i2)) X16 hx hZ e16 V_ba ⟨by decide, by decide⟩ rfl (g := (mkF m 221 #[.val (.int i0), .val (.int i1), .val (.int i2), .val (.int i3), .val (.int i4), .val (.int i5), .val (.ref ba), .val (.int y0), .val (.int y1), .val (.int y2), .val (.int y3), .val (.ref bn), .val (.int (2 : Int32)), .val (.ref br)] [(.int (2 : Int32)), (.ref ba)])) rfl rfl (Or.inl ⟨rfl, rfl⟩) (hb hby at_221)) ?_
    show Fin1 p e below s (rm0Q Z i0 i1 i2 i3 i4 i5 h0 n0) room_1.cells room_1.slots (T16.setTop (mkF m 222 #[.val (.int i0), .val (.int i1), .val (.int i2), .val (.int i3), .val (.int i4), .val (.int i5), .val (.ref ba), .val (.int y0), .val (.int y1), .val (.int y2), .val (.int y3), .val (.ref bn), .val (.int (2 : Int32)), .val (.ref br)] [(.int i2)]))
    refine own_st (fun wt wk => XS.iloadN X16.here hx rfl (hb hby at_222) rfl wk) ?_
    show Fin1 p e below s (rm0Q Z i0 i1 i2 i3 i4 i5 h0 n0) room_1.cells room_1.slots (T16.setTop (mkF m 223 #[.val (.int i0), .val (.int i1), .val (.int i2), .val (.int i3), .val (.int i4), .val (.int i5), .val (.ref ba), .val (.int y0), .val (.int y1), .val (.int y2), .val (.int y3), .val (.ref bn), .val (.int (2 : Int32)), .val (.ref br)] [(.int i2), (.int i2)]))
    refine own_st (fun wt wk => XS.icmpNo X16.here hx rfl (hb hby at_223) rfl (teq (rfl : i2 = i2)).2 wk) ?_
    show Fin1 p e below s (rm0Q Z i0 i1 i2 i3 i4 i5 h0 n0) room_1.cells room_1.slots (T16.setTop (mkF m 226 #[.val (.int i0), .val (.int i1), .val (.int i2), .val (.int i3), .val (.int i4), .val (.int i5), .val (.ref ba), .val (.int y0), .val (.int y1), .val (.int y2), .val (.int y3), .val (.ref bn), .val (.int (2 : Int32)), .val (.ref br)] []))
    refine own_st (fun wt wk => XS.aload X16.here hx rfl (hb hby at_226) rfl rfl wk) ?_
    show Fin1 p e below s (rm0Q Z i0 i1 i2 i3 i4 i5 h0 n0) room_1.cells room_1.slots (T16.setTop (mkF m 228 #[.val (.int i0), .val (.int i1), .val (.int i2), .val (.int i3), .val (.int i4), .val (.int i5), .val (.ref ba), .val (.int y0), .val (.int y1), .val (.int y2), .val (.int y3), .val (.ref bn), .val (.int (2 : Int32)), .val (.ref br)] [(.ref ba)]))
    refine own_st (fun wt wk => XS.iconst X16.here hx rfl (hb hby at_228) wk) ?_
    show Fin1 p e below s (rm0Q Z i0 i1 i2 i3 i4 i5 h0 n0) room_1.cells room_1.slots (T16.setTop (mkF m 229 #[.val (.int i0), .val (.int i1), .val (.int i2), .val (.int i3), .val (.int i4), .val (.int i5), .val (.ref ba), .val (.int y0), .val (.int y1), .val (.int y2), .val (.int y3), .val (.ref bn), .val (.int (2 : Int32)), .val (.ref br)] [(.int (3 : Int32)), (.ref ba)]))
    refine own_st (own_ld (j := (3 : Int32)) (v := (.int i3)) X16 hx hZ e16 V_ba ⟨by decide, by decide⟩ rfl (g := (mkF m 229 #[.val (.int i0), .val (.int i1), .val (.int i2), .val (.int i3), .val (.int i4), .val (.int i5), .val (.ref ba), .val (.int y0), .val (.int y1), .val (.int y2), .val (.int y3), .val (.ref bn), .val (.int (2 : Int32)), .val (.ref br)] [(.int (3 : Int32)), (.ref ba)])) rfl rfl (Or.inl ⟨rfl, rfl⟩) (hb hby at_229)) ?_
    show Fin1 p e below s (rm0Q Z i0 i1 i2 i3 i4 i5 h0 n0) room_1.cells room_1.slots (T16.setTop (mkF m 230 #[.val (.int i0), .val (.int i1), .val (.int i2), .val (.int i3), .val (.int i4), .val (.int i5), .val (.ref ba), .val (.int y0), .val (.int y1), .val (.int y2), .val (.int y3), .val (.ref bn), .val (.int (2 : Int32)), .val (.ref br)] [(.int i3)]))
    refine own_st (fun wt wk => XS.iloadN X16.here hx rfl (hb hby at_230) rfl wk) ?_
    show Fin1 p e below s (rm0Q Z i0 i1 i2 i3 i4 i5 h0 n0) room_1.cells room_1.slots (T16.setTop (mkF m 231 #[.val (.int i0), .val (.int i1), .val (.int i2), .val (.int i3), .val (.int i4), .val (.int i5), .val (.ref ba), .val (.int y0), .val (.int y1), .val (.int y2), .val (.int y3), .val (.ref bn), .val (.int (2 : Int32)), .val (.ref br)] [(.int i3), (.int i3)]))
    refine own_st (fun wt wk => XS.icmpNo X16.here hx rfl (hb hby at_231) rfl (teq (rfl : i3 = i3)).2 wk) ?_
    show Fin1 p e below s (rm0Q Z i0 i1 i2 i3 i4 i5 h0 n0) room_1.cells room_1.slots (T16.setTop (mkF m 234 #[.val (.int i0), .val (.int i1), .val (.int i2), .val (.int i3), .val (.int i4), .val (.int i5), .val (.ref ba), .val (.int y0), .val (.int y1), .val (.int y2), .val (.int y3), .val (.ref bn), .val (.int (2 : Int32)), .val (.ref br)] []))
    refine own_st (fun wt wk => XS.aload X16.here hx rfl (hb hby at_234) rfl rfl wk) ?_
    show Fin1 p e below s (rm0Q Z i0 i1 i2 i3 i4 i5 h0 n0) room_1.cells room_1.slots (T16.setTop (mkF m 236 #[.val (.int i0), .val (.int i1), .val (.int i2), .val (.int i3), .val (.int i4), .val (.int i5), .val (.ref ba), .val (.int y0), .val (.int y1), .val (.int y2), .val (.int y3), .val (.ref bn), .val (.int (2 : Int32)), .val (.ref br)] [(.ref bn)]))
    refine own_st (fun wt wk => XS.iconst X16.here hx rfl (hb hby at_236) wk) ?_
    show Fin1 p e below s (rm0Q Z i0 i1 i2 i3 i4 i5 h0 n0) room_1.cells room_1.slots (T16.setTop (mkF m 237 #[.val (.int i0), .val (.int i1), .val (.int i2), .val (.int i3), .val (.int i4), .val (.int i5), .val (.ref ba), .val (.int y0), .val (.int y1), .val (.int y2), .val (.int y3), .val (.ref bn), .val (.int (2 : Int32)), .val (.ref br)] [(.int (0 : Int32)), (.ref bn)]))
    refine own_st (own_ld (j := (0 : Int32)) (v := (.int y0)) X16 hx hZ e16 V_bn ⟨by decide, by decide⟩ rfl (g := (mkF m 237 #[.val (.int i0), .val (.int i1), .val (.int i2), .val (.int i3), .val (.int i4), .val (.int i5), .val (.ref ba), .val (.int y0), .val (.int y1), .val (.int y2), .val (.int y3), .val (.ref bn), .val (.int (2 : Int32)), .val (.ref br)] [(.int (0 : Int32)), (.ref bn)])) rfl rfl (Or.inl ⟨rfl, rfl⟩) (hb hby at_237)) ?_
    show Fin1 p e below s (rm0Q Z i0 i1 i2 i3 i4 i5 h0 n0) room_1.cells room_1.slots (T16.setTop (mkF m 238 #[.val (.int i0), .val (.int i1), .val (.int i2), .val (.int i3), .val (.int i4), .val (.int i5), .val (.ref ba), .val (.int y0), .val (.int y1), .val (.int y2), .val (.int y3), .val (.ref bn), .val (.int (2 : Int32)), .val (.ref br)] [(.int y0)]))
    refine own_st (fun wt wk => XS.iload X16.here hx rfl (hb hby at_238) rfl wk) ?_
    show Fin1 p e below s (rm0Q Z i0 i1 i2 i3 i4 i5 h0 n0) room_1.cells room_1.slots (T16.setTop (mkF m 240 #[.val (.int i0), .val (.int i1), .val (.int i2), .val (.int i3), .val (.int i4), .val (.int i5), .val (.ref ba), .val (.int y0), .val (.int y1), .val (.int y2), .val (.int y3), .val (.ref bn), .val (.int (2 : Int32)), .val (.ref br)] [(.int y0), (.int y0)]))
    refine own_st (fun wt wk => XS.icmpNo X16.here hx rfl (hb hby at_240) rfl (teq (rfl : y0 = y0)).2 wk) ?_
    show Fin1 p e below s (rm0Q Z i0 i1 i2 i3 i4 i5 h0 n0) room_1.cells room_1.slots (T16.setTop (mkF m 243 #[.val (.int i0), .val (.int i1), .val (.int i2), .val (.int i3), .val (.int i4), .val (.int i5), .val (.ref ba), .val (.int y0), .val (.int y1), .val (.int y2), .val (.int y3), .val (.ref bn), .val (.int (2 : Int32)), .val (.ref br)] []))
    refine own_st (fun wt wk => XS.aload X16.here hx rfl (hb hby at_243) rfl rfl wk) ?_
    show Fin1 p e below s (rm0Q Z i0 i1 i2 i3 i4 i5 h0 n0) room_1.cells room_1.slots (T16.setTop (mkF m 245 #[.val (.int i0), .val (.int i1), .val (.int i2), .val (.int i3), .val (.int i4), .val (.int i5), .val (.ref ba), .val (.int y0), .val (.int y1), .val (.int y2), .val (.int y3), .val (.ref bn), .val (.int (2 : Int32)), .val (.ref br)] [(.ref bn)]))
    refine own_st (fun wt wk => XS.iconst X16.here hx rfl (hb hby at_245) wk) ?_
    show Fin1 p e below s (rm0Q Z i0 i1 i2 i3 i4 i5 h0 n0) room_1.cells room_1.slots (T16.setTop (mkF m 246 #[.val (.int i0), .val (.int i1), .val (.int i2), .val (.int i3), .val (.int i4), .val (.int i5), .val (.ref ba), .val (.int y0), .val (.int y1), .val (.int y2), .val (.int y3), .val (.ref bn), .val (.int (2 : Int32)), .val (.ref br)] [(.int (1 : Int32)), (.ref bn)]))
    refine own_st (own_ld (j := (1 : Int32)) (v := (.int y1)) X16 hx hZ e16 V_bn ⟨by decide, by decide⟩ rfl (g := (mkF m 246 #[.val (.int i0), .val (.int i1), .val (.int i2), .val (.int i3), .val (.int i4), .val (.int i5), .val (.ref ba), .val (.int y0), .val (.int y1), .val (.int y2), .val (.int y3), .val (.ref bn), .val (.int (2 : Int32)), .val (.ref br)] [(.int (1 : Int32)), (.ref bn)])) rfl rfl (Or.inl ⟨rfl, rfl⟩) (hb hby at_246)) ?_
    show Fin1 p e below s (rm0Q Z i0 i1 i2 i3 i4 i5 h0 n0) room_1.cells room_1.slots (T16.setTop (mkF m 247 #[.val (.int i0), .val (.int i1), .val (.int i2), .val (.int i3), .val (.int i4), .val (.int i5), .val (.ref ba), .val (.int y0), .val (.int y1), .val (.int y2), .val (.int y3), .val (.ref bn), .val (.int (2 : Int32)), .val (.ref br)] [(.int y1)]))
    refine own_st (fun wt wk => XS.iload X16.here hx rfl (hb hby at_247) rfl wk) ?_
    show Fin1 p e below s (rm0Q Z i0 i1 i2 i3 i4 i5 h0 n0) room_1.cells room_1.slots (T16.setTop (mkF m 249 #[.val (.int i0), .val (.int i1), .val (.int i2), .val (.int i3), .val (.int i4), .val (.int i5), .val (.ref ba), .val (.int y0), .val (.int y1), .val (.int y2), .val (.int y3), .val (.ref bn), .val (.int (2 : Int32)), .val (.ref br)] [(.int y1), (.int y1)]))
    refine own_st (fun wt wk => XS.icmpNo X16.here hx rfl (hb hby at_249) rfl (teq (rfl : y1 = y1)).2 wk) ?_
    show Fin1 p e below s (rm0Q Z i0 i1 i2 i3 i4 i5 h0 n0) room_1.cells room_1.slots (T16.setTop (mkF m 252 #[.val (.int i0), .val (.int i1), .val (.int i2), .val (.int i3), .val (.int i4), .val (.int i5), .val (.ref ba), .val (.int y0), .val (.int y1), .val (.int y2), .val (.int y3), .val (.ref bn), .val (.int (2 : Int32)), .val (.ref br)] []))
    refine own_st (fun wt wk => XS.aload X16.here hx rfl (hb hby at_252) rfl rfl wk) ?_
    show Fin1 p e below s (rm0Q Z i0 i1 i2 i3 i4 i5 h0 n0) room_1.cells room_1.slots (T16.setTop (mkF m 254 #[.val (.int i0), .val (.int i1), .val (.int i2), .val (.int i3), .val (.int i4), .val (.int i5), .val (.ref ba), .val (.int y0), .val (.int y1), .val (.int y2), .val (.int y3), .val (.ref bn), .val (.int (2 : Int32)), .val (.ref br)] [(.ref bn)]))
    refine own_st (fun wt wk => XS.iconst X16.here hx rfl (hb hby at_254) wk) ?_
    show Fin1 p e below s (rm0Q Z i0 i1 i2 i3 i4 i5 h0 n0) room_1.cells room_1.slots (T16.setTop (mkF m 255 #[.val (.int i0), .val (.int i1), .val (.int i2), .val (.int i3), .val (.int i4), .val (.int i5), .val (.ref ba), .val (.int y0), .val (.int y1), .val (.int y2), .val (.int y3), .val (.ref bn), .val (.int (2 : Int32)), .val (.ref br)] [(.int (2 : Int32)), (.ref bn)]))
    refine own_st (own_ld (j := (2 : Int32)) (v := (.int y2)) X16 hx hZ e16 V_bn ⟨by decide, by decide⟩ rfl (g := (mkF m 255 #[.val (.int i0), .val (.int i1), .val (.int i2), .val (.int i3), .val (.int i4), .val (.int i5), .val (.ref ba), .val (.int y0), .val (.int y1), .val (.int y2), .val (.int y3), .val (.ref bn), .val (.int (2 : Int32)), .val (.ref br)] [(.int (2 : Int32)), (.ref bn)])) rfl rfl (Or.inl ⟨rfl, rfl⟩) (hb hby at_255)) ?_
    show Fin1 p e below s (rm0Q Z i0 i1 i2 i3 i4 i5 h0 n0) room_1.cells room_1.slots (T16.setTop (mkF m 256 #[.val (.int i0), .val (.int i1), .val (.int i2), .val (.int i3), .val (.int i4), .val (.int i5), .val (.ref ba), .val (.int y0), .val (.int y1), .val (.int y2), .val (.int y3), .val (.ref bn), .val (.int (2 : Int32)), .val (.ref br)] [(.int y2)]))
    refine own_st (fun wt wk => XS.iload X16.here hx rfl (hb hby at_256) rfl wk) ?_
    show Fin1 p e below s (rm0Q Z i0 i1 i2 i3 i4 i5 h0 n0) room_1.cells room_1.slots (T16.setTop (mkF m 258 #[.val (.int i0), .val (.int i1), .val (.int i2), .val (.int i3), .val (.int i4), .val (.int i5), .val (.ref ba), .val (.int y0), .val (.int y1), .val (.int y2), .val (.int y3), .val (.ref bn), .val (.int (2 : Int32)), .val (.ref br)] [(.int y2), (.int y2)]))
    refine own_st (fun wt wk => XS.icmpNo X16.here hx rfl (hb hby at_258) rfl (teq (rfl : y2 = y2)).2 wk) ?_
    show Fin1 p e below s (rm0Q Z i0 i1 i2 i3 i4 i5 h0 n0) room_1.cells room_1.slots (T16.setTop (mkF m 261 #[.val (.int i0), .val (.int i1), .val (.int i2), .val (.int i3), .val (.int i4), .val (.int i5), .val (.ref ba), .val (.int y0), .val (.int y1), .val (.int y2), .val (.int y3), .val (.ref bn), .val (.int (2 : Int32)), .val (.ref br)] []))
    refine own_st (fun wt wk => XS.aload X16.here hx rfl (hb hby at_261) rfl rfl wk) ?_
    show Fin1 p e below s (rm0Q Z i0 i1 i2 i3 i4 i5 h0 n0) room_1.cells room_1.slots (T16.setTop (mkF m 263 #[.val (.int i0), .val (.int i1), .val (.int i2), .val (.int i3), .val (.int i4), .val (.int i5), .val (.ref ba), .val (.int y0), .val (.int y1), .val (.int y2), .val (.int y3), .val (.ref bn), .val (.int (2 : Int32)), .val (.ref br)] [(.ref bn)]))
    refine own_st (fun wt wk => XS.iconst X16.here hx rfl (hb hby at_263) wk) ?_
    show Fin1 p e below s (rm0Q Z i0 i1 i2 i3 i4 i5 h0 n0) room_1.cells room_1.slots (T16.setTop (mkF m 264 #[.val (.int i0), .val (.int i1), .val (.int i2), .val (.int i3), .val (.int i4), .val (.int i5), .val (.ref ba), .val (.int y0), .val (.int y1), .val (.int y2), .val (.int y3), .val (.ref bn), .val (.int (2 : Int32)), .val (.ref br)] [(.int (3 : Int32)), (.ref bn)]))
    refine own_st (own_ld (j := (3 : Int32)) (v := (.int y3)) X16 hx hZ e16 V_bn ⟨by decide, by decide⟩ rfl (g := (mkF m 264 #[.val (.int i0), .val (.int i1), .val (.int i2), .val (.int i3), .val (.int i4), .val (.int i5), .val (.ref ba), .val (.int y0), .val (.int y1), .val (.int y2), .val (.int y3), .val (.ref bn), .val (.int (2 : Int32)), .val (.ref br)] [(.int (3 : Int32)), (.ref bn)])) rfl rfl (Or.inl ⟨rfl, rfl⟩) (hb hby at_264)) ?_
    show Fin1 p e below s (rm0Q Z i0 i1 i2 i3 i4 i5 h0 n0) room_1.cells room_1.slots (T16.setTop (mkF m 265 #[.val (.int i0), .val (.int i1), .val (.int i2), .val (.int i3), .val (.int i4), .val (.int i5), .val (.ref ba), .val (.int y0), .val (.int y1), .val (.int y2), .val (.int y3), .val (.ref bn), .val (.int (2 : Int32)), .val (.ref br)] [(.int y3)]))
    refine own_st (fun wt wk => XS.iload X16.here hx rfl (hb hby at_265) rfl wk) ?_
    show Fin1 p e below s (rm0Q Z i0 i1 i2 i3 i4 i5 h0 n0) room_1.cells room_1.slots (T16.setTop (mkF m 267 #[.val (.int i0), .val (.int i1), .val (.int i2), .val (.int i3), .val (.int i4), .val (.int i5), .val (.ref ba), .val (.int y0), .val (.int y1), .val (.int y2), .val (.int y3), .val (.ref bn), .val (.int (2 : Int32)), .val (.ref br)] [(.int y3), (.int y3)]))
    refine own_st (fun wt wk => XS.icmpNo X16.here hx rfl (hb hby at_267) rfl (teq (rfl : y3 = y3)).2 wk) ?_
    show Fin1 p e below s (rm0Q Z i0 i1 i2 i3 i4 i5 h0 n0) room_1.cells room_1.slots (T16.setTop (mkF m 270 #[.val (.int i0), .val (.int i1), .val (.int i2), .val (.int i3), .val (.int i4), .val (.int i5), .val (.ref ba), .val (.int y0), .val (.int y1), .val (.int y2), .val (.int y3), .val (.ref bn), .val (.int (2 : Int32)), .val (.ref br)] []))
    refine own_st (fun wt wk => XS.iconst X16.here hx rfl (hb hby at_270) wk) ?_
    show Fin1 p e below s (rm0Q Z i0 i1 i2 i3 i4 i5 h0 n0) room_1.cells room_1.slots (T16.setTop (mkF m 271 #[.val (.int i0), .val (.int i1), .val (.int i2), .val (.int i3), .val (.int i4), .val (.int i5), .val (.ref ba), .val (.int y0), .val (.int y1), .val (.int y2), .val (.int y3), .val (.ref bn), .val (.int (2 : Int32)), .val (.ref br)] [(.int (1 : Int32))]))
    refine own_st (fun wt wk => XS.goto X16.here hx rfl (pc0 := 271) (pc' := 275) rfl (hb hby at_271) (by decide) (by decide) wk) ?_
    show Fin1 p e below s (rm0Q Z i0 i1 i2 i3 i4 i5 h0 n0) room_1.cells room_1.slots (T16.setTop (mkF m 275 #[.val (.int i0), .val (.int i1), .val (.int i2), .val (.int i3), .val (.int i4), .val (.int i5), .val (.ref ba), .val (.int y0), .val (.int y1), .val (.int y2), .val (.int y3), .val (.ref bn), .val (.int (2 : Int32)), .val (.ref br)] [(.int (1 : Int32))]))
    exact own_retZ X16 hx hlk hret (hb hby at_275) (z := (1 : Int32)) (by decide) (by rw [e16]; exact ⟨rfl, N16⟩) (by decide) (by decide)
  · show Fin1 p e below s (rm0Q Z i0 i1 i2 i3 i4 i5 h0 n0) room_1.cells room_1.slots (T10.setTop (mkF m 84 #[.val (.int i0), .val (.int i1), .val (.int i2), .val (.int i3), .val (.int i4), .val (.int i5), .val (.ref ba), .val (.int y0), .val (.int y1), .val (.int y2), .val (.int y3), .val (.ref bn), .unset, .unset] [(.int (3 : Int32))]))
    refine own_st (fun wt wk => XS.istore X10.here hx rfl (hb hby at_84) rfl (l' := #[.val (.int i0), .val (.int i1), .val (.int i2), .val (.int i3), .val (.int i4), .val (.int i5), .val (.ref ba), .val (.int y0), .val (.int y1), .val (.int y2), .val (.int y3), .val (.ref bn), .val (.int (3 : Int32)), .unset]) rfl wk) ?_
    show Fin1 p e below s (rm0Q Z i0 i1 i2 i3 i4 i5 h0 n0) room_1.cells room_1.slots (T10.setTop (mkF m 86 #[.val (.int i0), .val (.int i1), .val (.int i2), .val (.int i3), .val (.int i4), .val (.int i5), .val (.ref ba), .val (.int y0), .val (.int y1), .val (.int y2), .val (.int y3), .val (.ref bn), .val (.int (3 : Int32)), .unset] []))
    refine own_st (fun wt wk => XS.aload X10.here hx rfl (hb hby at_86) rfl rfl wk) ?_
    show Fin1 p e below s (rm0Q Z i0 i1 i2 i3 i4 i5 h0 n0) room_1.cells room_1.slots (T10.setTop (mkF m 88 #[.val (.int i0), .val (.int i1), .val (.int i2), .val (.int i3), .val (.int i4), .val (.int i5), .val (.ref ba), .val (.int y0), .val (.int y1), .val (.int y2), .val (.int y3), .val (.ref bn), .val (.int (3 : Int32)), .unset] [(.ref ba)]))
    refine own_st (fun wt wk => XS.aload X10.here hx rfl (hb hby at_88) rfl rfl wk) ?_
    show Fin1 p e below s (rm0Q Z i0 i1 i2 i3 i4 i5 h0 n0) room_1.cells room_1.slots (T10.setTop (mkF m 90 #[.val (.int i0), .val (.int i1), .val (.int i2), .val (.int i3), .val (.int i4), .val (.int i5), .val (.ref ba), .val (.int y0), .val (.int y1), .val (.int y2), .val (.int y3), .val (.ref bn), .val (.int (3 : Int32)), .unset] [(.ref bn), (.ref ba)]))
    refine own_st (fun wt wk => XS.iload X10.here hx rfl (hb hby at_90) rfl wk) ?_
    show Fin1 p e below s (rm0Q Z i0 i1 i2 i3 i4 i5 h0 n0) room_1.cells room_1.slots (T10.setTop (mkF m 92 #[.val (.int i0), .val (.int i1), .val (.int i2), .val (.int i3), .val (.int i4), .val (.int i5), .val (.ref ba), .val (.int y0), .val (.int y1), .val (.int y2), .val (.int y3), .val (.ref bn), .val (.int (3 : Int32)), .unset] [(.int (3 : Int32)), (.ref bn), (.ref ba)]))
    obtain ⟨v17, T17, h17, L17, X17, e17, hQ17, st17⟩ := own_static X10 hx hZ hown (hw _ (List.mem_of_getElem? (i := 2) rfl)) (hw _ (List.mem_of_getElem? (i := 3) rfl)) (hw _ (List.mem_of_getElem? (i := 4) rfl)) (hw _ (List.mem_of_getElem? (i := 5) rfl)) (by decide) (rmS3 l Z a0 hw ba bn kc1 kc6 i0 i1 i2 i3 y0 y1 y2 y3 h10 n0 Z0 V_ba V_bn r0 r1 r2 r3) e10 (g := (mkF m 92 #[.val (.int i0), .val (.int i1), .val (.int i2), .val (.int i3), .val (.int i4), .val (.int i5), .val (.ref ba), .val (.int y0), .val (.int y1), .val (.int y2), .val (.int y3), .val (.ref bn), .val (.int (3 : Int32)), .unset] [(.int (3 : Int32)), (.ref bn), (.ref ba)])) rfl (by rw [hml]; rfl) (argsL := [(.ref ba), (.ref bn), (.int (3 : Int32))]) (rest := []) (lenOf pd_2 rfl) rfl (W := 0) (by show 2 * 0 + _ ≤ _; exact Nat.le_of_eq rfl) (hb hby at_92) (by decide) (by decide) (by decide) (by decide)
    obtain ⟨br, kr, rfl, N17q, hs, K17, V_br⟩ := hQ17
    have N17 := Fr.app N10 N17q
    have ne_ba_br : ba ≠ br := Nat.ne_of_lt (Nat.lt_of_lt_of_le V_ba.lt hs)
    have ne_bn_br : bn ≠ br := Nat.ne_of_lt (Nat.lt_of_lt_of_le V_bn.lt hs)
    have g_br : n0 ≤ br := Nat.le_trans Z0 hs
    have Z0 := Nat.le_trans Z0 K17.1
    have V_ba := V_ba.keep K17 nin0
    have V_bn := V_bn.keep K17 nin0
    refine own_st st17 ?_
    show Fin1 p e below s (rm0Q Z i0 i1 i2 i3 i4 i5 h0 n0) room_1.cells room_1.slots (T17.setTop (mkF m 95 #[.val (.int i0), .val (.int i1), .val (.int i2), .val (.int i3), .val (.int i4), .val (.int i5), .val (.ref ba), .val (.int y0), .val (.int y1), .val (.int y2), .val (.int y3), .val (.ref bn), .val (.int (3 : Int32)), .unset] [(.ref br)]))
    refine own_st (fun wt wk => XS.astore X17.here hx rfl (hb hby at_95) rfl rfl (l' := #[.val (.int i0), .val (.int i1), .val (.int i2), .val (.int i3), .val (.int i4), .val (.int i5), .val (.ref ba), .val (.int y0), .val (.int y1), .val (.int y2), .val (.int y3), .val (.ref bn), .val (.int (3 : Int32)), .val (.ref br)]) rfl wk) ?_
    show Fin1 p e below s (rm0Q Z i0 i1 i2 i3 i4 i5 h0 n0) room_1.cells room_1.slots (T17.setTop (mkF m 97 #[.val (.int i0), .val (.int i1), .val (.int i2), .val (.int i3), .val (.int i4), .val (.int i5), .val (.ref ba), .val (.int y0), .val (.int y1), .val (.int y2), .val (.int y3), .val (.ref bn), .val (.int (3 : Int32)), .val (.ref br)] []))
    refine own_st (fun wt wk => XS.aload X17.here hx rfl (hb hby at_97) rfl rfl wk) ?_
    show Fin1 p e below s (rm0Q Z i0 i1 i2 i3 i4 i5 h0 n0) room_1.cells room_1.slots (T17.setTop (mkF m 99 #[.val (.int i0), .val (.int i1), .val (.int i2), .val (.int i3), .val (.int i4), .val (.int i5), .val (.ref ba), .val (.int y0), .val (.int y1), .val (.int y2), .val (.int y3), .val (.ref bn), .val (.int (3 : Int32)), .val (.ref br)] [(.ref br)]))
    refine own_st (own_len X17 hx hZ e17 V_br (g := (mkF m 99 #[.val (.int i0), .val (.int i1), .val (.int i2), .val (.int i3), .val (.int i4), .val (.int i5), .val (.ref ba), .val (.int y0), .val (.int y1), .val (.int y2), .val (.int y3), .val (.ref bn), .val (.int (3 : Int32)), .val (.ref br)] [(.ref br)])) rfl rfl (hb hby at_99)) ?_
    show Fin1 p e below s (rm0Q Z i0 i1 i2 i3 i4 i5 h0 n0) room_1.cells room_1.slots (T17.setTop (mkF m 100 #[.val (.int i0), .val (.int i1), .val (.int i2), .val (.int i3), .val (.int i4), .val (.int i5), .val (.ref ba), .val (.int y0), .val (.int y1), .val (.int y2), .val (.int y3), .val (.ref bn), .val (.int (3 : Int32)), .val (.ref br)] [(.int (3 : Int32))]))
    refine own_st (fun wt wk => XS.iload X17.here hx rfl (hb hby at_100) rfl wk) ?_
    show Fin1 p e below s (rm0Q Z i0 i1 i2 i3 i4 i5 h0 n0) room_1.cells room_1.slots (T17.setTop (mkF m 102 #[.val (.int i0), .val (.int i1), .val (.int i2), .val (.int i3), .val (.int i4), .val (.int i5), .val (.ref ba), .val (.int y0), .val (.int y1), .val (.int y2), .val (.int y3), .val (.ref bn), .val (.int (3 : Int32)), .val (.ref br)] [(.int (3 : Int32)), (.int (3 : Int32))]))
    refine own_st (fun wt wk => XS.icmpYes X17.here hx rfl (pc0 := 102) (pc' := 107) rfl (hb hby at_102) rfl (teq (by decide)).1 (by decide) (by decide) wk) ?_
    show Fin1 p e below s (rm0Q Z i0 i1 i2 i3 i4 i5 h0 n0) room_1.cells room_1.slots (T17.setTop (mkF m 107 #[.val (.int i0), .val (.int i1), .val (.int i2), .val (.int i3), .val (.int i4), .val (.int i5), .val (.ref ba), .val (.int y0), .val (.int y1), .val (.int y2), .val (.int y3), .val (.ref bn), .val (.int (3 : Int32)), .val (.ref br)] []))
    refine own_st (fun wt wk => XS.iload X17.here hx rfl (hb hby at_107) rfl wk) ?_
    show Fin1 p e below s (rm0Q Z i0 i1 i2 i3 i4 i5 h0 n0) room_1.cells room_1.slots (T17.setTop (mkF m 109 #[.val (.int i0), .val (.int i1), .val (.int i2), .val (.int i3), .val (.int i4), .val (.int i5), .val (.ref ba), .val (.int y0), .val (.int y1), .val (.int y2), .val (.int y3), .val (.ref bn), .val (.int (3 : Int32)), .val (.ref br)] [(.int (3 : Int32))]))
    refine own_st (fun wt wk => XS.ifNo X17.here hx rfl (hb hby at_109) rfl ((if0 _ _).trans (tlt (by decide)).2.2.2) wk) ?_
    show Fin1 p e below s (rm0Q Z i0 i1 i2 i3 i4 i5 h0 n0) room_1.cells room_1.slots (T17.setTop (mkF m 112 #[.val (.int i0), .val (.int i1), .val (.int i2), .val (.int i3), .val (.int i4), .val (.int i5), .val (.ref ba), .val (.int y0), .val (.int y1), .val (.int y2), .val (.int y3), .val (.ref bn), .val (.int (3 : Int32)), .val (.ref br)] []))
    refine own_st (fun wt wk => XS.aload X17.here hx rfl (hb hby at_112) rfl rfl wk) ?_
    show Fin1 p e below s (rm0Q Z i0 i1 i2 i3 i4 i5 h0 n0) room_1.cells room_1.slots (T17.setTop (mkF m 114 #[.val (.int i0), .val (.int i1), .val (.int i2), .val (.int i3), .val (.int i4), .val (.int i5), .val (.ref ba), .val (.int y0), .val (.int y1), .val (.int y2), .val (.int y3), .val (.ref bn), .val (.int (3 : Int32)), .val (.ref br)] [(.ref br)]))
    refine own_st (fun wt wk => XS.iconst X17.here hx rfl (hb hby at_114) wk) ?_
    show Fin1 p e below s (rm0Q Z i0 i1 i2 i3 i4 i5 h0 n0) room_1.cells room_1.slots (T17.setTop (mkF m 115 #[.val (.int i0), .val (.int i1), .val (.int i2), .val (.int i3), .val (.int i4), .val (.int i5), .val (.ref ba), .val (.int y0), .val (.int y1), .val (.int y2), .val (.int y3), .val (.ref bn), .val (.int (3 : Int32)), .val (.ref br)] [(.int (0 : Int32)), (.ref br)]))
    refine own_st (own_ld (j := (0 : Int32)) (v := (.int (own_pick i0 i1 i2 i3 y0))) X17 hx hZ e17 V_br ⟨by decide, by decide⟩ rfl (g := (mkF m 115 #[.val (.int i0), .val (.int i1), .val (.int i2), .val (.int i3), .val (.int i4), .val (.int i5), .val (.ref ba), .val (.int y0), .val (.int y1), .val (.int y2), .val (.int y3), .val (.ref bn), .val (.int (3 : Int32)), .val (.ref br)] [(.int (0 : Int32)), (.ref br)])) rfl rfl (Or.inl ⟨rfl, rfl⟩) (hb hby at_115)) ?_
    show Fin1 p e below s (rm0Q Z i0 i1 i2 i3 i4 i5 h0 n0) room_1.cells room_1.slots (T17.setTop (mkF m 116 #[.val (.int i0), .val (.int i1), .val (.int i2), .val (.int i3), .val (.int i4), .val (.int i5), .val (.ref ba), .val (.int y0), .val (.int y1), .val (.int y2), .val (.int y3), .val (.ref bn), .val (.int (3 : Int32)), .val (.ref br)] [(.int (own_pick i0 i1 i2 i3 y0))]))
    refine own_st (fun wt wk => XS.iloadN X17.here hx rfl (hb hby at_116) rfl wk) ?_
    show Fin1 p e below s (rm0Q Z i0 i1 i2 i3 i4 i5 h0 n0) room_1.cells room_1.slots (T17.setTop (mkF m 117 #[.val (.int i0), .val (.int i1), .val (.int i2), .val (.int i3), .val (.int i4), .val (.int i5), .val (.ref ba), .val (.int y0), .val (.int y1), .val (.int y2), .val (.int y3), .val (.ref bn), .val (.int (3 : Int32)), .val (.ref br)] [(.int i0), (.int (own_pick i0 i1 i2 i3 y0))]))
    refine own_st (fun wt wk => XS.iloadN X17.here hx rfl (hb hby at_117) rfl wk) ?_
    show Fin1 p e below s (rm0Q Z i0 i1 i2 i3 i4 i5 h0 n0) room_1.cells room_1.slots (T17.setTop (mkF m 118 #[.val (.int i0), .val (.int i1), .val (.int i2), .val (.int i3), .val (.int i4), .val (.int i5), .val (.ref ba), .val (.int y0), .val (.int y1), .val (.int y2), .val (.int y3), .val (.ref bn), .val (.int (3 : Int32)), .val (.ref br)] [(.int i1), (.int i0), (.int (own_pick i0 i1 i2 i3 y0))]))
    refine own_st (fun wt wk => XS.iloadN X17.here hx rfl (hb hby at_118) rfl wk) ?_
    show Fin1 p e below s (rm0Q Z i0 i1 i2 i3 i4 i5 h0 n0) room_1.cells room_1.slots (T17.setTop (mkF m 119 #[.val (.int i0), .val (.int i1), .val (.int i2), .val (.int i3), .val (.int i4), .val (.int i5), .val (.ref ba), .val (.int y0), .val (.int y1), .val (.int y2), .val (.int y3), .val (.ref bn), .val (.int (3 : Int32)), .val (.ref br)] [(.int i2), (.int i1), (.int i0), (.int (own_pick i0 i1 i2 i3 y0))]))
    refine own_st (fun wt wk => XS.iloadN X17.here hx rfl (hb hby at_119) rfl wk) ?_
    show Fin1 p e below s (rm0Q Z i0 i1 i2 i3 i4 i5 h0 n0) room_1.cells room_1.slots (T17.setTop (mkF m 120 #[.val (.int i0), .val (.int i1), .val (.int i2), .val (.int i3), .val (.int i4), .val (.int i5), .val (.ref ba), .val (.int y0), .val (.int y1), .val (.int y2), .val (.int y3), .val (.ref bn), .val (.int (3 : Int32)), .val (.ref br)] [(.int i3), (.int i2), (.int i1), (.int i0), (.int (own_pick i0 i1 i2 i3 y0))]))
    refine own_st (fun wt wk => XS.iload X17.here hx rfl (hb hby at_120) rfl wk) ?_
    show Fin1 p e below s (rm0Q Z i0 i1 i2 i3 i4 i5 h0 n0) room_1.cells room_1.slots (T17.setTop (mkF m 122 #[.val (.int i0), .val (.int i1), .val (.int i2), .val (.int i3), .val (.int i4), .val (.int i5), .val (.ref ba), .val (.int y0), .val (.int y1), .val (.int y2), .val (.int y3), .val (.ref bn), .val (.int (3 : Int32)), .val (.ref br)] [(.int y0), (.int i3), (.int i2), (.int i1), (.int i0), (.int (own_pick i0 i1 i2 i3 y0))]))
    obtain ⟨v18, T18, h18, L18, X18, e18, hQ18, st18⟩ := own_static X17 hx hZ hown (hw _ (List.mem_of_getElem? (i := 6) rfl)) (hw _ (List.mem_of_getElem? (i := 7) rfl)) (hw _ (List.mem_of_getElem? (i := 8) rfl)) (hw _ (List.mem_of_getElem? (i := 9) rfl)) (by decide) (rmP l Z a0 hw i0 i1 i2 i3 y0 h17 n0 Z0) e17 (g := (mkF m 122 #[.val (.int i0), .val (.int i1), .val (.int i2), .val (.int i3), .val (.int i4), .val (.int i5), .val (.ref ba), .val (.int y0), .val (.int y1), .val (.int y2), .val (.int y3), .val (.ref bn), .val (.int (3 : Int32)), .val (.ref br)] [(.int y0), (.int i3), (.int i2), (.int i1), (.int i0), (.int (own_pick i0 i1 i2 i3 y0))])) rfl (by rw [hml]; rfl) (argsL := [(.int i0), (.int i1), (.int i2), (.int i3), (.int y0)]) (rest := [(.int (own_pick i0 i1 i2 i3 y0))]) (lenOf pd_3 rfl) rfl (W := 1) (by show 2 * 0 + _ ≤ _; exact Nat.le_of_eq rfl) (hb hby at_122) (by decide) (by decide) (by decide) (by decide)
    obtain ⟨rfl, N18q, hh18⟩ := hQ18
    have N18 := Fr.app N17 N18q
    rw [hh18] at e18
    refine own_st st18 ?_
    show Fin1 p e below s (rm0Q Z i0 i1 i2 i3 i4 i5 h0 n0) room_1.cells room_1.slots (T18.setTop (mkF m 125 #[.val (.int i0), .val (.int i1), .val (.int i2), .val (.int i3), .val (.int i4), .val (.int i5), .val (.ref ba), .val (.int y0), .val (.int y1), .val (.int y2), .val (.int y3), .val (.ref bn), .val (.int (3 : Int32)), .val (.ref br)] [(.int (own_pick i0 i1 i2 i3 y0)), (.int (own_pick i0 i1 i2 i3 y0))]))
    refine own_st (fun wt wk => XS.icmpYes X18.here hx rfl (pc0 := 125) (pc' := 130) rfl (hb hby at_125) rfl (teq (rfl : (own_pick i0 i1 i2 i3 y0) = (own_pick i0 i1 i2 i3 y0))).1 (by decide) (by decide) wk) ?_
    show Fin1 p e below s (rm0Q Z i0 i1 i2 i3 i4 i5 h0 n0) room_1.cells room_1.slots (T18.setTop (mkF m 130 #[.val (.int i0), .val (.int i1), .val (.int i2), .val (.int i3), .val (.int i4), .val (.int i5), .val (.ref ba), .val (.int y0), .val (.int y1), .val (.int y2), .val (.int y3), .val (.ref bn), .val (.int (3 : Int32)), .val (.ref br)] []))
    refine own_st (fun wt wk => XS.iload X18.here hx rfl (hb hby at_130) rfl wk) ?_
    show Fin1 p e below s (rm0Q Z i0 i1 i2 i3 i4 i5 h0 n0) room_1.cells room_1.slots (T18.setTop (mkF m 132 #[.val (.int i0), .val (.int i1), .val (.int i2), .val (.int i3), .val (.int i4), .val (.int i5), .val (.ref ba), .val (.int y0), .val (.int y1), .val (.int y2), .val (.int y3), .val (.ref bn), .val (.int (3 : Int32)), .val (.ref br)] [(.int (3 : Int32))]))
    refine own_st (fun wt wk => XS.iconst X18.here hx rfl (hb hby at_132) wk) ?_
    show Fin1 p e below s (rm0Q Z i0 i1 i2 i3 i4 i5 h0 n0) room_1.cells room_1.slots (T18.setTop (mkF m 133 #[.val (.int i0), .val (.int i1), .val (.int i2), .val (.int i3), .val (.int i4), .val (.int i5), .val (.ref ba), .val (.int y0), .val (.int y1), .val (.int y2), .val (.int y3), .val (.ref bn), .val (.int (3 : Int32)), .val (.ref br)] [(.int (1 : Int32)), (.int (3 : Int32))]))
    refine own_st (fun wt wk => XS.icmpNo X18.here hx rfl (hb hby at_133) rfl (tlt (by decide)).2.2.2 wk) ?_
    show Fin1 p e below s (rm0Q Z i0 i1 i2 i3 i4 i5 h0 n0) room_1.cells room_1.slots (T18.setTop (mkF m 136 #[.val (.int i0), .val (.int i1), .val (.int i2), .val (.int i3), .val (.int i4), .val (.int i5), .val (.ref ba), .val (.int y0), .val (.int y1), .val (.int y2), .val (.int y3), .val (.ref bn), .val (.int (3 : Int32)), .val (.ref br)] []))
    refine own_st (fun wt wk => XS.aload X18.here hx rfl (hb hby at_136) rfl rfl wk) ?_
    show Fin1 p e below s (rm0Q Z i0 i1 i2 i3 i4 i5 h0 n0) room_1.cells room_1.slots (T18.setTop (mkF m 138 #[.val (.int i0), .val (.int i1), .val (.int i2), .val (.int i3), .val (.int i4), .val (.int i5), .val (.ref ba), .val (.int y0), .val (.int y1), .val (.int y2), .val (.int y3), .val (.ref bn), .val (.int (3 : Int32)), .val (.ref br)] [(.ref br)]))
    refine own_st (fun wt wk => XS.iconst X18.here hx rfl (hb hby at_138) wk) ?_
    show Fin1 p e below s (rm0Q Z i0 i1 i2 i3 i4 i5 h0 n0) room_1.cells room_1.slots (T18.setTop (mkF m 139 #[.val (.int i0), .val (.int i1), .val (.int i2), .val (.int i3), .val (.int i4), .val (.int i5), .val (.ref ba), .val (.int y0), .val (.int y1), .val (.int y2), .val (.int y3), .val (.ref bn), .val (.int (3 : Int32)), .val (.ref br)] [(.int (1 : Int32)), (.ref br)]))
    refine own_st (own_ld (j := (1 : Int32)) (v := (.int (own_pick i0 i1 i2 i3 y1))) X18 hx hZ e18 V_br ⟨by decide, by decide⟩ rfl (g := (mkF m 139 #[.val (.int i0), .val (.int i1), .val (.int i2), .val (.int i3), .val (.int i4), .val (.int i5), .val (.ref ba), .val (.int y0), .val (.int y1), .val (.int y2), .val (.int y3), .val (.ref bn), .val (.int (3 : Int32)), .val (.ref br)] [(.int (1 : Int32)), (.ref br)])) rfl rfl (Or.inl ⟨rfl, rfl⟩) (hb hby at_139)) ?_
    show Fin1 p e below s (rm0Q Z i0 i1 i2 i3 i4 i5 h0 n0) room_1.cells room_1.slots (T18.setTop (mkF m 140 #[.val (.int i0), .val (.int i1), .val (.int i2), .val (.int i3), .val (.int i4), .val (.int i5), .val (.ref ba), .val (.int y0), .val (.int y1), .val (.int y2), .val (.int y3), .val (.ref bn), .val (.int (3 : Int32)), .val (.ref br)] [(.int (own_pick i0 i1 i2 i3 y1))]))
    refine own_st (fun wt wk => XS.iloadN X18.here hx rfl (hb hby at_140) rfl wk) ?_
    show Fin1 p e below s (rm0Q Z i0 i1 i2 i3 i4 i5 h0 n0) room_1.cells room_1.slots (T18.setTop (mkF m 141 #[.val (.int i0), .val (.int i1), .val (.int i2), .val (.int i3), .val (.int i4), .val (.int i5), .val (.ref ba), .val (.int y0), .val (.int y1), .val (.int y2), .val (.int y3), .val (.ref bn), .val (.int (3 : Int32)), .val (.ref br)] [(.int i0), (.int (own_pick i0 i1 i2 i3 y1))]))
    refine own_st (fun wt wk => XS.iloadN X18.here hx rfl (hb hby at_141) rfl wk) ?_
    show Fin1 p e below s (rm0Q Z i0 i1 i2 i3 i4 i5 h0 n0) room_1.cells room_1.slots (T18.setTop (mkF m 142 #[.val (.int i0), .val (.int i1), .val (.int i2), .val (.int i3), .val (.int i4), .val (.int i5), .val (.ref ba), .val (.int y0), .val (.int y1), .val (.int y2), .val (.int y3), .val (.ref bn), .val (.int (3 : Int32)), .val (.ref br)] [(.int i1), (.int i0), (.int (own_pick i0 i1 i2 i3 y1))]))
    refine own_st (fun wt wk => XS.iloadN X18.here hx rfl (hb hby at_142) rfl wk) ?_
    show Fin1 p e below s (rm0Q Z i0 i1 i2 i3 i4 i5 h0 n0) room_1.cells room_1.slots (T18.setTop (mkF m 143 #[.val (.int i0), .val (.int i1), .val (.int i2), .val (.int i3), .val (.int i4), .val (.int i5), .val (.ref ba), .val (.int y0), .val (.int y1), .val (.int y2), .val (.int y3), .val (.ref bn), .val (.int (3 : Int32)), .val (.ref br)] [(.int i2), (.int i1), (.int i0), (.int (own_pick i0 i1 i2 i3 y1))]))
    refine own_st (fun wt wk => XS.iloadN X18.here hx rfl (hb hby at_143) rfl wk) ?_
    show Fin1 p e below s (rm0Q Z i0 i1 i2 i3 i4 i5 h0 n0) room_1.cells room_1.slots (T18.setTop (mkF m 144 #[.val (.int i0), .val (.int i1), .val (.int i2), .val (.int i3), .val (.int i4), .val (.int i5), .val (.ref ba), .val (.int y0), .val (.int y1), .val (.int y2), .val (.int y3), .val (.ref bn), .val (.int (3 : Int32)), .val (.ref br)] [(.int i3), (.int i2), (.int i1), (.int i0), (.int (own_pick i0 i1 i2 i3 y1))]))
    refine own_st (fun wt wk => XS.iload X18.here hx rfl (hb hby at_144) rfl wk) ?_
    show Fin1 p e below s (rm0Q Z i0 i1 i2 i3 i4 i5 h0 n0) room_1.cells room_1.slots (T18.setTop (mkF m 146 #[.val (.int i0), .val (.int i1), .val (.int i2), .val (.int i3), .val (.int i4), .val (.int i5), .val (.ref ba), .val (.int y0), .val (.int y1), .val (.int y2), .val (.int y3), .val (.ref bn), .val (.int (3 : Int32)), .val (.ref br)] [(.int y1), (.int i3), (.int i2), (.int i1), (.int i0), (.int (own_pick i0 i1 i2 i3 y1))]))
    obtain ⟨v19, T19, h19, L19, X19, e19, hQ19, st19⟩ := own_static X18 hx hZ hown (hw _ (List.mem_of_getElem? (i := 6) rfl)) (hw _ (List.mem_of_getElem? (i := 7) rfl)) (hw _ (List.mem_of_getElem? (i := 8) rfl)) (hw _ (List.mem_of_getElem? (i := 9) rfl)) (by decide) (rmP l Z a0 hw i0 i1 i2 i3 y1 h17 n0 Z0) e18 (g := (mkF m 146 #[.val (.int i0), .val (.int i1), .val (.int i2), .val (.int i3), .val (.int i4), .val (.int i5), .val (.ref ba), .val (.int y0), .val (.int y1), .val (.int y2), .val (.int y3), .val (.ref bn), .val (.int (3 : Int32)), .val (.ref br)] [(.int y1), (.int i3), (.int i2), (.int i1), (.int i0), (.int (own_pick i0 i1 i2 i3 y1))])) rfl (by rw [hml]; rfl) (argsL := [(.int i0), (.int i1), (.int i2), (.int i3), (.int y1)]) (rest := [(.int (own_pick i0 i1 i2 i3 y1))]) (lenOf pd_3 rfl) rfl (W := 1) (by show 2 * 0 + _ ≤ _; exact Nat.le_of_eq rfl) (hb hby at_146) (by decide) (by decide) (by decide) (by decide)
    obtain ⟨rfl, N19q, hh19⟩ := hQ19
    have N19 := Fr.app N18 N19q
    rw [hh19] at e19
    refine own_st st19 ?_
    show Fin1 p e below s (rm0Q Z i0 i1 i2 i3 i4 i5 h0 n0) room_1.cells room_1.slots (T19.setTop (mkF m 149 #[.val (.int i0), .val (.int i1), .val (.int i2), .val (.int i3), .val (.int i4), .val (.int i5), .val (.ref ba), .val (.int y0), .val (.int y1), .val (.int y2), .val (.int y3), .val (.ref bn), .val (.int (3 : Int32)), .val (.ref br)] [(.int (own_pick i0 i1 i2 i3 y1)), (.int (own_pick i0 i1 i2 i3 y1))]))
    refine own_st (fun wt wk => XS.icmpYes X19.here hx rfl (pc0 := 149) (pc' := 154) rfl (hb hby at_149) rfl (teq (rfl : (own_pick i0 i1 i2 i3 y1) = (own_pick i0 i1 i2 i3 y1))).1 (by decide) (by decide) wk) ?_
    show Fin1 p e below s (rm0Q Z i0 i1 i2 i3 i4 i5 h0 n0) room_1.cells room_1.slots (T19.setTop (mkF m 154 #[.val (.int i0), .val (.int i1), .val (.int i2), .val (.int i3), .val (.int i4), .val (.int i5), .val (.ref ba), .val (.int y0), .val (.int y1), .val (.int y2), .val (.int y3), .val (.ref bn), .val (.int (3 : Int32)), .val (.ref br)] []))
    refine own_st (fun wt wk => XS.iload X19.here hx rfl (hb hby at_154) rfl wk) ?_
    show Fin1 p e below s (rm0Q Z i0 i1 i2 i3 i4 i5 h0 n0) room_1.cells room_1.slots (T19.setTop (mkF m 156 #[.val (.int i0), .val (.int i1), .val (.int i2), .val (.int i3), .val (.int i4), .val (.int i5), .val (.ref ba), .val (.int y0), .val (.int y1), .val (.int y2), .val (.int y3), .val (.ref bn), .val (.int (3 : Int32)), .val (.ref br)] [(.int (3 : Int32))]))
    refine own_st (fun wt wk => XS.iconst X19.here hx rfl (hb hby at_156) wk) ?_
    show Fin1 p e below s (rm0Q Z i0 i1 i2 i3 i4 i5 h0 n0) room_1.cells room_1.slots (T19.setTop (mkF m 157 #[.val (.int i0), .val (.int i1), .val (.int i2), .val (.int i3), .val (.int i4), .val (.int i5), .val (.ref ba), .val (.int y0), .val (.int y1), .val (.int y2), .val (.int y3), .val (.ref bn), .val (.int (3 : Int32)), .val (.ref br)] [(.int (2 : Int32)), (.int (3 : Int32))]))
    refine own_st (fun wt wk => XS.icmpNo X19.here hx rfl (hb hby at_157) rfl (tlt (by decide)).2.2.2 wk) ?_
    show Fin1 p e below s (rm0Q Z i0 i1 i2 i3 i4 i5 h0 n0) room_1.cells room_1.slots (T19.setTop (mkF m 160 #[.val (.int i0), .val (.int i1), .val (.int i2), .val (.int i3), .val (.int i4), .val (.int i5), .val (.ref ba), .val (.int y0), .val (.int y1), .val (.int y2), .val (.int y3), .val (.ref bn), .val (.int (3 : Int32)), .val (.ref br)] []))
    refine own_st (fun wt wk => XS.aload X19.here hx rfl (hb hby at_160) rfl rfl wk) ?_
    show Fin1 p e below s (rm0Q Z i0 i1 i2 i3 i4 i5 h0 n0) room_1.cells room_1.slots (T19.setTop (mkF m 162 #[.val (.int i0), .val (.int i1), .val (.int i2), .val (.int i3), .val (.int i4), .val (.int i5), .val (.ref ba), .val (.int y0), .val (.int y1), .val (.int y2), .val (.int y3), .val (.ref bn), .val (.int (3 : Int32)), .val (.ref br)] [(.ref br)]))
    refine own_st (fun wt wk => XS.iconst X19.here hx rfl (hb hby at_162) wk) ?_
    show Fin1 p e below s (rm0Q Z i0 i1 i2 i3 i4 i5 h0 n0) room_1.cells room_1.slots (T19.setTop (mkF m 163 #[.val (.int i0), .val (.int i1), .val (.int i2), .val (.int i3), .val (.int i4), .val (.int i5), .val (.ref ba), .val (.int y0), .val (.int y1), .val (.int y2), .val (.int y3), .val (.ref bn), .val (.int (3 : Int32)), .val (.ref br)] [(.int (2 : Int32)), (.ref br)]))
    refine own_st (own_ld (j := (2 : Int32)) (v := (.int (own_pick i0 i1 i2 i3 y2))) X19 hx hZ e19 V_br ⟨by decide, by decide⟩ rfl (g := (mkF m 163 #[.val (.int i0), .val (.int i1), .val (.int i2), .val (.int i3), .val (.int i4), .val (.int i5), .val (.ref ba), .val (.int y0), .val (.int y1), .val (.int y2), .val (.int y3), .val (.ref bn), .val (.int (3 : Int32)), .val (.ref br)] [(.int (2 : Int32)), (.ref br)])) rfl rfl (Or.inl ⟨rfl, rfl⟩) (hb hby at_163)) ?_
    show Fin1 p e below s (rm0Q Z i0 i1 i2 i3 i4 i5 h0 n0) room_1.cells room_1.slots (T19.setTop (mkF m 164 #[.val (.int i0), .val (.int i1), .val (.int i2), .val (.int i3), .val (.int i4), .val (.int i5), .val (.ref ba), .val (.int y0), .val (.int y1), .val (.int y2), .val (.int y3), .val (.ref bn), .val (.int (3 : Int32)), .val (.ref br)] [(.int (own_pick i0 i1 i2 i3 y2))]))
    refine own_st (fun wt wk => XS.iloadN X19.here hx rfl (hb hby at_164) rfl wk) ?_
    show Fin1 p e below s (rm0Q Z i0 i1 i2 i3 i4 i5 h0 n0) room_1.cells room_1.slots (T19.setTop (mkF m 165 #[.val (.int i0), .val (.int i1), .val (.int i2), .val (.int i3), .val (.int i4), .val (.int i5), .val (.ref ba), .val (.int y0), .val (.int y1), .val (.int y2), .val (.int y3), .val (.ref bn), .val (.int (3 : Int32)), .val (.ref br)] [(.int i0), (.int (own_pick i0 i1 i2 i3 y2))]))
    refine own_st (fun wt wk => XS.iloadN X19.here hx rfl (hb hby at_165) rfl wk) ?_
    show Fin1 p e below s (rm0Q Z i0 i1 i2 i3 i4 i5 h0 n0) room_1.cells room_1.slots (T19.setTop (mkF m 166 #[.val (.int i0), .val (.int i1), .val (.int i2), .val (.int i3), .val (.int i4), .val (.int i5), .val (.ref ba), .val (.int y0), .val (.int y1), .val (.int y2), .val (.int y3), .val (.ref bn), .val (.int (3 : Int32)), .val (.ref br)] [(.int i1), (.int i0), (.int (own_pick i0 i1 i2 i3 y2))]))
    refine own_st (fun wt wk => XS.iloadN X19.here hx rfl (hb hby at_166) rfl wk) ?_
    show Fin1 p e below s (rm0Q Z i0 i1 i2 i3 i4 i5 h0 n0) room_1.cells room_1.slots (T19.setTop (mkF m 167 #[.val (.int i0), .val (.int i1), .val (.int i2), .val (.int i3), .val (.int i4), .val (.int i5), .val (.ref ba), .val (.int y0), .val (.int y1), .val (.int y2), .val (.int y3), .val (.ref bn), .val (.int (3 : Int32)), .val (.ref br)] [(.int i2), (.int i1), (.int i0), (.int (own_pick i0 i1 i2 i3 y2))]))
    refine own_st (fun wt wk => XS.iloadN X19.here hx rfl (hb hby at_167) rfl wk) ?_
    show Fin1 p e below s (rm0Q Z i0 i1 i2 i3 i4 i5 h0 n0) room_1.cells room_1.slots (T19.setTop (mkF m 168 #[.val (.int i0), .val (.int i1), .val (.int i2), .val (.int i3), .val (.int i4), .val (.int i5), .val (.ref ba), .val (.int y0), .val (.int y1), .val (.int y2), .val (.int y3), .val (.ref bn), .val (.int (3 : Int32)), .val (.ref br)] [(.int i3), (.int i2), (.int i1), (.int i0), (.int (own_pick i0 i1 i2 i3 y2))]))
    refine own_st (fun wt wk => XS.iload X19.here hx rfl (hb hby at_168) rfl wk) ?_
    show Fin1 p e below s (rm0Q Z i0 i1 i2 i3 i4 i5 h0 n0) room_1.cells room_1.slots (T19.setTop (mkF m 170 #[.val (.int i0), .val (.int i1), .val (.int i2), .val (.int i3), .val (.int i4), .val (.int i5), .val (.ref ba), .val (.int y0), .val (.int y1), .val (.int y2), .val (.int y3), .val (.ref bn), .val (.int (3 : Int32)), .val (.ref br)] [(.int y2), (.int i3), (.int i2), (.int i1), (.int i0), (.int (own_pick i0 i1 i2 i3 y2))]))
    obtain ⟨v20, T20, h20, L20, X20, e20, hQ20, st20⟩ := own_static X19 hx hZ hown (hw _ (List.mem_of_getElem? (i := 6) rfl)) (hw _ (List.mem_of_getElem? (i := 7) rfl)) (hw _ (List.mem_of_getElem? (i := 8) rfl)) (hw _ (List.mem_of_getElem? (i := 9) rfl)) (by decide) (rmP l Z a0 hw i0 i1 i2 i3 y2 h17 n0 Z0) e19 (g := (mkF m 170 #[.val (.int i0), .val (.int i1), .val (.int i2), .val (.int i3), .val (.int i4), .val (.int i5), .val (.ref ba), .val (.int y0), .val (.int y1), .val (.int y2), .val (.int y3), .val (.ref bn), .val (.int (3 : Int32)), .val (.ref br)] [(.int y2), (.int i3), (.int i2), (.int i1), (.int i0), (.int (own_pick i0 i1 i2 i3 y2))])) rfl (by rw [hml]; rfl) (argsL := [(.int i0), (.int i1), (.int i2), (.int i3), (.int y2)]) (rest := [(.int (own_pick i0 i1 i2 i3 y2))]) (lenOf pd_3 rfl) rfl (W := 1) (by show 2 * 0 + _ ≤ _; exact Nat.le_of_eq rfl) (hb hby at_170) (by decide) (by decide) (by decide) (by decide)
    obtain ⟨rfl, N20q, hh20⟩ := hQ20
    have N20 := Fr.app N19 N20q
    rw [hh20] at e20
    refine own_st st20 ?_
    show Fin1 p e below s (rm0Q Z i0 i1 i2 i3 i4 i5 h0 n0) room_1.cells room_1.slots (T20.setTop (mkF m 173 #[.val (.int i0), .val (.int i1), .val (.int i2), .val (.int i3), .val (.int i4), .val (.int i5), .val (.ref ba), .val (.int y0), .val (.int y1), .val (.int y2), .val (.int y3), .val (.ref bn), .val (.int (3 : Int32)), .val (.ref br)] [(.int (own_pick i0 i1 i2 i3 y2)), (.int (own_pick i0 i1 i2 i3 y2))]))
    refine own_st (fun wt wk => XS.icmpYes X20.here hx rfl (pc0 := 173) (pc' := 178) rfl (hb hby at_173) rfl (teq (rfl : (own_pick i0 i1 i2 i3 y2) = (own_pick i0 i1 i2 i3 y2))).1 (by decide) (by decide) wk) ?_
    show Fin1 p e below s (rm0Q Z i0 i1 i2 i3 i4 i5 h0 n0) room_1.cells room_1.slots (T20.setTop (mkF m 178 #[.val (.int i0), .val (.int i1), .val (.int i2), .val (.int i3), .val (.int i4), .val (.int i5), .val (.ref ba), .val (.int y0), .val (.int y1), .val (.int y2), .val (.int y3), .val (.ref bn), .val (.int (3 : Int32)), .val (.ref br)] []))
    refine own_st (fun wt wk => XS.iload X20.here hx rfl (hb hby at_178) rfl wk) ?_
    show Fin1 p e below s (rm0Q Z i0 i1 i2 i3 i4 i5 h0 n0) room_1.cells room_1.slots (T20.setTop (mkF m 180 #[.val (.int i0), .val (.int i1), .val (.int i2), .val (.int i3), .val (.int i4), .val (.int i5), .val (.ref ba), .val (.int y0), .val (.int y1), .val (.int y2), .val (.int y3), .val (.ref bn), .val (.int (3 : Int32)), .val (.ref br)] [(.int (3 : Int32))]))
    refine own_st (fun wt wk => XS.iconst X20.here hx rfl (hb hby at_180) wk) ?_
    show Fin1 p e below s (rm0Q Z i0 i1 i2 i3 i4 i5 h0 n0) room_1.cells room_1.slots (T20.setTop (mkF m 181 #[.val (.int i0), .val (.int i1), .val (.int i2), .val (.int i3), .val (.int i4), .val (.int i5), .val (.ref ba), .val (.int y0), .val (.int y1), .val (.int y2), .val (.int y3), .val (.ref bn), .val (.int (3 : Int32)), .val (.ref br)] [(.int (3 : Int32)), (.int (3 : Int32))]))
    refine own_st (fun wt wk => XS.icmpYes X20.here hx rfl (pc0 := 181) (pc' := 202) rfl (hb hby at_181) rfl (flt (by decide)).2.2.2 (by decide) (by decide) wk) ?_
    show Fin1 p e below s (rm0Q Z i0 i1 i2 i3 i4 i5 h0 n0) room_1.cells room_1.slots (T20.setTop (mkF m 202 #[.val (.int i0), .val (.int i1), .val (.int i2), .val (.int i3), .val (.int i4), .val (.int i5), .val (.ref ba), .val (.int y0), .val (.int y1), .val (.int y2), .val (.int y3), .val (.ref bn), .val (.int (3 : Int32)), .val (.ref br)] []))
    refine own_st (fun wt wk => XS.aload X20.here hx rfl (hb hby at_202) rfl rfl wk) ?_
    show Fin1 p e below s (rm0Q Z i0 i1 i2 i3 i4 i5 h0 n0) room_1.cells room_1.slots (T20.setTop (mkF m 204 #[.val (.int i0), .val (.int i1), .val (.int i2), .val (.int i3), .val (.int i4), .val (.int i5), .val (.ref ba), .val (.int y0), .val (.int y1), .val (.int y2), .val (.int y3), .val (.ref bn), .val (.int (3 : Int32)), .val (.ref br)] [(.ref ba)]))
    refine own_st (fun wt wk => XS.iconst X20.here hx rfl (hb hby at_204) wk) ?_
    show Fin1 p e below s (rm0Q Z i0 i1 i2 i3 i4 i5 h0 n0) room_1.cells room_1.slots (T20.setTop (mkF m 205 #[.val (.int i0), .val (.int i1), .val (.int i2), .val (.int i3), .val (.int i4), .val (.int i5), .val (.ref ba), .val (.int y0), .val (.int y1), .val (.int y2), .val (.int y3), .val (.ref bn), .val (.int (3 : Int32)), .val (.ref br)] [(.int (0 : Int32)), (.ref ba)]))
    refine own_st (own_ld (j := (0 : Int32)) (v := (.int i0)) X20 hx hZ e20 V_ba ⟨by decide, by decide⟩ rfl (g := (mkF m 205 #[.val (.int i0), .val (.int i1), .val (.int i2), .val (.int i3), .val (.int i4), .val (.int i5), .val (.ref ba), .val (.int y0), .val (.int y1), .val (.int y2), .val (.int y3), .val (.ref bn), .val (.int (3 : Int32)), .val (.ref br)] [(.int (0 : Int32)), (.ref ba)])) rfl rfl (Or.inl ⟨rfl, rfl⟩) (hb hby at_205)) ?_
    show Fin1 p e below s (rm0Q Z i0 i1 i2 i3 i4 i5 h0 n0) room_1.cells room_1.slots (T20.setTop (mkF m 206 #[.val (.int i0), .val (.int i1), .val (.int i2), .val (.int i3), .val (.int i4), .val (.int i5), .val (.ref ba), .val (.int y0), .val (.int y1), .val (.int y2), .val (.int y3), .val (.ref bn), .val (.int (3 : Int32)), .val (.ref br)] [(.int i0)]))
    refine own_st (fun wt wk => XS.iloadN X20.here hx rfl (hb hby at_206) rfl wk) ?_
    show Fin1 p e below s (rm0Q Z i0 i1 i2 i3 i4 i5 h0 n0) room_1.cells room_1.slots (T20.setTop (mkF m 207 #[.val (.int i0), .val (.int i1), .val (.int i2), .val (.int i3), .val (.int i4), .val (.int i5), .val (.ref ba), .val (.int y0), .val (.int y1), .val (.int y2), .val (.int y3), .val (.ref bn), .val (.int (3 : Int32)), .val (.ref br)] [(.int i0), (.int i0)]))
    refine own_st (fun wt wk => XS.icmpNo X20.here hx rfl (hb hby at_207) rfl (teq (rfl : i0 = i0)).2 wk) ?_
    show Fin1 p e below s (rm0Q Z i0 i1 i2 i3 i4 i5 h0 n0) room_1.cells room_1.slots (T20.setTop (mkF m 210 #[.val (.int i0), .val (.int i1), .val (.int i2), .val (.int i3), .val (.int i4), .val (.int i5), .val (.ref ba), .val (.int y0), .val (.int y1), .val (.int y2), .val (.int y3), .val (.ref bn), .val (.int (3 : Int32)), .val (.ref br)] []))
    refine own_st (fun wt wk => XS.aload X20.here hx rfl (hb hby at_210) rfl rfl wk) ?_
    show Fin1 p e below s (rm0Q Z i0 i1 i2 i3 i4 i5 h0 n0) room_1.cells room_1.slots (T20.setTop (mkF m 212 #[.val (.int i0), .val (.int i1), .val (.int i2), .val (.int i3), .val (.int i4), .val (.int i5), .val (.ref ba), .val (.int y0), .val (.int y1), .val (.int y2), .val (.int y3), .val (.ref bn), .val (.int (3 : Int32)), .val (.ref br)] [(.ref ba)]))
    refine own_st (fun wt wk => XS.iconst X20.here hx rfl (hb hby at_212) wk) ?_
    show Fin1 p e below s (rm0Q Z i0 i1 i2 i3 i4 i5 h0 n0) room_1.cells room_1.slots (T20.setTop (mkF m 213 #[.val (.int i0), .val (.int i1), .val (.int i2), .val (.int i3), .val (.int i4), .val (.int i5), .val (.ref ba), .val (.int y0), .val (.int y1), .val (.int y2), .val (.int y3), .val (.ref bn), .val (.int (3 : Int32)), .val (.ref br)] [(.int (1 : Int32)), (.ref ba)]))
    refine own_st (own_ld (j := (1 : Int32)) (v := (.int i1)) X20 hx hZ e20 V_ba ⟨by decide, by decide⟩ rfl (g := (mkF m 213 #[.val (.int i0), .val (.int i1), .val (.int i2), .val (.int i3), .val (.int i4), .val (.int i5), .val (.ref ba), .val (.int y0), .val (.int y1), .val (.int y2), .val (.int y3), .val (.ref bn), .val (.int (3 : Int32)), .val (.ref br)] [(.int (1 : Int32)), (.ref ba)])) rfl rfl (Or.inl ⟨rfl, rfl⟩) (hb hby at_213)) ?_
    show Fin1 p e below s (rm0Q Z i0 i1 i2 i3 i4 i5 h0 n0) room_1.cells room_1.slots (T20.setTop (mkF m 214 #[.val (.int i0), .val (.int i1), .val (.int i2), .val (.int i3), .val (.int i4), .val (.int i5), .val (.ref ba), .val (.int y0), .val (.int y1), .val (.int y2), .val (.int y3), .val (.ref bn), .val (.int (3 : Int32)), .val (.ref br)] [(.int i1)]))
    refine own_st (fun wt wk => XS.iloadN X20.here hx rfl (hb hby at_214) rfl wk) ?_
    show Fin1 p e below s (rm0Q Z i0 i1 i2 i3 i4 i5 h0 n0) room_1.cells room_1.slots (T20.setTop (mkF m 215 #[.val (.int i0), .val (.int i1), .val (.int i2), .val (.int i3), .val (.int i4), .val (.int i5), .val (.ref ba), .val (.int y0), .val (.int y1), .val (.int y2), .val (.int y3), .val (.ref bn), .val (.int (3 : Int32)), .val (.ref br)] [(.int i1), (.int i1)]))
    refine own_st (fun wt wk => XS.icmpNo X20.here hx rfl (hb hby at_215) rfl (teq (rfl : i1 = i1)).2 wk) ?_
    show Fin1 p e below s (rm0Q Z i0 i1 i2 i3 i4 i5 h0 n0) room_1.cells room_1.slots (T20.setTop (mkF m 218 #[.val (.int i0), .val (.int i1), .val (.int i2), .val (.int i3), .val (.int i4), .val (.int i5), .val (.ref ba), .val (.int y0), .val (.int y1), .val (.int y2), .val (.int y3), .val (.ref bn), .val (.int (3 : Int32)), .val (.ref br)] []))
    refine own_st (fun wt wk => XS.aload X20.here hx rfl (hb hby at_218) rfl rfl wk) ?_
    show Fin1 p e below s (rm0Q Z i0 i1 i2 i3 i4 i5 h0 n0) room_1.cells room_1.slots (T20.setTop (mkF m 220 #[.val (.int i0), .val (.int i1), .val (.int i2), .val (.int i3), .val (.int i4), .val (.int i5), .val (.ref ba), .val (.int y0), .val (.int y1), .val (.int y2), .val (.int y3), .val (.ref bn), .val (.int (3 : Int32)), .val (.ref br)] [(.ref ba)]))
    refine own_st (fun wt wk => XS.iconst X20.here hx rfl (hb hby at_220) wk) ?_
    show Fin1 p e below s (rm0Q Z i0 i1 i2 i3 i4 i5 h0 n0) room_1.cells room_1.slots (T20.setTop (mkF m 221 #[.val (.int i0), .val (.int i1), .val (.int i2), .val (.int i3), .val (.int i4), .val (.int i5), .val (.ref ba), .val (.int y0), .val (.int y1), .val (.int y2), .val (.int y3), .val (.ref bn), .val (.int (3 : Int32)), .val (.ref br)] [(.int (2 : Int32)), (.ref ba)]))
    refine own_st (own_ld (j := (2 : Int32)) (v := (.int i2)) X20 hx hZ e20 V_ba ⟨by decide, by decide⟩ rfl (g := (mkF m 221 #[.val (.int i0), .val (.int i1), .val (.int i2), .val (.int i3), .val (.int i4), .val (.int i5), .val (.ref ba), .val (.int y0), .val (.int y1), .val (.int y2), .val (.int y3), .val (.ref bn), .val (.int (3 : Int32)), .val (.ref br)] [(.int (2 : Int32)), (.ref ba)])) rfl rfl (Or.inl ⟨rfl, rfl⟩) (hb hby at_221)) ?_
    show Fin1 p e below s (rm0Q Z i0 i1 i2 i3 i4 i5 h0 n0) room_1.cells room_1.slots (T20.setTop (mkF m 222 #[.val (.int i0), .val (.int i1), .val (.int i2), .val (.int i3), .val (.int i4), .val (.int i5), .val (.ref ba), .val (.int y0), .val (.int y1), .val (.int y2), .val (.int y3), .val (.ref bn), .val (.int (3 : Int32)), .val (.ref br)] [(.int i2)]))
    refine own_st (fun wt wk => XS.iloadN X20.here hx rfl (hb hby at_222) rfl wk) ?_
    show Fin1 p e below s (rm0Q Z i0 i1 i2 i3 i4 i5 h0 n0) room_1.cells room_1.slots (T20.setTop (mkF m 223 #[.val (.int i0), .val (.int i1), .val (.int i2), .val (.int i3), .val (.int i4), .val (.int i5), .val (.ref ba), .val (.int y0), .val (.int y1), .val (.int y2), .val (.int y3), .val (.ref bn), .val (.int (3 : Int32)), .val (.ref br)] [(.int i2), (.int i2)]))
    refine own_st (fun wt wk => XS.icmpNo X20.here hx rfl (hb hby at_223) rfl (teq (rfl : i2 = i2)).2 wk) ?_
    show Fin1 p e below s (rm0Q Z i0 i1 i2 i3 i4 i5 h0 n0) room_1.cells room_1.slots (T20.setTop (mkF m 226 #[.val (.int i0), .val (.int i1), .val (.int i2), .val (.int i3), .val (.int i4), .val (.int i5), .val (.ref ba), .val (.int y0), .val (.int y1), .val (.int y2), .val (.int y3), .val (.ref bn), .val (.int (3 : Int32)), .val (.ref br)] []))
    refine own_st (fun wt wk => XS.aload X20.here hx rfl (hb hby at_226) rfl rfl wk) ?_
    show Fin1 p e below s (rm0Q Z i0 i1 i2 i3 i4 i5 h0 n0) room_1.cells room_1.slots (T20.setTop (mkF m 228 #[.val (.int i0), .val (.int i1), .val (.int i2), .val (.int i3), .val (.int i4), .val (.int i5), .val (.ref ba), .val (.int y0), .val (.int y1), .val (.int y2), .val (.int y3), .val (.ref bn), .val (.int (3 : Int32)), .val (.ref br)] [(.ref ba)]))
    refine own_st (fun wt wk => XS.iconst X20.here hx rfl (hb hby at_228) wk) ?_
    show Fin1 p e below s (rm0Q Z i0 i1 i2 i3 i4 i5 h0 n0) room_1.cells room_1.slots (T20.setTop (mkF m 229 #[.val (.int i0), .val (.int i1), .val (.int i2), .val (.int i3), .val (.int i4), .val (.int i5), .val (.ref ba), .val (.int y0), .val (.int y1), .val (.int y2), .val (.int y3), .val (.ref bn), .val (.int (3 : Int32)), .val (.ref br)] [(.int (3 : Int32)), (.ref ba)]))
    refine own_st (own_ld (j := (3 : Int32)) (v := (.int i3)) X20 hx hZ e20 V_ba ⟨by decide, by decide⟩ rfl (g := (mkF m 229 #[.val (.int i0), .val (.int i1), .val (.int i2), .val (.int i3), .val (.int i4), .val (.int i5), .val (.ref ba), .val (.int y0), .val (.int y1), .val (.int y2), .val (.int y3), .val (.ref bn), .val (.int (3 : Int32)), .val (.ref br)] [(.int (3 : Int32)), (.ref ba)])) rfl rfl (Or.inl ⟨rfl, rfl⟩) (hb hby at_229)) ?_
    show Fin1 p e below s (rm0Q Z i0 i1 i2 i3 i4 i5 h0 n0) room_1.cells room_1.slots (T20.setTop (mkF m 230 #[.val (.int i0), .val (.int i1), .val (.int i2), .val (.int i3), .val (.int i4), .val (.int i5), .val (.ref ba), .val (.int y0), .val (.int y1), .val (.int y2), .val (.int y3), .val (.ref bn), .val (.int (3 : Int32)), .val (.ref br)] [(.int i3)]))
    refine own_st (fun wt wk => XS.iloadN X20.here hx rfl (hb hby at_230) rfl wk) ?_
    show Fin1 p e below s (rm0Q Z i0 i1 i2 i3 i4 i5 h0 n0) room_1.cells room_1.slots (T20.setTop (mkF m 231 #[.val (.int i0), .val (.int i1), .val (.int i2), .val (.int i3), .val (.int i4), .val (.int i5), .val (.ref ba), .val (.int y0), .val (.int y1), .val (.int y2), .val (.int y3), .val (.ref bn), .val (.int (3 : Int32)), .val (.ref br)] [(.int i3), (.int i3)]))
    refine own_st (fun wt wk => XS.icmpNo X20.here hx rfl (hb hby at_231) rfl (teq (rfl : i3 = i3)).2 wk) ?_
    show Fin1 p e below s (rm0Q Z i0 i1 i2 i3 i4 i5 h0 n0) room_1.cells room_1.slots (T20.setTop (mkF m 234 #[.val (.int i0), .val (.int i1), .val (.int i2), .val (.int i3), .val (.int i4), .val (.int i5), .val (.ref ba), .val (.int y0), .val (.int y1), .val (.int y2), .val (.int y3), .val (.ref bn), .val (.int (3 : Int32)), .val (.ref br)] []))
    refine own_st (fun wt wk => XS.aload X20.here hx rfl (hb hby at_234) rfl rfl wk) ?_
    show Fin1 p e below s (rm0Q Z i0 i1 i2 i3 i4 i5 h0 n0) room_1.cells room_1.slots (T20.setTop (mkF m 236 #[.val (.int i0), .val (.int i1), .val (.int i2), .val (.int i3), .val (.int i4), .val (.int i5), .val (.ref ba), .val (.int y0), .val (.int y1), .val (.int y2), .val (.int y3), .val (.ref bn), .val (.int (3 : Int32)), .val (.ref br)] [(.ref bn)]))
    refine own_st (fun wt wk => XS.iconst X20.here hx rfl (hb hby at_236) wk) ?_
    show Fin1 p e below s (rm0Q Z i0 i1 i2 i3 i4 i5 h0 n0) room_1.cells room_1.slots (T20.setTop (mkF m 237 #[.val (.int i0), .val (.int i1), .val (.int i2), .val (.int i3), .val (.int i4), .val (.int i5), .val (.ref ba), .val (.int y0), .val (.int y1), .val (.int y2), .val (.int y3), .val (.ref bn), .val (.int (3 : Int32)), .val (.ref br)] [(.int (0 : Int32)), (.ref bn)]))
    refine own_st (own_ld (j := (0 : Int32)) (v := (.int y0)) X20 hx hZ e20 V_bn ⟨by decide, by decide⟩ rfl (g := (mkF m 237 #[.val (.int i0), .val (.int i1), .val (.int i2), .val (.int i3), .val (.int i4), .val (.int i5), .val (.ref ba), .val (.int y0), .val (.int y1), .val (.int y2), .val (.int y3), .val (.ref bn), .val (.int (3 : Int32)), .val (.ref br)] [(.int (0 : Int32)), (.ref bn)])) rfl rfl (Or.inl ⟨rfl, rfl⟩) (hb hby at_237)) ?_
    show Fin1 p e below s (rm0Q Z i0 i1 i2 i3 i4 i5 h0 n0) room_1.cells room_1.slots (T20.setTop (mkF m 238 #[.val (.int i0), .val (.int i1), .val (.int i2), .val (.int i3), .val (.int i4), .val (.int i5), .val (.ref ba), .val (.int y0), .val (.int y1), .val (.int y2), .val (.int y3), .val (.ref bn), .val (.int (3 : Int32)), .val (.ref br)] [(.int y0)]))
    refine own_st (fun wt wk => XS.iload X20.here hx rfl (hb hby at_238) rfl wk) ?_
    show Fin1 p e below s (rm0Q Z i0 i1 i2 i3 i4 i5 h0 n0) room_1.cells room_1.slots (T20.setTop (mkF m 240 #[.val (.int i0), .val (.int i1), .val (.int i2), .val (.int i3), .val (.int i4), .val (.int i5), .val (.ref ba), .val (.int y0), .val (.int y1), .val (.int y2), .val (.int y3), .val (.ref bn), .val (.int (3 : Int32)), .val (.ref br)] [(.int y0), (.int y0)]))
    refine own_st (fun wt wk => XS.icmpNo X20.here hx rfl (hb hby at_240) rfl (teq (rfl : y0 = y0)).2 wk) ?_
    show Fin1 p e below s (rm0Q Z i0 i1 i2 i3 i4 i5 h0 n0) room_1.cells room_1.slots (T20.setTop (mkF m 243 #[.val (.int i0), .val (.int i1), .val (.int i2), .val (.int i3), .val (.int i4), .val (.int i5), .val (.ref ba), .val (.int y0), .val (.int y1), .val (.int y2), .val (.int y3), .val (.ref bn), .val (.int (3 : Int32)), .val (.ref br)] []))
    refine own_st (fun wt wk => XS.aload X20.here hx rfl (hb hby at_243) rfl rfl wk) ?_
    show Fin1 p e below s (rm0Q Z i0 i1 i2 i3 i4 i5 h0 n0) room_1.cells room_1.slots (T20.setTop (mkF m 245 #[.val (.int i0), .val (.int i1), .val (.int i2), .val (.int i3), .val (.int i4), .val (.int i5), .val (.ref ba), .val (.int y0), .val (.int y1), .val (.int y2), .val (.int y3), .val (.ref bn), .val (.int (3 : Int32)), .val (.ref br)] [(.ref bn)]))
    refine own_st (fun wt wk => XS.iconst X20.here hx rfl (hb hby at_245) wk) ?_
    show Fin1 p e below s (rm0Q Z i0 i1 i2 i3 i4 i5 h0 n0) room_1.cells room_1.slots (T20.setTop (mkF m 246 #[.val (.int i0), .val (.int i1), .val (.int i2), .val (.int i3), .val (.int i4), .val (.int i5), .val (.ref ba), .val (.int y0), .val (.int y1), .val (.int y2), .val (.int y3), .val (.ref bn), .val (.int (3 : Int32)), .val (.ref br)] [(.int (1 : Int32)), (.ref bn)]))
    refine own_st (own_ld (j := (1 : Int32)) (v := (.int y1)) X20 hx hZ e20 V_bn ⟨by decide, by decide⟩ rfl (g := (mkF m 246 #[.val (.int i0), .val (.int i1), .val (.int i2), .val (.int i3), .val (.int i4), .val (.int i5), .val (.ref ba), .val (.int y0), .val (.int y1), .val (.int y2), .val (.int y3), .val (.ref bn), .val (.int (3 : Int32)), .val (.ref br)] [(.int (1 : Int32)), (.ref bn)])) rfl rfl (Or.inl ⟨rfl, rfl⟩) (hb hby at_246)) ?_
    show Fin1 p e below s (rm0Q Z i0 i1 i2 i3 i4 i5 h0 n0) room_1.cells room_1.slots (T20.setTop (mkF m 247 #[.val (.int i0), .val (.int i1), .val (.int i2), .val (.int i3), .val (.int i4), .val (.int i5), .val (.ref ba), .val (.int y0), .val (.int y1), .val (.int y2), .val (.int y3), .val (.ref bn), .val (.int (3 : Int32)), .val (.ref br)] [(.int y1)]))
    refine own_st (fun wt wk => XS.iload X20.here hx rfl (hb hby at_247) rfl wk) ?_
    show Fin1 p e below s (rm0Q Z i0 i1 i2 i3 i4 i5 h0 n0) room_1.cells room_1.slots (T20.setTop (mkF m 249 #[.val (.int i0), .val (.int i1), .val (.int i2), .val (.int i3), .val (.int i4), .val (.int i5), .val (.ref ba), .val (.int y0), .val (.int y1), .val (.int y2), .val (.int y3), .val (.ref bn), .val (.int (3 : Int32)), .val (.ref br)] [(.int y1), (.int y1)]))
    refine own_st (fun wt wk => XS.icmpNo X20.here hx rfl (hb hby at_249) rfl (teq (rfl : y1 = y1)).2 wk) ?_
    show Fin1 p e below s (rm0Q Z i0 i1 i2 i3 i4 i5 h0 n0) room_1.cells room_1.slots (T20.setTop (mkF m 252 #[.val (.int i0), .val (.int i1), .val (.int i2), .val (.int i3), .val (.int i4), .val (.int i5), .val (.ref ba), .val (.int y0), .val (.int y1), .val (.int y2), .val (.int y3), .val (.ref bn), .val (.int (3 : Int32)), .val (.ref br)] []))
    refine own_st (fun wt wk => XS.aload X20.here hx rfl (hb hby at_252) rfl rfl wk) ?_
    show Fin1 p e below s (rm0Q Z i0 i1 i2 i3 i4 i5 h0 n0) room_1.cells room_1.slots (T20.setTop (mkF m 254 #[.val (.int i0), .val (.int i1), .val (.int i2), .val (.int i3), .val (.int i4), .val (.int i5), .val (.ref ba), .val (.int y0), .val (.int y1), .val (.int y2), .val (.int y3), .val (.ref bn), .val (.int (3 : Int32)), .val (.ref br)] [(.ref bn)]))
    refine own_st (fun wt wk => XS.iconst X20.here hx rfl (hb hby at_254) wk) ?_
    show Fin1 p e below s (rm0Q Z i0 i1 i2 i3 i4 i5 h0 n0) room_1.cells room_1.slots (T20.setTop (mkF m 255 #[.val (.int i0), .val (.int i1), .val (.int i2), .val (.int i3), .val (.int i4), .val (.int i5), .val (.ref ba), .val (.int y0), .val (.int y1), .val (.int y2), .val (.int y3), .val (.ref bn), .val (.int (3 : Int32)), .val (.ref br)] [(.int (2 : Int32)), (.ref bn)]))
    refine own_st (own_ld (j := (2 : Int32)) (v := (.int y2)) X20 hx hZ e20 V_bn ⟨by decide, by decide⟩ rfl (g := (mkF m 255 #[.val (.int i0), .val (.int i1), .val (.int i2), .val (.int i3), .val (.int i4), .val (.int i5), .val (.ref ba), .val (.int y0), .val (.int y1), .val (.int y2), .val (.int y3), .val (.ref bn), .val (.int (3 : Int32)), .val (.ref br)] [(.int (2 : Int32)), (.ref bn)])) rfl rfl (Or.inl ⟨rfl, rfl⟩) (hb hby at_255)) ?_
    show Fin1 p e below s (rm0Q Z i0 i1 i2 i3 i4 i5 h0 n0) room_1.cells room_1.slots (T20.setTop (mkF m 256 #[.val (.int i0), .val (.int i1), .val (.int i2), .val (.int i3), .val (.int i4), .val (.int i5), .val (.ref ba), .val (.int y0), .val (.int y1), .val (.int y2), .val (.int y3), .val (.ref bn), .val (.int (3 : Int32)), .val (.ref br)] [(.int y2)]))
    refine own_st (fun wt wk => XS.iload X20.here hx rfl (hb hby at_256) rfl wk) ?_
    show Fin1 p e below s (rm0Q Z i0 i1 i2 i3 i4 i5 h0 n0) room_1.cells room_1.slots (T20.setTop (mkF m 258 #[.val (.int i0), .val (.int i1), .val (.int i2), .val (.int i3), .val (.int i4), .val (.int i5), .val (.ref ba), .val (.int y0), .val (.int y1), .val (.int y2), .val (.int y3), .val (.ref bn), .val (.int (3 : Int32)), .val (.ref br)] [(.int y2), (.int y2)]))
    refine own_st (fun wt wk => XS.icmpNo X20.here hx rfl (hb hby at_258) rfl (teq (rfl : y2 = y2)).2 wk) ?_
    show Fin1 p e below s (rm0Q Z i0 i1 i2 i3 i4 i5 h0 n0) room_1.cells room_1.slots (T20.setTop (mkF m 261 #[.val (.int i0), .val (.int i1), .val (.int i2), .val (.int i3), .val (.int i4), .val (.int i5), .val (.ref ba), .val (.int y0), .val (.int y1), .val (.int y2), .val (.int y3), .val (.ref bn), .val (.int (3 : Int32)), .val (.ref br)] []))
    refine own_st (fun wt wk => XS.aload X20.here hx rfl (hb hby at_261) rfl rfl wk) ?_
    show Fin1 p e below s (rm0Q Z i0 i1 i2 i3 i4 i5 h0 n0) room_1.cells room_1.slots (T20.setTop (mkF m 263 #[.val (.int i0), .val (.int i1), .val (.int i2), .val (.int i3), .val (.int i4), .val (.int i5), .val (.ref ba), .val (.int y0), .val (.int y1), .val (.int y2), .val (.int y3), .val (.ref bn), .val (.int (3 : Int32)), .val (.ref br)] [(.ref bn)]))
    refine own_st (fun wt wk => XS.iconst X20.here hx rfl (hb hby at_263) wk) ?_
    show Fin1 p e below s (rm0Q Z i0 i1 i2 i3 i4 i5 h0 n0) room_1.cells room_1.slots (T20.setTop (mkF m 264 #[.val (.int i0), .val (.int i1), .val (.int i2), .val (.int i3), .val (.int i4), .val (.int i5), .val (.ref ba), .val (.int y0), .val (.int y1), .val (.int y2), .val (.int y3), .val (.ref bn), .val (.int (3 : Int32)), .val (.ref br)] [(.int (3 : Int32)), (.ref bn)]))
    refine own_st (own_ld (j := (3 : Int32)) (v := (.int y3)) X20 hx hZ e20 V_bn ⟨by decide, by decide⟩ rfl (g := (mkF m 264 #[.val (.int i0), .val (.int i1), .val (.int i2), .val (.int i3), .val (.int i4), .val (.int i5), .val (.ref ba), .val (.int y0), .val (.int y1), .val (.int y2), .val (.int y3), .val (.ref bn), .val (.int (3 : Int32)), .val (.ref br)] [(.int (3 : Int32)), (.ref bn)])) rfl rfl (Or.inl ⟨rfl, rfl⟩) (hb hby at_264)) ?_
    show Fin1 p e below s (rm0Q Z i0 i1 i2 i3 i4 i5 h0 n0) room_1.cells room_1.slots (T20.setTop (mkF m 265 #[.val (.int i0), .val (.int i1), .val (.int i2), .val (.int i3), .val (.int i4), .val (.int i5), .val (.ref ba), .val (.int y0), .val (.int y1), .val (.int y2), .val (.int y3), .val (.ref bn), .val (.int (3 : Int32)), .val (.ref br)] [(.int y3)]))
    refine own_st (fun wt wk => XS.iload X20.here hx rfl (hb hby at_265) rfl wk) ?_
    show Fin1 p e below s (rm0Q Z i0 i1 i2 i3 i4 i5 h0 n0) room_1.cells room_1.slots (T20.setTop (mkF m 267 #[.val (.int i0), .val (.int i1), .val (.int i2), .val (.int i3), .val (.int i4), .val (.int i5), .val (.ref ba), .val (.int y0), .val (.int y1), .val (.int y2), .val (.int y3), .val (.ref bn), .val (.int (3 : Int32)), .val (.ref br)] [(.int y3), (.int y3)]))
    refine own_st (fun wt wk => XS.icmpNo X20.here hx rfl (hb hby at_267) rfl (teq (rfl : y3 = y3)).2 wk) ?_
    show Fin1 p e below s (rm0Q Z i0 i1 i2 i3 i4 i5 h0 n0) room_1.cells room_1.slots (T20.setTop (mkF m 270 #[.val (.int i0), .val (.int i1), .val (.int i2), .val (.int i3), .val (.int i4), .val (.int i5), .val (.ref ba), .val (.int y0), .val (.int y1), .val (.int y2), .val (.int y3), .val (.ref bn), .val (.int (3 : Int32)), .val (.ref br)] []))
    refine own_st (fun wt wk => XS.iconst X20.here hx rfl (hb hby at_270) wk) ?_
    show Fin1 p e below s (rm0Q Z i0 i1 i2 i3 i4 i5 h0 n0) room_1.cells room_1.slots (T20.setTop (mkF m 271 #[.val (.int i0), .val (.int i1), .val (.int i2), .val (.int i3), .val (.int i4), .val (.int i5), .val (.ref ba), .val (.int y0), .val (.int y1), .val (.int y2), .val (.int y3), .val (.ref bn), .val (.int (3 : Int32)), .val (.ref br)] [(.int (1 : Int32))]))
    refine own_st (fun wt wk => XS.goto X20.here hx rfl (pc0 := 271) (pc' := 275) rfl (hb hby at_271) (by decide) (by decide) wk) ?_
    show Fin1 p e below s (rm0Q Z i0 i1 i2 i3 i4 i5 h0 n0) room_1.cells room_1.slots (T20.setTop (mkF m 275 #[.val (.int i0), .val (.int i1), .val (.int i2), .val (.int i3), .val (.int i4), .val (.int i5), .val (.ref ba), .val (.int y0), .val (.int y1), .val (.int y2), .val (.int y3), .val (.ref bn), .val (.int (3 : Int32)), .val (.ref br)] [(.int (1 : Int32))]))
    exact own_retZ X20 hx hlk hret (hb hby at_275) (z := (1 : Int32)) (by decide) (by rw [e20]; exact ⟨rfl, N20⟩) (by decide) (by decide)
  · show Fin1 p e below s (rm0Q Z i0 i1 i2 i3 i4 i5 h0 n0) room_1.cells room_1.slots (T10.setTop (mkF m 84 #[.val (.int i0), .val (.int i1), .val (.int i2), .val (.int i3), .val (.int i4), .val (.int i5), .val (.ref ba), .val (.int y0), .val (.int y1), .val (.int y2), .val (.int y3), .val (.ref bn), .unset, .unset] [(.int (4 : Int32))]))
    refine own_st (fun wt wk => XS.istore X10.here hx rfl (hb hby at_84) rfl (l' := #[.val (.int i0), .val (.int i1), .val (.int i2), .val (.int i3), .val (.int i4), .val (.int i5), .val (.ref ba), .val (.int y0), .val (.int y1), .val (.int y2), .val (.int y3), .val (.ref bn), .val (.int (4 : Int32)), .unset]) rfl wk) ?_
    show Fin1 p e below s (rm0Q Z i0 i1 i2 i3 i4 i5 h0 n0) room_1.cells room_1.slots (T10.setTop (mkF m 86 #[.val (.int i0), .val (.int i1), .val (.int i2), .val (.int i3), .val (.int i4), .val (.int i5), .val (.ref ba), .val (.int y0), .val (.int y1), .val (.int y2), .val (.int y3), .val (.ref bn), .val (.int (4 : Int32)), .unset] []))
    refine own_st (fun wt wk => XS.aload X10.here hx rfl (hb hby at_86) rfl rfl wk) ?_
    show Fin1 p e below s (rm0Q Z i0 i1 i2 i3 i4 i5 h0 n0) room_1.cells room_1.slots (T10.setTop (mkF m 88 #[.val (.int i0), .val (.int i1), .val (.int i2), .val (.int i3), .val (.int i4), .val (.int i5), .val (.ref ba), .val (.int y0), .val (.int y1), .val (.int y2), .val (.int y3), .val (.ref bn), .val (.int (4 : Int32)), .unset] [(.ref ba)]))
    refine own_st (fun wt wk => XS.aload X10.here hx rfl (hb hby at_88) rfl rfl wk) ?_
    show Fin1 p e below s (rm0Q Z i0 i1 i2 i3 i4 i5 h0 n0) room_1.cells room_1.slots (T10.setTop (mkF m 90 #[.val (.int i0), .val (.int i1), .val (.int i2), .val (.int i3), .val (.int i4), .val (.int i5), .val (.ref ba), .val (.int y0), .val (.int y1), .val (.int y2), .val (.int y3), .val (.ref bn), .val (.int (4 : Int32)), .unset] [(.ref bn), (.ref ba)]))
    refine own_st (fun wt wk => XS.iload X10.here hx rfl (hb hby at_90) rfl wk) ?_
    show Fin1 p e below s (rm0Q Z i0 i1 i2 i3 i4 i5 h0 n0) room_1.cells room_1.slots (T10.setTop (mkF m 92 #[.val (.int i0), .val (.int i1), .val (.int i2), .val (.int i3), .val (.int i4), .val (.int i5), .val (.ref ba), .val (.int y0), .val (.int y1), .val (.int y2), .val (.int y3), .val (.ref bn), .val (.int (4 : Int32)), .unset] [(.int (4 : Int32)), (.ref bn), (.ref ba)]))
    obtain ⟨v21, T21, h21, L21, X21, e21, hQ21, st21⟩ := own_static X10 hx hZ hown (hw _ (List.mem_of_getElem? (i := 2) rfl)) (hw _ (List.mem_of_getElem? (i := 3) rfl)) (hw _ (List.mem_of_getElem? (i := 4) rfl)) (hw _ (List.mem_of_getElem? (i := 5) rfl)) (by decide) (rmS4 l Z a0 hw ba bn kc1 kc6 i0 i1 i2 i3 y0 y1 y2 y3 h10 n0 Z0 V_ba V_bn r0 r1 r2 r3) e10 (g := (mkF m 92 #[.val (.int i0), .val (.int i1), .val (.int i2), .val (.int i3), .val (.int i4), .val (.int i5), .val (.ref ba), .val (.int y0), .val (.int y1), .val (.int y2), .val (.int y3), .val (.ref bn), .val (.int (4 : Int32)), .unset] [(.int (4 : Int32)), (.ref bn), (.ref ba)])) rfl (by rw [hml]; rfl) (argsL := [(.ref ba), (.ref bn), (.int (4 : Int32))]) (rest := []) (lenOf pd_2 rfl) rfl (W := 0) (by show 2 * 0 + _ ≤ _; exact Nat.le_of_eq rfl) (hb hby at_92) (by decide) (by decide) (by decide) (by decide)
    obtain ⟨br, kr, rfl, N21q, hs, K21, V_br⟩ := hQ21
    have N21 := Fr.app N10 N21q
    have ne_ba_br : ba ≠ br := Nat.ne_of_lt (Nat.lt_of_lt_of_le V_ba.lt hs)
    have ne_bn_br : bn ≠ br := Nat.ne_of_lt (Nat.lt_of_lt_of_le V_bn.lt hs)
    have g_br : n0 ≤ br := Nat.le_trans Z0 hs
    have Z0 := Nat.le_trans Z0 K21.1
    have V_ba := V_ba.keep K21 nin0
    have V_bn := V_bn.keep K21 nin0
    refine own_st st21 ?_
    show Fin1 p e below s (rm0Q Z i0 i1 i2 i3 i4 i5 h0 n0) room_1.cells room_1.slots (T21.setTop (mkF m 95 #[.val (.int i0), .val (.int i1), .val (.int i2), .val (.int i3), .val (.int i4), .val (.int i5), .val (.ref ba), .val (.int y0), .val (.int y1), .val (.int y2), .val (.int y3), .val (.ref bn), .val (.int (4 : Int32)), .unset] [(.ref br)]))
    refine own_st (fun wt wk => XS.astore X21.here hx rfl (hb hby at_95) rfl rfl (l' := #[.val (.int i0), .val (.int i1), .val (.int i2), .val (.int i3), .val (.int i4), .val (.int i5), .val (.ref ba), .val (.int y0), .val (.int y1), .val (.int y2), .val (.int y3), .val (.ref bn), .val (.int (4 : Int32)), .val (.ref br)]) rfl wk) ?_
    show Fin1 p e below s (rm0Q Z i0 i1 i2 i3 i4 i5 h0 n0) room_1.cells room_1.slots (T21.setTop (mkF m 97 #[.val (.int i0), .val (.int i1), .val (.int i2), .val (.int i3), .val (.int i4), .val (.int i5), .val (.ref ba), .val (.int y0), .val (.int y1), .val (.int y2), .val (.int y3), .val (.ref bn), .val (.int (4 : Int32)), .val (.ref br)] []))
    refine own_st (fun wt wk => XS.aload X21.here hx rfl (hb hby at_97) rfl rfl wk) ?_
    show Fin1 p e below s (rm0Q Z i0 i1 i2 i3 i4 i5 h0 n0) room_1.cells room_1.slots (T21.setTop (mkF m 99 #[.val (.int i0), .val (.int i1), .val (.int i2), .val (.int i3), .val (.int i4), .val (.int i5), .val (.ref ba), .val (.int y0), .val (.int y1), .val (.int y2), .val (.int y3), .val (.ref bn), .val (.int (4 : Int32)), .val (.ref br)] [(.ref br)]))
    refine own_st (own_len X21 hx hZ e21 V_br (g := (mkF m 99 #[.val (.int i0), .val (.int i1), .val (.int i2), .val (.int i3), .val (.int i4), .val (.int i5), .val (.ref ba), .val (.int y0), .val (.int y1), .val (.int y2), .val (.int y3), .val (.ref bn), .val (.int (4 : Int32)), .val (.ref br)] [(.ref br)])) rfl rfl (hb hby at_99)) ?_
    show Fin1 p e below s (rm0Q Z i0 i1 i2 i3 i4 i5 h0 n0) room_1.cells room_1.slots (T21.setTop (mkF m 100 #[.val (.int i0), .val (.int i1), .val (.int i2), .val (.int i3), .val (.int i4), .val (.int i5), .val (.ref ba), .val (.int y0), .val (.int y1), .val (.int y2), .val (.int y3), .val (.ref bn), .val (.int (4 : Int32)), .val (.ref br)] [(.int (4 : Int32))]))
    refine own_st (fun wt wk => XS.iload X21.here hx rfl (hb hby at_100) rfl wk) ?_
    show Fin1 p e below s (rm0Q Z i0 i1 i2 i3 i4 i5 h0 n0) room_1.cells room_1.slots (T21.setTop (mkF m 102 #[.val (.int i0), .val (.int i1), .val (.int i2), .val (.int i3), .val (.int i4), .val (.int i5), .val (.ref ba), .val (.int y0), .val (.int y1), .val (.int y2), .val (.int y3), .val (.ref bn), .val (.int (4 : Int32)), .val (.ref br)] [(.int (4 : Int32)), (.int (4 : Int32))]))
    refine own_st (fun wt wk => XS.icmpYes X21.here hx rfl (pc0 := 102) (pc' := 107) rfl (hb hby at_102) rfl (teq (by decide)).1 (by decide) (by decide) wk) ?_
    show Fin1 p e below s (rm0Q Z i0 i1 i2 i3 i4 i5 h0 n0) room_1.cells room_1.slots (T21.setTop (mkF m 107 #[.val (.int i0), .val (.int i1), .val (.int i2), .val (.int i3), .val (.int i4), .val (.int i5), .val (.ref ba), .val (.int y0), .val (.int y1), .val (.int y2), .val (.int y3), .val (.ref bn), .val (.int (4 : Int32)), .val (.ref br)] []))
    refine own_st (fun wt wk => XS.iload X21.here hx rfl (hb hby at_107) rfl wk) ?_
    show Fin1 p e below s (rm0Q Z i0 i1 i2 i3 i4 i5 h0 n0) room_1.cells room_1.slots (T21.setTop (mkF m 109 #[.val (.int i0), .val (.int i1), .val (.int i2), .val (.int i3), .val (.int i4), .val (.int i5), .val (.ref ba), .val (.int y0), .val (.int y1), .val (.int y2), .val (.int y3), .val (.ref bn), .val (.int (4 : Int32)), .val (.ref br)] [(.int (4 : Int32))]))
    refine own_st (fun wt wk => XS.ifNo X21.here hx rfl (hb hby at_109) rfl ((if0 _ _).trans (tlt (by decide)).2.2.2) wk) ?_
    show Fin1 p e below s (rm0Q Z i0 i1 i2 i3 i4 i5 h0 n0) room_1.cells room_1.slots (T21.setTop (mkF m 112 #[.val (.int i0), .val (.int i1), .val (.int i2), .val (.int i3), .val (.int i4), .val (.int i5), .val (.ref ba), .val (.int y0), .val (.int y1), .val (.int y2), .val (.int y3), .val (.ref bn), .val (.int (4 : Int32)), .val (.ref br)] []))
    refine own_st (fun wt wk => XS.aload X21.here hx rfl (hb hby at_112) rfl rfl wk) ?_
    show Fin1 p e below s (rm0Q Z i0 i1 i2 i3 i4 i5 h0 n0) room_1.cells room_1.slots (T21.setTop (mkF m 114 #[.val (.int i0), .val (.int i1), .val (.int i2), .val (.int i3), .val (.int i4), .val (.int i5), .val (.ref ba), .val (.int y0), .val (.int y1), .val (.int y2), .val (.int y3), .val (.ref bn), .val (.int (4 : Int32)), .val (.ref br)] [(.ref br)]))
    refine own_st (fun wt wk => XS.iconst X21.here hx rfl (hb hby at_114) wk) ?_
    show Fin1 p e below s (rm0Q Z i0 i1 i2 i3 i4 i5 h0 n0) room_1.cells room_1.slots (T21.setTop (mkF m 115 #[.val (.int i0), .val (.int i1), .val (.int i2), .val (.int i3), .val (.int i4), .val (.int i5), .val (.ref ba), .val (.int y0), .val (.int y1), .val (.int y2), .val (.int y3), .val (.ref bn), .val (.int (4 : Int32)), .val (.ref br)] [(.int (0 : Int32)), (.ref br)]))
    refine own_st (own_ld (j := (0 : Int32)) (v := (.int (own_pick i0 i1 i2 i3 y0))) X21 hx hZ e21 V_br ⟨by decide, by decide⟩ rfl (g := (mkF m 115 #[.val (.int i0), .val (.int i1), .val (.int i2), .val (.int i3), .val (.int i4), .val (.int i5), .val (.ref ba), .val (.int y0), .val (.int y1), .val (.int y2), .val (.int y3), .val (.ref bn), .val (.int (4 : Int32)), .val (.ref br)] [(.int (0 : Int32)), (.ref br)])) rfl rfl (Or.inl ⟨rfl, rfl⟩) (hb hby at_115)) ?_
    show Fin1 p e below s (rm0Q Z i0 i1 i2 i3 i4 i5 h0 n0) room_1.cells room_1.slots (T21.setTop (mkF m 116 #[.val (.int i0), .val (.int i1), .val (.int i2), .val (.int i3), .val (.int i4), .val (.int i5), .val (.ref ba), .val (.int y0), .val (.int y1), .val (.int y2), .val (.int y3), .val (.ref bn), .val (.int (4 : Int32)), .val (.ref br)] [(.int (own_pick i0 i1 i2 i3 y0))]))
    refine own_st (fun wt wk => XS.iloadN X21.here hx rfl (hb hby at_116) rfl wk) ?_
    show Fin1 p e below s (rm0Q Z i0 i1 i2 i3 i4 i5 h0 n0) room_1.cells room_1.slots (T21.setTop (mkF m 117 #[.val (.int i0), .val (.int i1), .val (.int i2), .val (.int i3), .val (.int i4), .val (.int i5), .val (.ref ba), .val (.int y0), .val (.int y1), .val (.int y2), .val (.int y3), .val (.ref bn), .val (.int (4 : Int32)), .val (.ref br)] [(.int i0), (.int (own_pick i0 i1 i2 i3 y0))]))
    refine own_st (fun wt wk => XS.iloadN X21.here hx rfl (hb hby at_117) rfl wk) ?_
    show Fin1 p e below s (rm0Q Z i0 i1 i2 i3 i4 i5 h0 n0) room_1.cells room_1.slots (T21.setTop (mkF m 118 #[.val (.int i0), .val (.int i1), .val (.int i2), .val (.int i3), .val (.int i4), .val (.int i5), .val (.ref ba), .val (.int y0), .val (.int y1), .val (.int y2), .val (.int y3), .val (.ref bn), .val (.int (4 : Int32)), .val (.ref br)] [(.int i1), (.int i0), (.int (own_pick i0 i1 i2 i3 y0))]))
    refine own_st (fun wt wk => XS.iloadN X21.here hx rfl (hb hby at_118) rfl wk) ?_
    show Fin1 p e below s (rm0Q Z i0 i1 i2 i3 i4 i5 h0 n0) room_1.cells room_1.slots (T21.setTop (mkF m 119 #[.val (.int i0), .val (.int i1), .val (.int i2), .val (.int i3), .val (.int i4), .val (.int i5), .val (.ref ba), .val (.int y0), .val (.int y1), .val (.int y2), .val (.int y3), .val (.ref bn), .val (.int (4 : Int32)), .val (.ref br)] [(.int i2), (.int i1), (.int i0), (.int (own_pick i0 i1 i2 i3 y0))]))
    refine own_st (fun wt wk => XS.iloadN X21.here hx rfl (hb hby at_119) rfl wk) ?_
    show Fin1 p e below s (rm0Q Z i0 i1 i2 i3 i4 i5 h0 n0) room_1.cells room_1.slots (T21.setTop (mkF m 120 #[.val (.int i0), .val (.int i1), .val (.int i2), .val (.int i3), .val (.int i4), .val (.int i5), .val (.ref ba), .val (.int y0), .val (.int y1), .val (.int y2), .val (.int y3), .val (.ref bn), .val (.int (4 : Int32)), .val (.ref br)] [(.int i3), (.int i2), (.int i1), (.int i0), (.int (own_pick i0 i1 i2 i3 y0))]))
    refine own_st (fun wt wk => XS.iload X21.here hx rfl (hb hby at_120) rfl wk) ?_
    show Fin1 p e below s (rm0Q Z i0 i1 i2 i3 i4 i5 h0 n0) room_1.cells room_1.slots (T21.setTop (mkF m 122 #[.val (.int i0), .val (.int i1), .val (.int i2), .val (.int i3), .val (.int i4), .val (.int i5), .val (.ref ba), .val (.int y0), .val (.int y1), .val (.int y2), .val (.int y3), .val (.ref bn), .val (.int (4 : Int32)), .val (.ref br)] [(.int y0), (.int i3), (.int i2), (.int i1), (.int i0), (.int (own_pick i0 i1 i2 i3 y0))]))
    obtain ⟨v22, T22, h22, L22, X22, e22, hQ22, st22⟩ := own_static X21 hx hZ hown (hw _ (List.mem_of_getElem? (i := 6) rfl)) (hw _ (List.mem_of_getElem? (i := 7) rfl)) (hw _ (List.mem_of_getElem? (i := 8) rfl)) (hw _ (List.mem_of_getElem? (i := 9) rfl)) (by decide) (rmP l Z a0 hw i0 i1 i2 i3 y0 h21 n0 Z0) e21 (g := (mkF m 122 #[.val (.int i0), .val (.int i1), .val (.int i2), .val (.int i3), .val (.int i4), .val (.int i5), .val (.ref ba), .val (.int y0), .val (.int y1), .val (.int y2), .val (.int y3), .val (.ref bn), .val (.int (4 : Int32)), .val (.ref br)] [(.int y0), (.int i3), (.int i2), (.int i1), (.int i0), (.int (own_pick i0 i1 i2 i3 y0))])) rfl (by rw [hml]; rfl) (argsL := [(.int i0), (.int i1), (.int i2), (.int i3), (.int y0)]) (rest := [(.int (own_pick i0 i1 i2 i3 y0))]) (lenOf pd_3 rfl) rfl (W := 1) (by show 2 * 0 + _ ≤ _; exact Nat.le_of_eq rfl) (hb hby at_122) (by decide) (by decide) (by decide) (by decide)
    obtain ⟨rfl, N22q, hh22⟩ := hQ22
    have N22 := Fr.app N21 N22q
    rw [hh22] at e22
    refine own_st st22 ?_
    show Fin1 p e below s (rm0Q Z i0 i1 i2 i3 i4 i5 h0 n0) room_1.cells room_1.slots (T22.setTop (mkF m 125 #[.val (.int i0), .val (.int i1), .val (.int i2), .val (.int i3), .val (.int i4), .val (.int i5), .val (.ref ba), .val (.int y0), .val (.int y1), .val (.int y2), .val (.int y3), .val (.ref bn), .val (.int (4 : Int32)), .val (.ref br)] [(.int (own_pick i0 i1 i2 i3 y0)), (.int (own_pick i0 i1 i2 i3 y0))]))
    refine own_st (fun wt wk => XS.icmpYes X22.here hx rfl (pc0 := 125) (pc' := 130) rfl (hb hby at_125) rfl (teq (rfl : (own_pick i0 i1 i2 i3 y0) = (own_pick i0 i1 i2 i3 y0))).1 (by decide) (by decide) wk) ?_
    show Fin1 p e below s (rm0Q Z i0 i1 i2 i3 i4 i5 h0 n0) room_1.cells room_1.slots (T22.setTop (mkF m 130 #[.val (.int i0), .val (.int i1), .val (.int i2), .val (.int i3), .val (.int i4), .val (.int i5), .val (.ref ba), .val (.int y0), .val (.int y1), .val (.int y2), .val (.int y3), .val (.ref bn), .val (.int (4 : Int32)), .val (.ref br)] []))
    refine own_st (fun wt wk => XS.iload X22.here hx rfl (hb hby at_130) rfl wk) ?_
    show Fin1 p e below s (rm0Q Z i0 i1 i2 i3 i4 i5 h0 n0) room_1.cells room_1.slots (T22.setTop (mkF m 132 #[.val (.int i0), .val (.int i1), .val (.int i2), .val (.int i3), .val (.int i4), .val (.int i5), .val (.ref ba), .val (.int y0), .val (.int y1), .val (.int y2), .val (.int y3), .val (.ref bn), .val (.int (4 : Int32)), .val (.ref br)] [(.int (4 : Int32))]))
    refine own_st (fun wt wk => XS.iconst X22.here hx rfl (hb hby at_132) wk) ?_
    show Fin1 p e below s (rm0Q Z i0 i1 i2 i3 i4 i5 h0 n0) room_1.cells room_1.slots (T22.setTop (mkF m 133 #[.val (.int i0), .val (.int i1), .val (.int i2), .val (.int i3), .val (.int i4), .val (.int i5), .val (.ref ba), .val (.int y0), .val (.int y1), .val (.int y2), .val (.int y3), .val (.ref bn), .val (.int (4 : Int32)), .val (.ref br)] [(.int (1 : Int32)), (.int (4 : Int32))]))
    refine own_st (fun wt wk => XS.icmpNo X22.here hx rfl (hb hby at_133) rfl (tlt (by decide)).2.2.2 wk) ?_
    show Fin1 p e below s (rm0Q Z i0 i1 i2 i3 i4 i5 h0 n0) room_1.cells room_1.slots (T22.setTop (mkF m 136 #[.val (.int i0), .val (.int i1), .val (.int i2), .val (.int i3), .val (.int i4), .val (.int i5), .val (.ref ba), .val (.int y0), .val (.int y1), .val (.int y2), .val (.int y3), .val (.ref bn), .val (.int (4 : Int32)), .val (.ref br)] []))
    refine own_st (fun wt wk => XS.aload X22.here hx rfl (hb hby at_136) rfl rfl wk) ?_
    show Fin1 p e below s (rm0Q Z i0 i1 i2 i3 i4 i5 h0 n0) room_1.cells room_1.slots (T22.setTop (mkF m 138 #[.val (.int i0), .val (.int i1), .val (.int i2), .val (.int i3), .val (.int i4), .val (.int i5), .val (.ref ba), .val (.int y0), .val (.int y1), .val (.int y2), .val (.int y3), .val (.ref bn), .val (.int (4 : Int32)), .val (.ref br)] [(.ref br)]))
    refine own_st (fun wt wk => XS.iconst X22.here hx rfl (hb hby at_138) wk) ?_
    show Fin1 p e below s (rm0Q Z i0 i1 i2 i3 i4 i5 h0 n0) room_1.cells room_1.slots (T22.setTop (mkF m 139 #[.val (.int i0), .val (.int i1), .val (.int i2), .val (.int i3), .val (.int i4), .val (.int i5), .val (.ref ba), .val (.int y0), .val (.int y1), .val (.int y2), .val (.int y3), .val (.ref bn), .val (.int (4 : Int32)), .val (.ref br)] [(.int (1 : Int32)), (.ref br)]))
    refine own_st (own_ld (j := (1 : Int32)) (v := (.int (own_pick i0 i1 i2 i3 y1))) X22 hx hZ e22 V_br ⟨by decide, by decide⟩ rfl (g := (mkF m 139 #[.val (.int i0), .val (.int i1), .val (.int i2), .val (.int i3), .val (.int i4), .val (.int i5), .val (.ref ba), .val (.int y0), .val (.int y1), .val (.int y2), .val (.int y3), .val (.ref bn), .val (.int (4 : Int32)), .val (.ref br)] [(.int (1 : Int32)), (.ref br)])) rfl rfl (Or.inl ⟨rfl, rfl⟩) (hb hby at_139)) ?_
    show Fin1 p e below s (rm0Q Z i0 i1 i2 i3 i4 i5 h0 n0) room_1.cells room_1.slots (T22.setTop (mkF m 140 #[.val (.int i0), .val (.int i1), .val (.int i2), .val (.int i3), .val (.int i4), .val (.int i5), .val (.ref ba), .val (.int y0), .val (.int y1), .val (.int y2), .val (.int y3), .val (.ref bn), .val (.int (4 : Int32)), .val (.ref br)] [(.int (own_pick i0 i1 i2 i3 y1))]))
    refine own_st (fun wt wk => XS.iloadN X22.here hx rfl (hb hby at_140) rfl wk) ?_
    show Fin1 p e below s (rm0Q Z i0 i1 i2 i3 i4 i5 h0 n0) room_1.cells room_1.slots (T22.setTop (mkF m 141 #[.val (.int i0), .val (.int i1), .val (.int i2), .val (.int i3), .val (.int i4), .val (.int i5), .val (.ref ba), .val (.int y0), .val (.int y1), .val (.int y2), .val (.int y3), .val (.ref bn), .val (.int (4 : Int32)), .val (.ref br)] [(.int i0), (.int (own_pick i0 i1 i2 i3 y1))]))
    refine own_st (fun wt wk => XS.iloadN X22.here hx rfl (hb hby at_141) rfl wk) ?_
    show Fin1 p e below s (rm0Q Z i0 i1 i2 i3 i4 i5 h0 n0) room_1.cells room_1.slots (T22.setTop (mkF m 142 #[.val (.int i0), .val (.int i1), .val (.int i2), .val (.int i3), .val (.int i4), .val (.int i5), .val (.ref ba), .val (.int y0), .val (.int y1), .val (.int y2), .val (.int y3), .val (.ref bn), .val (.int (4 : Int32)), .val (.ref br)] [(.int i1), (.int i0), (.int (own_pick i0 i1 i2 i3 y1))]))
    refine own_st (fun wt wk => XS.iloadN X22.here hx rfl (hb hby at_142) rfl wk) ?_
    show Fin1 p e below s (rm0Q Z i0 i1 i2 i3 i4 i5 h0 n0) room_1.cells room_1.slots (T22.setTop (mkF m 143 #[.val (.int i0), .val (.int i1), .val (.int i2), .val (.int i3), .val (.int i4), .val (.int i5), .val (.ref ba), .val (.int y0), .val (.int y1), .val (.int y2), .val (.int y3), .val (.ref bn), .val (.int (4 : Int32)), .val (.ref br)] [(.int i2), (.int i1), (.int i0), (.int (own_pick i0 i1 i2 i3 y1))]))
    refine own_st (fun wt wk => XS.iloadN X22.here hx rfl (hb hby at_143) rfl wk) ?_
    show Fin1 p e below s (rm0Q Z i0 i1 i2 i3 i4 i5 h0 n0) room_1.cells room_1.slots (T22.setTop (mkF m 144 #[.val (.int i0), .val (.int i1), .val (.int i2), .val (.int i3), .val (.int i4), .val (.int i5), .val (.ref ba), .val (.int y0), .val (.int y1), .val (.int y2), .val (.int y3), .val (.ref bn), .val (.int (4 : Int32)), .val (.ref br)] [(.int i3), (.int i2), (.int i1), (.int i0), (.int (own_pick i0 i1 i2 i3 y1))]))
    refine own_st (fun wt wk => XS.iload X22.here hx rfl (hb hby at_144) rfl wk) ?_
    show Fin1 p e below s (rm0Q Z i0 i1 i2 i3 i4 i5 h0 n0) room_1.cells room_1.slots (T22.setTop (mkF m 146 #[.val (.int i0), .val (.int i1), .val (.int i2), .val (.int i3), .val (.int i4), .val (.int i5), .val (.ref ba), .val (.int y0), .val (.int y1), .val (.int y2), .val (.int y3), .val (.ref bn), .val (.int (4 : Int32)), .val (.ref br)] [(.int y1), (.int i3), (.int i2), (.int i1), (.int i0), (.int (own_pick i0 i1 i2 i3 y1))]))
    obtain ⟨v23, T23, h23, L23, X23, e23, hQ23, st23⟩ := own_static X22 hx hZ hown (hw _ (List.mem_of_getElem? (i := 6) rfl)) (hw _ (List.mem_of_getElem? (i := 7) rfl)) (hw _ (List.mem_of_getElem? (i := 8) rfl)) (hw _ (List.mem_of_getElem? (i := 9) rfl)) (by decide) (rmP l Z a0 hw i0 i1 i2 i3 y1 h21 n0 Z0) e22 (g := (mkF m 146 #[.val (.int i0), .val (.int i1), .val (.int i2), .val (.int i3), .val (.int i4), .val (.int i5), .val (.ref ba), .val (.int y0), .val (.int y1), .val (.int y2), .val (.int y3), .val (.ref bn), .val (.int (4 : Int32)), .val (.ref br)] [(.int y1), (.int i3), (.int i2), (.int i1), (.int i0), (.int (own_pick i0 i1 i2 i3 y1))])) rfl (by rw [hml]; rfl) (argsL := [(.int i0), (.int i1), (.int i2), (.int i3), (.int y1)]) (rest := [(.int (own_pick i0 i1 i2 i3 y1))]) (lenOf pd_3 rfl) rfl (W := 1) (by show 2 * 0 + _ ≤ _; exact Nat.le_of_eq rfl) (hb hby at_146) (by decide) (by decide) (by decide) (by decide)
    obtain ⟨rfl, N23q, hh23⟩ := hQ23
    have N23 := Fr.app N22 N23q
    rw [hh23] at e23
    refine own_st st23 ?_
    show Fin1 p e below s (rm0Q Z i0 i1 i2 i3 i4 i5 h0 n0) room_1.cells room_1.slots (T23.setTop (mkF m 149 #[.val (.int i0), .val (.int i1), .val (.int i2), .val (.int i3), .val (.int i4), .val (.int i5), .val (.ref ba), .val (.int y0), .val (.int y1), .val (.int y2), .val (.int y3), .val (.ref bn), .val (.int (4 : Int32)), .val (.ref br)] [(.int (own_pick i0 i1 i2 i3 y1)), (.int (own_pick i0 i1 i2 i3 y1))]))
    refine own_st (fun wt wk => XS.icmpYes X23.here hx rfl (pc0 := 149) (pc' := 154) rfl (hb hby at_149) rfl (teq (rfl : (own_pick i0 i1 i2 i3 y1) = (own_pick i0 i1 i2 i3 y1))).1 (by decide) (by decide) wk) ?_
    show Fin1 p e below s (rm0Q Z i0 i1 i2 i3 i4 i5 h0 n0) room_1.cells room_1.slots (T23.setTop (mkF m 154 #[.val (.int i0), .val (.int i1), .val (.int i2), .val (.int i3), .val (.int i4), .val (.int i5), .val (.ref ba), .val (.int y0), .val (.int y1), .val (.int y2), .val (.int y3), .val (.ref bn), .val (.int (4 : Int32)), .val (.ref br)] []))
    refine own_st (fun wt wk => XS.iload X23.here hx rfl (hb hby at_154) rfl wk) ?_
    show Fin1 p e below s (rm0Q Z i0 i1 i2 i3 i4 i5 h0 n0) room_1.cells room_1.slots (T23.setTop (mkF m 156 #[.val (.int i0), .val (.int i1), .val (.int i2), .val (.int i3), .val (.int i4), .val (.int i5), .val (.ref ba), .val (.int y0), .val (.int y1), .val (.int y2), .val (.int y3), .val (.ref bn), .val (.int (4 : Int32)), .val (.ref br)] [(.int (4 : Int32))]))
    refine own_st (fun wt wk => XS.iconst X23.here hx rfl (hb hby at_156) wk) ?_
    show Fin1 p e below s (rm0Q Z i0 i1 i2 i3 i4 i5 h0 n0) room_1.cells room_1.slots (T23.setTop (mkF m 157 #[.val (.int i0), .val (.int i1), .val (.int i2), .val (.int i3), .val (.int i4), .val (.int i5), .val (.ref ba), .val (.int y0), .val (.int y1), .val (.int y2), .val (.int y3), .val (.ref bn), .val (.int (4 : Int32)), .val (.ref br)] [(.int (2 : Int32)), (.int (4 : Int32))]))
    refine own_st (fun wt wk => XS.icmpNo X23.here hx rfl (hb hby at_157) rfl (tlt (by decide)).2.2.2 wk) ?_
    show Fin1 p e below s (rm0Q Z i0 i1 i2 i3 i4 i5 h0 n0) room_1.cells room_1.slots (T23.setTop (mkF m 160 #[.val (.int i0), .val (.int i1), .val (.int i2), .val (.int i3), .val (.int i4), .val (.int i5), .val (.ref ba), .val (.int y0), .val (.int y1), .val (.int y2), .val (.int y3), .val (.ref bn), .val (.int (4 : Int32)), .val (.ref br)] []))
    refine own_st (fun wt wk => XS.aload X23.here hx rfl (hb hby at_160) rfl rfl wk) ?_
    show Fin1 p e below s (rm0Q Z i0 i1 i2 i3 i4 i5 h0 n0) room_1.cells room_1.slots (T23.setTop (mkF m 162 #[.val (.int i0), .val (.int i1), .val (.int i2), .val (.int i3), .val (.int i4), .val (.int i5), .val (.ref ba), .val (.int y0), .val (.int y1), .val (.int y2), .val (.int y3), .val (.ref bn), .val (.int (4 : Int32)), .val (.ref br)] [(.ref br)]))
    refine own_st (fun wt wk => XS.iconst X23.here hx rfl (hb hby at_162) wk) ?_
    show Fin1 p e below s (rm0Q Z i0 i1 i2 i3 i4 i5 h0 n0) room_1.cells room_1.slots (T23.setTop (mkF m 163 #[.val (.int i0), .val (.int i1), .val (.int i2), .val (.int i3), .val (.int i4), .val (.int i5), .val (.ref ba), .val (.int y0), .val (.int y1), .val (.int y2), .val (.int y3), .val (.ref bn), .val (.int (4 : Int32)), .val (.ref br)] [(.int (2 : Int32)), (.ref br)]))
    refine own_st (own_ld (j := (2 : Int32)) (v := (.int (own_pick i0 i1 i2 i3 y2))) X23 hx hZ e23 V_br ⟨by decide, by decide⟩ rfl (g := (mkF m 163 #[.val (.int i0), .val (.int i1), .val (.int i2), .val (.int i3), .val (.int i4), .val (.int i5), .val (.ref ba), .val (.int y0), .val (.int y1), .val (.int y2), .val (.int y3), .val (.ref bn), .val (.int (4 : Int32)), .val (.ref br)] [(.int (2 : Int32)), (.ref br)])) rfl rfl (Or.inl ⟨rfl, rfl⟩) (hb hby at_163)) ?_
    show Fin1 p e below s (rm0Q Z i0 i1 i2 i3 i4 i5 h0 n0) room_1.cells room_1.slots (T23.setTop (mkF m 164 #[.val (.int i0), .val (.int i1), .val (.int i2), .val (.int i3), .val (.int i4), .val (.int i5), .val (.ref ba), .val (.int y0), .val (.int y1), .val (.int y2), .val (.int y3), .val (.ref bn), .val (.int (4 : Int32)), .val (.ref br)] [(.int (own_pick i0 i1 i2 i3 y2))]))
    refine own_st (fun wt wk => XS.iloadN X23.here hx rfl (hb hby at_164) rfl wk) ?_
    show Fin1 p e below s (rm0Q Z i0 i1 i2 i3 i4 i5 h0 n0) room_1.cells room_1.slots (T23.setTop (mkF m 165 #[.val (.int i0), .val (.int i1), .val (.int i2), .val (.int i3), .val (.int i4), .val (.int i5), .val (.ref ba), .val (.int y0), .val (.int y1), .val (.int y2), .val (.int y3), .val (.ref bn), .val (.int (4 : Int32)), .val (.ref br)] [(.int i0), (.int (own_pick i0 i1 i2 i3 y2))]))
    refine own_st (fun wt wk => XS.iloadN X23.here hx rfl (hb hby at_165) rfl wk) ?_
    show Fin1 p e below s (rm0Q Z i0 i1 i2 i3 i4 i5 h0 n0) room_1.cells room_1.slots (T23.setTop (mkF m 166 #[.val (.int i0), .val (.int i1), .val (.int i2), .val (.int i3), .val (.int i4), .val (.int i5), .val (.ref ba), .val (.int y0), .val (.int y1), .val (.int y2), .val (.int y3), .val (.ref bn), .val (.int (4 : Int32)), .val (.ref br)] [(.int i1), (.int i0), (.int (own_pick i0 i1 i2 i3 y2))]))
    refine own_st (fun wt wk => XS.iloadN X23.here hx rfl (hb hby at_166) rfl wk) ?_
    show Fin1 p e below s (rm0Q Z i0 i1 i2 i3 i4 i5 h0 n0) room_1.cells room_1.slots (T23.setTop (mkF m 167 #[.val (.int i0), .val (.int i1), .val (.int i2), .val (.int i3), .val (.int i4), .val (.int i5), .val (.ref ba), .val (.int y0), .val (.int y1), .val (.int y2), .val (.int y3), .val (.ref bn), .val (.int (4 : Int32)), .val (.ref br)] [(.int i2), (.int i1), (.int i0), (.int (own_pick i0 i1 i2 i3 y2))]))
    refine own_st (fun wt wk => XS.iloadN X23.here hx rfl (hb hby at_167) rfl wk) ?_
    show Fin1 p e below s (rm0Q Z i0 i1 i2 i3 i4 i5 h0 n0) room_1.cells room_1.slots (T23.setTop (mkF m 168 #[.val (.int i0), .val (.int i1), .val (.int i2), .val (.int i3), .val (.int i4), .val (.int i5), .val (.ref ba), .val (.int y0), .val (.int y1), .val (.int y2), .val (.int y3), .val (.ref bn), .val (.int (4 : Int32)), .val (.ref br)] [(.int i3), (.int i2), (.int i1), (.int i0), (.int (own_pick i0 i1 i2 i3 y2))]))
    refine own_st (fun wt wk => XS.iload X23.here hx rfl (hb hby at_168) rfl wk) ?_
    show Fin1 p e below s (rm0Q Z i0 i1 i2 i3 i4 i5 h0 n0) room_1.cells room_1.slots (T23.setTop (mkF m 170 #[.val (.int i0), .val (.int i1), .val (.int i2), .val (.int i3), .val (.int i4), .val (.int i5), .val (.ref ba), .val (.int y0), .val (.int y1), .val (.int y2), .val (.int y3), .val (.ref bn), .val (.int (4 : Int32)), .val (.ref br)] [(.int y2), (.int i3), (.int i2), (.int i1), (.int i0), (.int (own_pick i0 i1 i2 i3 y2))]))
    obtain ⟨v24, T24, h24, L24, X24, e24, hQ24, st24⟩ := own_static X23 hx hZ hown (hw _ (List.mem_of_getElem? (i := 6) rfl)) (hw _ (List.mem_of_getElem? (i := 7) rfl)) (hw _ (List.mem_of_getElem? (i := 8) rfl)) (hw _ (List.mem_of_getElem? (i := 9) rfl)) (by decide) (rmP l Z a0 hw i0 i1 i2 i3 y2 h21 n0 Z0) e23 (g := (mkF m 170 #[.val (.int i0), .val (.int i1), .val (.int i2), .val (.int i3), .val (.int i4), .val (.int i5), .val (.ref ba), .val (.int y0), .val (.int y1), .val (.int y2), .val (.int y3), .val (.ref bn), .val (.int (4 : Int32)), .val (.ref br)] [(.int y2), (.int i3), (.int i2), (.int i1), (.int i0), (.int (own_pick i0 i1 i2 i3 y2))])) rfl (by rw [hml]; rfl) (argsL := [(.int i0), (.int i1), (.int i2), (.int i3), (.int y2)]) (rest := [(.int (own_pick i0 i1 i2 i3 y2))]) (lenOf pd_3 rfl) rfl (W := 1) (by show 2 * 0 + _ ≤ _; exact Nat.le_of_eq rfl) (hb hby at_170) (by decide) (by decide) (by decide) (by decide)
    obtain ⟨rfl, N24q, hh24⟩ := hQ24
    have N24 := Fr.app N23 N24q
    rw [hh24] at e24
    refine own_st st24 ?_
    show Fin1 p e below s (rm0Q Z i0 i1 i2 i3 i4 i5 h0 n0) room_1.cells room_1.slots (T24.setTop (mkF m 173 #[.val (.int i0), .val (.int i1), .val (.int i2), .val (.int i3), .val (.int i4), .val (.int i5), .val (.ref ba), .val (.int y0), .val (.int y1), .val (.int y2), .val (.int y3), .val (.ref bn), .val (.int (4 : Int32)), .val (.ref br)] [(.int (own_pick i0 i1 i2 i3 y2)), (.int (own_pick i0 i1 i2 i3 y2))]))
    refine own_st (fun wt wk => XS.icmpYes X24.here hx rfl (pc0 := 173) (pc' := 178) rfl (hb hby at_173) rfl (teq (rfl : (own_pick i0 i1 i2 i3 y2) = (own_pick i0 i1 i2 i3 y2))).1 (by decide) (by decide) wk) ?_
    show Fin1 p e below s (rm0Q Z i0 i1 i2 i3 i4 i5 h0 n0) room_1.cells room_1.slots (T24.setTop (mkF m 178 #[.val (.int i0), .val (.int i1), .val (.int i2), .val (.int i3), .val (.int i4), .val (.int i5), .val (.ref ba), .val (.int y0), .val (.int y1), .val (.int y2), .val (.int y3), .val (.ref bn), .val (.int (4 : Int32)), .val (.ref br)] []))
    refine own_st (fun wt wk => XS.iload X24.here hx rfl (hb hby at_178) rfl wk) ?_
    show Fin1 p e below s (rm0Q Z i0 i1 i2 i3 i4 i5 h0 n0) room_1.cells room_1.slots (T24.setTop (mkF m 180 #[.val (.int i0), .val (.int i1), .val (.int i2), .val (.int i3), .val (.int i4), .val (.int i5), .val (.ref ba), .val (.int y0), .val (.int y1), .val (.int y2), .val (.int y3), .val (.ref bn), .val (.int (4 : Int32)), .val (.ref br)] [(.int (4 : Int32))]))
    refine own_st (fun wt wk => XS.iconst X24.here hx rfl (hb hby at_180) wk) ?_
    show Fin1 p e below s (rm0Q Z i0 i1 i2 i3 i4 i5 h0 n0) room_1.cells room_1.slots (T24.setTop (mkF m 181 #[.val (.int i0), .val (.int i1), .val (.int i2), .val (.int i3), .val (.int i4), .val (.int i5), .val (.ref ba), .val (.int y0), .val (.int y1), .val (.int y2), .val (.int y3), .val (.ref bn), .val (.int (4 : Int32)), .val (.ref br)] [(.int (3 : Int32)), (.int (4 : Int32))]))
    refine own_st (fun wt wk => XS.icmpNo X24.here hx rfl (hb hby at_181) rfl (tlt (by decide)).2.2.2 wk) ?_
    show Fin1 p e below s (rm0Q Z i0 i1 i2 i3 i4 i5 h0 n0) room_1.cells room_1.slots (T24.setTop (mkF m 184 #[.val (.int i0), .val (.int i1), .val (.int i2), .val (.int i3), .val (.int i4), .val (.int i5), .val (.ref ba), .val (.int y0), .val (.int y1), .val (.int y2), .val (.int y3), .val (.ref bn), .val (.int (4 : Int32)), .val (.ref br)] []))
    refine own_st (fun wt wk => XS.aload X24.here hx rfl (hb hby at_184) rfl rfl wk) ?_
    show Fin1 p e below s (rm0Q Z i0 i1 i2 i3 i4 i5 h0 n0) room_1.cells room_1.slots (T24.setTop (mkF m 186 #[.val (.int i0), .val (.int i1), .val (.int i2), .val (.int i3), .val (.int i4), .val (.int i5), .val (.ref ba), .val (.int y0), .val (.int y1), .val (.int y2), .val (.int y3), .val (.ref bn), .val (.int (4 : Int32)), .val (.ref br)] [(.ref br)]))
    refine own_st (fun wt wk => XS.iconst X24.here hx rfl (hb hby at_186) wk) ?_
    show Fin1 p e below s (rm0Q Z i0 i1 i2 i3 i4 i5 h0 n0) room_1.cells room_1.slots (T24.setTop (mkF m 187 #[.val (.int i0), .val (.int i1), .val (.int i2), .val (.int i3), .val (.int i4), .val (.int i5), .val (.ref ba), .val (.int y0), .val (.int y1), .val (.int y2), .val (.int y3), .val (.ref bn), .val (.int (4 : Int32)), .val (.ref br)] [(.int (3 : Int32)), (.ref br)]))
    refine own_st (own_ld (j := (3 : Int32)) (v := (.int (own_pick i0 i1 i2 i3 y3))) X24 hx hZ e24 V_br ⟨by decide, by decide⟩ rfl (g := (mkF m 187 #[.val (.int i0), .val (.int i1), .val (.int i2), .val (.int i3), .val (.int i4), .val (.int i5), .val (.ref ba), .val (.int y0), .val (.int y1), .val (.int y2), .val (.int y3), .val (.ref bn), .val (.int (4 : Int32)), .val (.ref br)] [(.int (3 : Int32)), (.ref br)])) rfl rfl (Or.inl ⟨rfl, rfl⟩) (hb hby at_187)) ?_
    show Fin1 p e below s (rm0Q Z i0 i1 i2 i3 i4 i5 h0 n0) room_1.cells room_1.slots (T24.setTop (mkF m 188 #[.val (.int i0), .val (.int i1), .val (.int i2), .val (.int i3), .val (.int i4), .val (.int i5), .val (.ref ba), .val (.int y0), .val (.int y1), .val (.int y2), .val (.int y3), .val (.ref bn), .val (.int (4 : Int32)), .val (.ref br)] [(.int (own_pick i0 i1 i2 i3 y3))]))
    refine own_st (fun wt wk => XS.iloadN X24.here hx rfl (hb hby at_188) rfl wk) ?_
    show Fin1 p e below s (rm0Q Z i0 i1 i2 i3 i4 i5 h0 n0) room_1.cells room_1.slots (T24.setTop (mkF m 189 #[.val (.int i0), .val (.int i1), .val (.int i2), .val (.int i3), .val (.int i4), .val (.int i5), .val (.ref ba), .val (.int y0), .val (.int y1), .val (.int y2), .val (.int y3), .val (.ref bn), .val (.int (4 : Int32)), .val (.ref br)] [(.int i0), (.int (own_pick i0 i1 i2 i3 y3))]))
    refine own_st (fun wt wk => XS.iloadN X24.here hx rfl (hb hby at_189) rfl wk) ?_
    show Fin1 p e below s (rm0Q Z i0 i1 i2 i3 i4 i5 h0 n0) room_1.cells room_1.slots (T24.setTop (mkF m 190 #[.val (.int i0), .val (.int i1), .val (.int i2), .val (.int i3), .val (.int i4), .val (.int i5), .val (.ref ba), .val (.int y0), .val (.int y1), .val (.int y2), .val (.int y3), .val (.ref bn), .val (.int (4 : Int32)), .val (.ref br)] [(.int i1), (.int i0), (.int (own_pick i0 i1 i2 i3 y3))]))
    refine own_st (fun wt wk => XS.iloadN X24.here hx rfl (hb hby at_190) rfl wk) ?_
    show Fin1 p e below s (rm0Q Z i0 i1 i2 i3 i4 i5 h0 n0) room_1.cells room_1.slots (T24.setTop (mkF m 191 #[.val (.int i0), .val (.int i1), .val (.int i2), .val (.int i3), .val (.int i4), .val (.int i5), .val (.ref ba), .val (.int y0), .val (.int y1), .val (.int y2), .val (.int y3), .val (.ref bn), .val (.int (4 : Int32)), .val (.ref br)] [(.int i2), (.int i1), (.int i0), (.int (own_pick i0 i1 i2 i3 y3))]))
    refine own_st (fun wt wk => XS.iloadN X24.here hx rfl (hb hby at_191) rfl wk) ?_
    show Fin1 p e below s (rm0Q Z i0 i1 i2 i3 i4 i5 h0 n0) room_1.cells room_1.slots (T24.setTop (mkF m 192 #[.val (.int i0), .val (.int i1), .val (.int i2), .val (.int i3), .val (.int i4), .val (.int i5), .val (.ref ba), .val (.int y0), .val (.int y1), .val (.int y2), .val (.int y3), .val (.ref bn), .val (.int (4 : Int32)), .val (.ref br)] [(.int i3), (.int i2), (.int i1), (.int i0), (.int (own_pick i0 i1 i2 i3 y3))]))
    refine own_st (fun wt wk => XS.iload X24.here hx rfl (hb hby at_192) rfl wk) ?_
    show Fin1 p e below s (rm0Q Z i0 i1 i2 i3 i4 i5 h0 n0) room_1.cells room_1.slots (T24.setTop (mkF m 194 #[.val (.int i0), .val (.int i1), .val (.int i2), .val (.int i3), .val (.int i4), .val (.int i5), .val (.ref ba), .val (.int y0), .val (.int y1), .val (.int y2), .val (.int y3), .val (.ref bn), .val (.int (4 : Int32)), .val (.ref br)] [(.int y3), (.int i3), (.int i2), (.int i1), (.int i0), (.int (own_pick i0 i1 i2 i3 y3))]))
    obtain ⟨v25, T25, h25, L25, X25, e25, hQ25, st25⟩ := own_static X24 hx hZ hown (hw _ (List.mem_of_getElem? (i := 6) rfl)) (hw _ (List.mem_of_getElem? (i := 7) rfl)) (hw _ (List.mem_of_getElem? (i := 8) rfl)) (hw _ (List.mem_of_getElem? (i := 9) rfl)) (by decide) (rmP l Z a0 hw i0 i1 i2 i3 y3 h21 n0 Z0) e24 (g := (mkF m 194 #[.val (.int i0), .val (.int i1), .val (.int i2), .val (.int i3), .val (.int i4), .val (.int i5), .val (.ref ba), .val (.int y0), .val (.int y1), .val (.int y2), .val (.int y3), .val (.ref bn), .val (.int (4 : Int32)), .val (.ref br)] [(.int y3), (.int i3), (.int i2), (.int i1), (.int i0), (.int (own_pick i0 i1 i2 i3 y3))])) rfl (by rw [hml]; rfl) (argsL := [(.int i0), (.int i1), (.int i2), (.int i3), (.int y3)]) (rest := [(.int (own_pick i0 i1 i2 i3 y3))]) (lenOf pd_3 rfl) rfl (W := 1) (by show 2 * 0 + _ ≤ _; exact Nat.le_of_eq rfl) (hb hby at_194) (by decide) (by decide) (by decide) (by decide)
    obtain ⟨rfl, N25q, hh25⟩ := hQ25
    have N25 := Fr.app N24 N25q
    rw [hh25] at e25
    refine own_st st25 ?_
    show Fin1 p e below s (rm0Q Z i0 i1 i2 i3 i4 i5 h0 n0) room_1.cells room_1.slots (T25.setTop (mkF m 197 #[.val (.int i0), .val (.int i1), .val (.int i2), .val (.int i3), .val (.int i4), .val (.int i5), .val (.ref ba), .val (.int y0), .val (.int y1), .val (.int y2), .val (.int y3), .val (.ref bn), .val (.int (4 : Int32)), .val (.ref br)] [(.int (own_pick i0 i1 i2 i3 y3)), (.int (own_pick i0 i1 i2 i3 y3))]))
    refine own_st (fun wt wk => XS.icmpYes X25.here hx rfl (pc0 := 197) (pc' := 202) rfl (hb hby at_197) rfl (teq (rfl : (own_pick i0 i1 i2 i3 y3) = (own_pick i0 i1 i2 i3 y3))).1 (by decide) (by decide) wk) ?_
    show Fin1 p e below s (rm0Q Z i0 i1 i2 i3 i4 i5 h0 n0) room_1.cells room_1.slots (T25.setTop (mkF m 202 #[.val (.int i0), .val (.int i1), .val (.int i2), .val (.int i3), .val (.int i4), .val (.int i5), .val (.ref ba), .val (.int y0), .val (.int y1), .val (.int y2), .val (.int y3), .val (.ref bn), .val (.int (4 : Int32)), .val (.ref br)] []))
    refine own_st (fun wt wk => XS.aload X25.here hx rfl (hb hby at_202) rfl rfl wk) ?_
    show Fin1 p e below s (rm0Q Z i0 i1 i2 i3 i4 i5 h0 n0) room_1.cells room_1.slots (T25.setTop (mkF m 204 #[.val (.int i0), .val (.int i1), .val (.int i2), .val (.int i3), .val (.int i4), .val (.int i5), .val (.ref ba), .val (.int y0), .val (.int y1), .val (.int y2), .val (.int y3), .val (.ref bn), .val (.int (4 : Int32)), .val (.ref br)] [(.ref ba)]))
    refine own_st (fun wt wk => XS.iconst X25.here hx rfl (hb hby at_204) wk) ?_
    show Fin1 p e below s (rm0Q Z i0 i1 i2 i3 i4 i5 h0 n0) room_1.cells room_1.slots (T25.setTop (mkF m 205 #[.val (.int i0), .val (.int i1), .val (.int i2), .val (.int i3), .val (.int i4), .val (.int i5), .val (.ref ba), .val (.int y0), .val (.int y1), .val (.int y2), .val (.int y3), .val (.ref bn), .val (.int (4 : Int32)), .val (.ref br)] [(.int (0 : Int32)), (.ref ba)]))
    refine own_st (own_ld (j := (0 : Int32)) (v := (.int i0)) X25 hx hZ e25 V_ba ⟨by decide, by decide⟩ rfl (g := (mkF m 205 #[.val (.int i0), .val (.int i1), .val (.int i2), .val (.int i3), .val (.int i4), .val (.int i5), .val (.ref ba), .val (.int y0), .val (.int y1), .val (.int y2), .val (.int y3), .val (.ref bn), .val (.int (4 : Int32)), .val (.ref br)] [(.int (0 : Int32)), (.ref ba)])) rfl rfl (Or.inl ⟨rfl, rfl⟩) (hb hby at_205)) ?_
    show Fin1 p e below s (rm0Q Z i0 i1 i2 i3 i4 i5 h0 n0) room_1.cells room_1.slots (T25.setTop (mkF m 206 #[.val (.int i0), .val (.int i1), .val (.int i2), .val (.int i3), .val (.int i4), .val (.int i5), .val (.ref ba), .val (.int y0), .val (.int y1), .val (.int y2), .val (.int y3), .val (.ref bn), .val (.int (4 : Int32)), .val (.ref br)] [(.int i0)]))
    refine own_st (fun wt wk => XS.iloadN X25.here hx rfl (hb hby at_206) rfl wk) ?_
    show Fin1 p e below s (rm0Q Z i0 i1 i2 i3 i4 i5 h0 n0) room_1.cells room_1.slots (T25.setTop (mkF m 207 #[.val (.int i0), .val (.int i1), .val (.int i2), .val (.int i3), .val (.int i4), .val (.int i5), .val (.ref ba), .val (.int y0), .val (.int y1), .val (.int y2), .val (.int y3), .val (.ref bn), .val (.int (4 : Int32)), .val (.ref br)] [(.int i0), (.int i0)]))
    refine own_st (fun wt wk => XS.icmpNo X25.here hx rfl (hb hby at_207) rfl (teq (rfl : i0 = i0)).2 wk) ?_
    show Fin1 p e below s (rm0Q Z i0 i1 i2 i3 i4 i5 h0 n0) room_1.cells room_1.slots (T25.setTop (mkF m 210 #[.val (.int i0), .val (.int i1), .val (.int i2), .val (.int i3), .val (.int i4), .val (.int i5), .val (.ref ba), .val (.int y0), .val (.int y1), .val (.int y2), .val (.int y3), .val (.ref bn), .val (.int (4 : Int32)), .val (.ref br)] []))
    refine own_st (fun wt wk => XS.aload X25.here hx rfl (hb hby at_210) rfl rfl wk) ?_
    show Fin1 p e below s (rm0Q Z i0 i1 i2 i3 i4 i5 h0 n0) room_1.cells room_1.slots (T25.setTop (mkF m 212 #[.val (.int i0), .val (.int i1), .val (.int i2), .val (.int i3), .val (.int i4), .val (.int i5), .val (.ref ba), .val (.int y0), .val (.int y1), .val (.int y2), .val (.int y3), .val (.ref bn), .val (.int (4 : Int32)), .val (.ref br)] [(.ref ba)]))
    refine own_st (fun wt wk => XS.iconst X25.here hx rfl (hb hby at_212) wk) ?_
    show Fin1 p e below s (rm0Q Z i0 i1 i2 i3 i4 i5 h0 n0) room_1.cells room_1.slots (T25.setTop (mkF m 213 #[.val (.int i0), .val (.int i1), .val (.int i2), .val (.int i3), .val (.int i4), .val (.int i5), .val (.ref ba), .val (.int y0), .val (.int y1), .val (.int y2), .val (.int y3), .val (.ref bn), .val (.int (4 : Int32)), .val (.ref br)] [(.int (1 : Int32)), (.ref ba)]))
    refine own_st (own_ld (j := (1 : Int32)) (v := (.int i1)) X25 hx hZ e25 V_ba ⟨by decide, by decide⟩ rfl (g := (mkF m 213 #[.val (.int i0), .val (.int i1), .val (.int i2), .val (.int i3), .val (.int i4), .val (.int i5), .val (.ref ba), .val (.int y0), .val (.int y1), .val (.int y2), .val (.int y3), .val (.ref bn), .val (.int (4 : Int32)), .val (.ref br)] [(.int (1 : Int32)), (.ref ba)])) rfl rfl (Or.inl ⟨rfl, rfl⟩) (hb hby at_213)) ?_
    show Fin1 p e below s (rm0Q Z i0 i1 i2 i3 i4 i5 h0 n0) room_1.cells room_1.slots (T25.setTop (mkF m 214 #[.val (.int i0), .val (.int i1), .val (.int i2), .val (.int i3), .val (.int i4), .val (.int i5), .val (.ref ba), .val (.int y0), .val (.int y1), .val (.int y2), .val (.int y3), .val (.ref bn), .val (.int (4 : Int32)), .val (.ref br)] [(.int i1)]))
    refine own_st (fun wt wk => XS.iloadN X25.here hx rfl (hb hby at_214) rfl wk) ?_
    show Fin1 p e below s (rm0Q Z i0 i1 i2 i3 i4 i5 h0 n0) room_1.cells room_1.slots (T25.setTop (mkF m 215 #[.val (.int i0), .val (.int i1), .val (.int i2), .val (.int i3), .val (.int i4), .val (.int i5), .val (.ref ba), .val (.int y0), .val (.int y1), .val (.int y2), .val (.int y3), .val (.ref bn), .val (.int (4 : Int32)), .val (.ref br)] [(.int i1), (.int i1)]))
    refine own_st (fun wt wk => XS.icmpNo X25.here hx rfl (hb hby at_215) rfl (teq (rfl : i1 = i1)).2 wk) ?_
    show Fin1 p e below s (rm0Q Z i0 i1 i2 i3 i4 i5 h0 n0) room_1.cells room_1.slots (T25.setTop (mkF m 218 #[.val (.int i0), .val (.int i1), .val (.int i2), .val (.int i3), .val (.int i4), .val (.int i5), .val (.ref ba), .val (.int y0), .val (.int y1), .val (.int y2), .val (.int y3), .val (.ref bn), .val (.int (4 : Int32)), .val (.ref br)] []))
    refine own_st (fun wt wk => XS.aload X25.here hx rfl (hb hby at_218) rfl rfl wk) ?_
    show Fin1 p e below s (rm0Q Z i0 i1 i2 i3 i4 i5 h0 n0) room_1.cells room_1.slots (T25.setTop (mkF m 220 #[.val (.int i0), .val (.int i1), .val (.int i2), .val (.int i3), .val (.int i4), .val (.int i5), .val (.ref ba), .val (.int y0), .val (.int y1), .val (.int y2), .val (.int y3), .val (.ref bn), .val (.int (4 : Int32)), .val (.ref br)] [(.ref ba)]))
    refine own_st (fun wt wk => XS.iconst X25.here hx rfl (hb hby at_220) wk) ?_
    show Fin1 p e below s (rm0Q Z i0 i1 i2 i3 i4 i5 h0 n0) room_1.cells room_1.slots (T25.setTop (mkF m 221 #[.val (.int i0), .val (.int i1), .val (.int i2), .val (.int i3), .val (.int i4), .val (.int i5), .val (.ref ba), .val (.int y0), .val (.int y1), .val (.int y2), .val (.int y3), .val (.ref bn), .val (.int (4 : Int32)), .val (.ref br)] [(.int (2 : Int32)), (.ref ba)]))
    refine own_st (own_ld (j := (2 : Int32)) (v := (.int i2)) X25 hx hZ e25 V_ba ⟨by decide, by decide⟩ rfl (g := (mkF m 221 #[.val (.int i0), .val (.int i1), .val (.int i2), .val (.int i3), .val (.int i4), .val (.int i5), .val (.ref ba), .val (.int y0), .val (.int y1), .val (.int y2), .val (.int y3), .val (.ref bn), .val (.int (4 : Int32)), .val (.ref br)] [(.int (2 : Int32)), (.ref ba)])) rfl rfl (Or.inl ⟨rfl, rfl⟩) (hb hby at_221)) ?_
    show Fin1 p e below s (rm0Q Z i0 i1 i2 i3 i4 i5 h0 n0) room_1.cells room_1.slots (T25.setTop (mkF m 222 #[.val (.int i0), .val (.int i1), .val (.int i2), .val (.int i3), .val (.int i4), .val (.int i5), .val (.ref ba), .val (.int y0), .val (.int y1), .val (.int y2), .val (.int y3), .val (.ref bn), .val (.int (4 : Int32)), .val (.ref br)] [(.int i2)]))
    refine own_st (fun wt wk => XS.iloadN X25.here hx rfl (hb hby at_222) rfl wk) ?_
    show Fin1 p e below s (rm0Q Z i0 i1 i2 i3 i4 i5 h0 n0) room_1.cells room_1.slots (T25.setTop (mkF m 223 #[.val (.int i0), .val (.int i1), .val (.int i2), .val (.int i3), .val (.int i4), .val (.int i5), .val (.ref ba), .val (.int y0), .val (.int y1), .val (.int y2), .val (.int y3), .val (.ref bn), .val (.int (4 : Int32)), .val (.ref br)] [(.int i2), (.int i2)]))
    refine own_st (fun wt wk => XS.icmpNo X25.here hx rfl (hb hby at_223) rfl (teq (rfl : i2 = i2)).2 wk) ?_
    show Fin1 p e below s (rm0Q Z i0 i1 i2 i3 i4 i5 h0 n0) room_1.cells room_1.slots (T25.setTop (mkF m 226 #[.val (.int i0), .val (.int i1), .val (.int i2), .val (.int i3), .val (.int i4), .val (.int i5), .val (.ref ba), .val (.int y0), .val (.int y1), .val (.int y2), .val (.int y3), .val (.ref bn), .val (.int (4 : Int32)), .val (.ref br)] []))
    refine own_st (fun wt wk => XS.aload X25.here hx rfl (hb hby at_226) rfl rfl wk) ?_
    show Fin1 p e below s (rm0Q Z i0 i1 i2 i3 i4 i5 h0 n0) room_1.cells room_1.slots (T25.setTop (mkF m 228 #[.val (.int i0), .val (.int i1), .val (.int i2), .val (.int i3), .val (.int i4), .val (.int i5), .val (.ref ba), .val (.int y0), .val (.int y1), .val (.int y2), .val (.int y3), .val (.ref bn), .val (.int (4 : Int32)), .val (.ref br)] [(.ref ba)]))
    refine own_st (fun wt wk => XS.iconst X25.here hx rfl (hb hby at_228) wk) ?_
    show Fin1 p e below s (rm0Q Z i0 i1 i2 i3 i4 i5 h0 n0) room_1.cells room_1.slots (T25.setTop (mkF m 229 #[.val (.int i0), .val (.int i1), .val (.int i2), .val (.int i3), .val (.int i4), .val (.int i5), .val (.ref ba), .val (.int y0), .val (.int y1), .val (.int y2), .val (.int y3), .val (.ref bn), .val (.int (4 : Int32)), .val (.ref br)] [(.int (3 : Int32)), (.ref ba)]))
    refine own_st (own_ld (j := (3 : Int32)) (v := (.int i3)) X25 hx hZ e25 V_ba ⟨by decide, by decide⟩ rfl (g := (mkF m 229 #[.val (.int i0), .val (.int i1), .val (.int i2), .val (.int i3), .val (.int i4), .val (.int i5), .val (.ref ba), .val (.int y0), .val (.int y1), .val (.int y2), .val (.int y3), .val (.ref bn), .val (.int (4 : Int32)), .val (.ref br)] [(.int (3 : Int32)), (.ref ba)])) rfl rfl (Or.inl ⟨rfl, rfl⟩) (hb hby at_229)) ?_
    show Fin1 p e below s (rm0Q Z i0 i1 i2 i3 i4 i5 h0 n0) room_1.cells room_1.slots (T25.setTop (mkF m 230 #[.val (.int i0), .val (.int i1), .val (.int i2), .val (.int i3), .val (.int i4), .val (.int i5), .val (.ref ba), .val (.int y0), .val (.int y1), .val (.int y2), .val (.int y3), .val (.ref bn), .val (.int (4 : Int32)), .val (.ref br)] [(.int i3)]))
    refine own_st (fun wt wk => XS.iloadN X25.here hx rfl (hb hby at_230) rfl wk) ?_
    show Fin1 p e below s (rm0Q Z i0 i1 i2 i3 i4 i5 h0 n0) room_1.cells room_1.slots (T25.setTop (mkF m 231 #[.val (.int i0), .val (.int i1), .val (.int i2), .val (.int i3), .val (.int i4), .val (.int i5), .val (.ref ba), .val (.int y0), .val (.int y1), .val (.int y2), .val (.int y3), .val (.ref bn), .val (.int (4 : Int32)), .val (.ref br)] [(.int i3), (.int i3)]))
    refine own_st (fun wt wk => XS.icmpNo X25.here hx rfl (hb hby at_231) rfl (teq (rfl : i3 = i3)).2 wk) ?_
    show Fin1 p e below s (rm0Q Z i0 i1 i2 i3 i4 i5 h0 n0) room_1.cells room_1.slots (T25.setTop (mkF m 234 #[.val (.int i0), .val (.int i1), .val (.int i2), .val (.int i3), .val (.int i4), .val (.int i5), .val (.ref ba), .val (.int y0), .val (.int y1), .val (.int y2), .val (.int y3), .val (.ref bn), .val (.int (4 : Int32)), .val (.ref br)] []))
    refine own_st (fun wt wk => XS.aload X25.here hx rfl (hb hby at_234) rfl rfl wk) ?_
    show Fin1 p e below s (rm0Q Z i0 i1 i2 i3 i4 i5 h0 n0) room_1.cells room_1.slots (T25.setTop (mkF m 236 #[.val (.int i0), .val (.int i1), .val (.int i2), .val (.int i3), .val (.int i4), .val (.int i5), .val (.ref ba), .val (.int y0), .val (.int y1), .val (.int y2), .val (.int y3), .val (.ref bn), .val (.int (4 : Int32)), .val (.ref br)] [(.ref bn)]))
    refine own_st (fun wt wk => XS.iconst X25.here hx rfl (hb hby at_236) wk) ?_
    show Fin1 p e below s (rm0Q Z i0 i1 i2 i3 i4 i5 h0 n0) room_1.cells room_1.slots (T25.setTop (mkF m 237 #[.val (.int i0), .val (.int i1), .val (.int i2), .val (.int i3), .val (.int i4), .val (.int i5), .val (.ref ba), .val (.int y0), .val (.int y1), .val (.int y2), .val (.int y3), .val (.ref bn), .val (.int (4 : Int32)), .val (.ref br)] [(.int (0 : Int32)), (.ref bn)]))
    refine own_st (own_ld (j := (0 : Int32)) (v := (.int y0)) X25 hx hZ e25 V_bn ⟨by decide, by decide⟩ rfl (g := (mkF m 237 #[.val (.int i0), .val (.int i1), .val (.int i2), .val (.int i3), .val (.int i4), .val (.int i5), .val (.ref ba), .val (.int y0), .val (.int y1), .val (.int y2), .val (.int y3), .val (.ref bn), .val (.int (4 : Int32)), .val (.ref br)] [(.int (0 : Int32)), (.ref bn)])) rfl rfl (Or.inl ⟨rfl, rfl⟩) (hb hby at_237)) ?_
    show Fin1 p e below s (rm0Q Z i0 i1 i2 i3 i4 i5 h0 n0) room_1.cells room_1.slots (T25.setTop (mkF m 238 #[.val (.int i0), .val (.int i1), .val (.int i2), .val (.int i3), .val (.int i4), .val (.int i5), .val (.ref ba), .val (.int y0), .val (.int y1), .val (.int y2), .val (.int y3), .val (.ref bn), .val (.int (4 : Int32)), .val (.ref br)] [(.int y0)]))
    refine own_st (fun wt wk => XS.iload X25.here hx rfl (hb hby at_238) rfl wk) ?_
    show Fin1 p e below s (rm0Q Z i0 i1 i2 i3 i4 i5 h0 n0) room_1.cells room_1.slots (T25.setTop (mkF m 240 #[.val (.int i0), .val (.int i1), .val (.int i2), .val (.int i3), .val (.int i4), .val (.int i5), .val (.ref ba), .val (.int y0), .val (.int y1), .val (.int y2), .val (.int y3), .val (.ref bn), .val (.int (4 : Int32)), .val (.ref br)] [(.int y0), (.int y0)]))
    refine own_st (fun wt wk => XS.icmpNo X25.here hx rfl (hb hby at_240) rfl (teq (rfl : y0 = y0)).2 wk) ?_
    show Fin1 p e below s (rm0Q Z i0 i1 i2 i3 i4 i5 h0 n0) room_1.cells room_1.slots (T25.setTop (mkF m 243 #[.val (.int i0), .val (.int i1), .val (.int i2), .val (.int i3), .val (.int i4), .val (.int i5), .val (.ref ba), .val (.int y0), .val (.int y1), .val (.int y2), .val (.int y3), .val (.ref bn), .val (.int (4 : Int32)), .val (.ref br)] []))
    refine own_st (fun wt wk => XS.aload X25.here hx rfl (hb hby at_243) rfl rfl wk) ?_
    show Fin1 p e below s (rm0Q Z i0 i1 i2 i3 i4 i5 h0 n0) room_1.cells room_1.slots (T25.setTop (mkF m 245 #[.val (.int i0), .val (.int i1), .val (.int i2), .val (.int i3), .val (.int i4), .val (.int i5), .val (.ref ba), .val (.int y0), .val (.int y1), .val (.int y2), .val (.int y3), .val (.ref bn), .val (.int (4 : Int32)), .val (.ref br)] [(.ref bn)]))
    refine own_st (fun wt wk => XS.iconst X25.here hx rfl (hb hby at_245) wk) ?_
    show Fin1 p e below s (rm0Q Z i0 i1 i2 i3 i4 i5 h0 n0) room_1.cells room_1.slots (T25.setTop (mkF m 246 #[.val (.int i0), .val (.int i1), .val (.int i2), .val (.int i3), .val (.int i4), .val (.int i5), .val (.ref ba), .val (.int y0), .val (.int y1), .val (.int y2), .val (.int y3), .val (.ref bn), .val (.int (4 : Int32)), .val (.ref br)] [(.int (1 : Int32)), (.ref bn)]))
    refine own_st (own_ld (j := (1 : Int32)) (v := (.int y1)) X25 hx hZ e25 V_bn ⟨by decide, by decide⟩ rfl (g := (mkF m 246 #[.val (.int i0), .val (.int i1), .val (.int i2), .val (.int i3), .val (.int i4), .val (.int i5), .val (.ref ba), .val (.int y0), .val (.int y1), .val (.int y2), .val (.int y3), .val (.ref bn), .val (.int (4 : Int32)), .val (.ref br)] [(.int (1 : Int32)), (.ref bn)])) rfl rfl (Or.inl ⟨rfl, rfl⟩) (hb hby at_246)) ?_
    show Fin1 p e below s (rm0Q Z i0 i1 i2 i3 i4 i5 h0 n0) room_1.cells room_1.slots (T25.setTop (mkF m 247 #[.val (.int i0), .val (.int i1), .val (.int i2), .val (.int i3), .val (.int i4), .val (.int i5), .val (.ref ba), .val (.int y0), .val (.int y1), .val (.int y2), .val (.int y3), .val (.ref bn), .val (.int (4 : Int32)), .val (.ref br)] [(.int y1)]))
    refine own_st (fun wt wk => XS.iload X25.here hx rfl (hb hby at_247) rfl wk) ?_
    show Fin1 p e below s (rm0Q Z i0 i1 i2 i3 i4 i5 h0 n0) room_1.cells room_1.slots (T25.setTop (mkF m 249 #[.val (.int i0), .val (.int i1), .val (.int i2), .val (.int i3), .val (.int i4), .val (.int i5), .val (.ref ba), .val (.int y0), .val (.int y1), .val (.int y2), .val (.int y3), .val (.ref bn), .val (.int (4 : Int32)), .val (.ref br)] [(.int y1), (.int y1)]))
    refine own_st (fun wt wk => XS.icmpNo X25.here hx rfl (hb hby at_249) rfl (teq (rfl : y1 = y1)).2 wk) ?_
    show Fin1 p e below s (rm0Q Z i0 i1 i2 i3 i4 i5 h0 n0) room_1.cells room_1.slots (T25.setTop (mkF m 252 #[.val (.int i0), .val (.int i1), .val (.int i2), .val (.int i3), .val (.int i4), .val (.int i5), .val (.ref ba), .val (.int y0), .val (.int y1), .val (.int y2), .val (.int y3), .val (.ref bn), .val (.int (4 : Int32)), .val (.ref br)] []))
    refine own_st (fun wt wk => XS.aload X25.here hx rfl (hb hby at_252) rfl rfl wk) ?_
    show Fin1 p e below s (rm0Q Z i0 i1 i2 i3 i4 i5 h0 n0) room_1.cells room_1.slots (T25.setTop (mkF m 254 #[.val (.int i0), .val (.int i1), .val (.int i2), .val (.int i3), .val (.int i4), .val (.int i5), .val (.ref ba), .val (.int y0), .val (.int y1), .val (.int y2), .val (.int y3), .val (.ref bn), .val (.int (4 : Int32)), .val (.ref br)] [(.ref bn)]))
    refine own_st (fun wt wk => XS.iconst X25.here hx rfl (hb hby at_254) wk) ?_
    show Fin1 p e below s (rm0Q Z i0 i1 i2 i3 i4 i5 h0 n0) room_1.cells room_1.slots (T25.setTop (mkF m 255 #[.val (.int i0), .val (.int i1), .val (.int i2), .val (.int i3), .val (.int i4), .val (.int i5), .val (.ref ba), .val (.int y0), .val (.int y1), .val (.int y2), .val (.int y3), .val (.ref bn), .val (.int (4 : Int32)), .val (.ref br)] [(.int (2 : Int32)), (.ref bn)]))
    refine own_st (own_ld (j := (2 : Int32)) (v := (.int y2)) X25 hx hZ e25 V_bn ⟨by decide, by decide⟩ rfl (g := (mkF m 255 #[.val (.int i0), .val (.int i1), .val (.int i2), .val (.int i3), .val (.int i4), .val (.int i5), .val (.ref ba), .val (.int y0), .val (.int y1), .val (.int y2), .val (.int y3), .val (.ref bn), .val (.int (4 : Int32)), .val (.ref br)] [(.int (2 : Int32)), (.ref bn)])) rfl rfl (Or.inl ⟨rfl, rfl⟩) (hb hby at_255)) ?_
    show Fin1 p e below s (rm0Q Z i0 i1 i2 i3 i4 i5 h0 n0) room_1.cells room_1.slots (T25.setTop (mkF m 256 #[.val (.int i0), .val (.int i1), .val (.int i2), .val (.int i3), .val (.int i4), .val (.int i5), .val (.ref ba), .val (.int y0), .val (.int y1), .val (.int y2), .val (.int y3), .val (.ref bn), .val (.int (4 : Int32)), .val (.ref br)] [(.int y2)]))
    refine own_st (fun wt wk => XS.iload X25.here hx rfl (hb hby at_256) rfl wk) ?_
    show Fin1 p e below s (rm0Q Z i0 i1 i2 i3 i4 i5 h0 n0) room_1.cells room_1.slots (T25.setTop (mkF m 258 #[.val (.int i0), .val (.int i1), .val (.int i2), .val (.int i3), .val (.int i4), .val (.int i5), .val (.ref ba), .val (.int y0), .val (.int y1), .val (.int y2), .val (.int y3), .val (.ref bn), .val (.int (4 : Int32)), .val (.ref br)] [(.int y2), (.int y2)]))
    refine own_st (fun wt wk => XS.icmpNo X25.here hx rfl (hb hby at_258) rfl (teq (rfl : y2 = y2)).2 wk) ?_
    show Fin1 p e below s (rm0Q Z i0 i1 i2 i3 i4 i5 h0 n0) room_1.cells room_1.slots (T25.setTop (mkF m 261 #[.val (.int i0), .val (.int i1), .val (.int i2), .val (.int i3), .val (.int i4), .val (.int i5), .val (.ref ba), .val (.int y0), .val (.int y1), .val (.int y2), .val (.int y3), .val (.ref bn), .val (.int (4 : Int32)), .val (.ref br)] []))
    refine own_st (fun wt wk => XS.aload X25.here hx rfl (hb hby at_261) rfl rfl wk) ?_
    show Fin1 p e below s (rm0Q Z i0 i1 i2 i3 i4 i5 h0 n0) room_1.cells room_1.slots (T25.setTop (mkF m 263 #[.val (.int i0), .val (.int i1), .val (.int i2), .val (.int i3), .val (.int i4), .val (.int i5), .val (.ref ba), .val (.int y0), .val (.int y1), .val (.int y2), .val (.int y3), .val (.ref bn), .val (.int (4 : Int32)), .val (.ref br)] [(.ref bn)]))
    refine own_st (fun wt wk => XS.iconst X25.here hx rfl (hb hby at_263) wk) ?_
    show Fin1 p e below s (rm0Q Z i0 i1 i2 i3 i4 i5 h0 n0) room_1.cells room_1.slots (T25.setTop (mkF m 264 #[.val (.int i0), .val (.int i1), .val (.int i2), .val (.int i3), .val (.int i4), .val (.int i5), .val (.ref ba), .val (.int y0), .val (.int y1), .val (.int y2), .val (.int y3), .val (.ref bn), .val (.int (4 : Int32)), .val (.ref br)] [(.int (3 : Int32)), (.ref bn)]))
    refine own_st (own_ld (j := (3 : Int32)) (v := (.int y3)) X25 hx hZ e25 V_bn ⟨by decide, by decide⟩ rfl (g := (mkF m 264 #[.val (.int i0), .val (.int i1), .val (.int i2), .val (.int i3), .val (.int i4), .val (.int i5), .val (.ref ba), .val (.int y0), .val (.int y1), .val (.int y2), .val (.int y3), .val (.ref bn), .val (.int (4 : Int32)), .val (.ref br)] [(.int (3 : Int32)), (.ref bn)])) rfl rfl (Or.inl ⟨rfl, rfl⟩) (hb hby at_264)) ?_
    show Fin1 p e below s (rm0Q Z i0 i1 i2 i3 i4 i5 h0 n0) room_1.cells room_1.slots (T25.setTop (mkF m 265 #[.val (.int i0), .val (.int i1), .val (.int i2), .val (.int i3), .val (.int i4), .val (.int i5), .val (.ref ba), .val (.int y0), .val (.int y1), .val (.int y2), .val (.int y3), .val (.ref bn), .val (.int (4 : Int32)), .val (.ref br)] [(.int y3)]))
    refine own_st (fun wt wk => XS.iload X25.here hx rfl (hb hby at_265) rfl wk) ?_
    show Fin1 p e below s (rm0Q Z i0 i1 i2 i3 i4 i5 h0 n0) room_1.cells room_1.slots (T25.setTop (mkF m 267 #[.val (.int i0), .val (.int i1), .val (.int i2), .val (.int i3), .val (.int i4), .val (.int i5), .val (.ref ba), .val (.int y0), .val (.int y1), .val (.int y2), .val (.int y3), .val (.ref bn), .val (.int (4 : Int32)), .val (.ref br)] [(.int y3), (.int y3)]))
    refine own_st (fun wt wk => XS.icmpNo X25.here hx rfl (hb hby at_267) rfl (teq (rfl : y3 = y3)).2 wk) ?_
    show Fin1 p e below s (rm0Q Z i0 i1 i2 i3 i4 i5 h0 n0) room_1.cells room_1.slots (T25.setTop (mkF m 270 #[.val (.int i0), .val (.int i1), .val (.int i2), .val (.int i3), .val (.int i4), .val (.int i5), .val (.ref ba), .val (.int y0), .val (.int y1), .val (.int y2), .val (.int y3), .val (.ref bn), .val (.int (4 : Int32)), .val (.ref br)] []))
    refine own_st (fun wt wk => XS.iconst X25.here hx rfl (hb hby at_270) wk) ?_
    show Fin1 p e below s (rm0Q Z i0 i1 i2 i3 i4 i5 h0 n0) room_1.cells room_1.slots (T25.setTop (mkF m 271 #[.val (.int i0), .val (.int i1), .val (.int i2), .val (.int i3), .val (.int i4), .val (.int i5), .val (.ref ba), .val (.int y0), .val (.int y1), .val (.int y2), .val (.int y3), .val (.ref bn), .val (.int (4 : Int32)), .val (.ref br)] [(.int (1 : Int32))]))
    refine own_st (fun wt wk => XS.goto X25.here hx rfl (pc0 := 271) (pc' := 275) rfl (hb hby at_271) (by decide) (by decide) wk) ?_
    show Fin1 p e below s (rm0Q Z i0 i1 i2 i3 i4 i5 h0 n0) room_1.cells room_1.slots (T25.setTop (mkF m 275 #[.val (.int i0), .val (.int i1), .val (.int i2), .val (.int i3), .val (.int i4), .val (.int i5), .val (.ref ba), .val (.int y0), .val (.int y1), .val (.int y2), .val (.int y3), .val (.ref bn), .val (.int (4 : Int32)), .val (.ref br)] [(.int (1 : Int32))]))
    exact own_retZ X25 hx hlk hret (hb hby at_275) (z := (1 : Int32)) (by decide) (by rw [e25]; exact ⟨rfl, N25⟩) (by decide) (by decide)
set_option maxRecDepth 65536 in
set_option maxHeartbeats 40000000 in
theorem comes_1 {Post : Tables → Env → Array Value → State → Outcome → State → Prop} (hpost : ∀ tb e args s v u, (limb_1_1.after args s (.returned v) u = true ∧ limb_1_2.after args s (.returned v) u = true ∧ True) → FrameEnd s (.returned v) u (Jvm.fieldLocs frame_1_writes args s ++ Jvm.arrayLocs frame_1_arrays args s ++ Jvm.staticLocs frame_1_statics s) 16 128 → Post tb e args s (.returned v) u) :
    ArmFor flags0 classFile x code maxLocals ret World_1 tables_1 room_1 Calls_1 rest_1 Pre_1 Post := by
  intro l hfl _ _ p e ha hc hk s m args below hf hA hF happ hP
  obtain ⟨hcalls, hrest, hpre⟩ := hP
  obtain ⟨-, -, -, hnamed, -, -, -, hat⟩ := (Spec.applies_iff hf).mp happ
  obtain ⟨hg, hn⟩ := and_e (Cond.before_iff.mp (show (Jvm.Cond.and given_1 narrow_1).before args s = true from hpre))
  obtain ⟨hcnt, hg1⟩ := and_e hg
  obtain ⟨hv0, hg2⟩ := and_e hg1
  obtain ⟨hv1, hg3⟩ := and_e hg2
  obtain ⟨hv2, hg4⟩ := and_e hg3
  obtain ⟨hv3, hg5⟩ := and_e hg4
  obtain ⟨hv4, hg6⟩ := and_e hg5
  have hv5 := hg6
  obtain ⟨w0, w1, w2, w3, w4, w5, rfl⟩ : ∃ w0 w1 w2 w3 w4 w5 : Value, args = #[w0, w1, w2, w3, w4, w5] := by
    have hs : args.size = 6 := by simpa [Cond.value, given_1] using hcnt
    obtain ⟨L⟩ := args
    match L, hs with
    | [w0, w1, w2, w3, w4, w5], _ => exact ⟨w0, w1, w2, w3, w4, w5, rfl⟩
  have hw := fun d (hd : d ∈ tables_1) => atoms_spec (ws := Jvm.Cond.code x code maxLocals ret :: tables_1) hat d (List.mem_cons_of_mem _ hd)
  have hfit : Fit s := fun {y c} hc i hi => by
    obtain ⟨ha, rfl⟩ := Array.getElem?_eq_some_iff.mp hc
    have q := List.all_eq_true.mp ((Array.all_eq_true_iff_forall_mem.mp hF) _ (Array.getElem_mem ha)) i (List.mem_range.mpr hi)
    simpa [Array.getElem?_eq_getElem hi] using q
  obtain ⟨i0, ei0⟩ := is_v hv0
  obtain rfl : w0 = (.int i0) := Option.some.inj ei0
  obtain ⟨i1, ei1⟩ := is_v hv1
  obtain rfl : w1 = (.int i1) := Option.some.inj ei1
  obtain ⟨i2, ei2⟩ := is_v hv2
  obtain rfl : w2 = (.int i2) := Option.some.inj ei2
  obtain ⟨i3, ei3⟩ := is_v hv3
  obtain rfl : w3 = (.int i3) := Option.some.inj ei3
  obtain ⟨i4, ei4⟩ := is_v hv4
  obtain rfl : w4 = (.int i4) := Option.some.inj ei4
  obtain ⟨i5, ei5⟩ := is_v hv5
  obtain rfl : w5 = (.int i5) := Option.some.inj ei5
  obtain ⟨n, o, h1, h2, h3, _, L, rfl, ⟨rfl, N⟩, hq⟩ := rm0 l s _ hw i0 i1 i2 i3 i4 i5 s.heap s.heap.size (Nat.le_refl _)  p e ha hc hk s m _ below hf ((Spec.applies_iff_loose hf).mp happ).1 ⟨rfl, State.Warmed39.refl s, rfl⟩ trivial
  refine ⟨n, _, h1, h2, h3, hpost _ _ _ _ _ _ ⟨Cond.after_iff.mpr rfl, Cond.after_iff.mpr (eq_i res_at (Term.int_eval (1)) rfl), trivial⟩ ⟨hq.1, hq.2.1, (hq.2.2.sift fun y hy => Or.inr (N y hy)).mono (by decide) (by decide)⟩⟩
theorem main_1_1 : Claimed_1_1 := comes_1 fun _ _ _ _ _ _ h hF => ⟨h.1, hF⟩
theorem main_1_2 : Claimed_1_2 := comes_1 fun _ _ _ _ _ _ h hF => ⟨h.2.1, hF⟩
end Jvm.Pilot.@@N@@
namespace Jvm.Pilot.@@N@@
open Jvm Jvm.ClassFile Sem Op Lib Jvm.Free Jvm.Stand Jvm.Pilot.@@N@@.Jvm.D
/-! MADE BY PROGRAM (witnessworld.py) out of the Statement's table words and the real class files: 9 classes; the members and pool entries that the words name. The judged class is class 1, her method 1. -/
namespace start1
open Jvm.ClassFile
def u (s : String) : CpInfo := .utf8 (stringToUtf16 s)
/-- a pool by its gaps: so many unusable entries, then the entry; so many at the end -/
def gap : Nat → List CpInfo → List CpInfo
  | 0, r => r
  | n + 1, r => .unusable :: gap n r
def poolList (es : List (Nat × CpInfo)) (last : Nat) : List CpInfo := es.foldr (fun e r => gap e.1 (e.2 :: r)) (gap last [])
def pool (es : List (Nat × CpInfo)) (last : Nat) : Array CpInfo := ⟨poolList es last⟩
def fileOf (pool : Array CpInfo) (this : Nat) (attrs : Array Attribute := #[]) (ms : Array MethodInfo := #[]) (fl : Nat := 33) (sup : Nat := 0) (ifs : Array Nat := #[]) (fds : Array FieldInfo := #[]) : ClassFile where
  minorVersion := 0
  majorVersion := 65
  constantPool := pool
  accessFlags := fl
  thisClass := this
  superClass := sup
  interfaces := ifs
  fields := fds
  methods := ms
  attributes := attrs
def plain (name : String) (sup : Option ClassId) : Class where
  name := name
  kind := .ordinary
  loader := none
  accessFlags := 33
  super := sup
  interfaces := #[]
  cf := none
  fields := #[]
  methods := #[]
  instanceTypes := #[]
  staticTypes := #[]
  resolved := #[]
  callSites := []
  init := .initialized
  statics := none
  mirror := none

def pool0 : Array CpInfo := pool [(5, u "<init>"), (0, u "()V"), (1, .class_ 10), (1, u "java/lang/Object")] 113

def k0m0 : Method := { name := "<init>", desc := "()V", sig := { parameters := [], returnType := none }, accessFlags := 1, code := none }
/-- java/lang/Object -/
def k0 : Class := { plain "java/lang/Object" none with
  accessFlags := 33
  interfaces := #[]
  cf := some (fileOf pool0 8 #[] #[{ accessFlags := 1, nameIndex := 5, descriptorIndex := 6, attributes := #[] }] 33 0 #[] #[])
  fields := #[]
  methods := #[k0m0]
  instanceTypes := #[]
  staticTypes := #[]
  resolved := Array.replicate 124 none
  statics := none }

def pool1 : Array CpInfo := pool [(2, .class_ 4), (1, u "java/lang/Object"), (0, u "<init>"), (0, u "()V"), (0, .integer 2147483647), (0, .interfaceMethodref 9 10), (0, .class_ 11), (0, .nameAndType 12 13), (0, u "com/example/mistgraph/mistgraph/core/Connections"), (0, u "some"), (0, u "([I[II)[I"), (0, .methodref 15 16), (0, .class_ 17), (0, .nameAndType 18 19), (0, u "com/example/mistgraph/mistgraph/core/ConnectionsSomePinLaw"), (0, u "pick"), (0, u "(IIIII)I"), (2, u "law"), (0, u "(IIIIII)Z")] 5

def k1m0 : Method := { name := "<init>", desc := "()V", sig := { parameters := [], returnType := none }, accessFlags := 1, code := none }
def k1c1 : Code := { maxStack := 6, maxLocals := 14, code := code, exceptionTable := #[], attributes := #[] }
def k1m1 : Method := { name := "law", desc := "(IIIIII)Z", sig := { parameters := [.int, .int, .int, .int, .int, .int], returnType := some .boolean }, accessFlags := 9, code := some k1c1 }
def k1c2 : Code := { maxStack := 2, maxLocals := 5, code := method_3_code, exceptionTable := #[], attributes := #[] }
def k1m2 : Method := { name := "pick", desc := "(IIIII)I", sig := { parameters := [.int, .int, .int, .int, .int], returnType := some .int }, accessFlags := 10, code := some k1c2 }
/-- com/example/mistgraph/mistgraph/core/ConnectionsSomePinLaw -/
def k1 : Class := { plain "com/example/mistgraph/mistgraph/core/ConnectionsSomePinLaw" (some 0) with
  accessFlags := 49
  interfaces := #[]
  cf := some (fileOf pool1 15 #[] #[{ accessFlags := 1, nameIndex := 5, descriptorIndex := 6, attributes := #[] }, { accessFlags := 9, nameIndex := 22, descriptorIndex := 23, attributes := #[] }, { accessFlags := 10, nameIndex := 18, descriptorIndex := 19, attributes := #[] }] 49 2 #[] #[])
  fields := #[]
  methods := #[k1m0, k1m1, k1m2]
  instanceTypes := #[]
  staticTypes := #[]
  resolved := Array.replicate 29 none
  statics := none }

def pool2 : Array CpInfo := pool [(10, .class_ 12), (1, u "com/example/mistgraph/mistgraph/core/Connections"), (31, u "some"), (0, u "([I[II)[I"), (0, .class_ 47), (0, u "java/lang/Object"), (0, u "UNLIMITED"), (0, u "I")] 30

def k2c0 : Code := { maxStack := 5, maxLocals := 5, code := prog_39_method_8_code, exceptionTable := #[], attributes := #[] }
def k2m0 : Method := { name := "some", desc := "([I[II)[I", sig := { parameters := [(.array .int), (.array .int), .int], returnType := some (.array .int) }, accessFlags := 9, code := some k2c0 }
/-- com/example/mistgraph/mistgraph/core/Connections -/
def k2 : Class := { plain "com/example/mistgraph/mistgraph/core/Connections" (some 0) with
  accessFlags := 1537
  interfaces := #[]
  cf := some (fileOf pool2 10 #[] #[{ accessFlags := 9, nameIndex := 44, descriptorIndex := 45, attributes := #[] }] 1537 46 #[] #[{ accessFlags := 25, nameIndex := 48, descriptorIndex := 49, attributes := #[] }])
  fields := #[{ name := "UNLIMITED", type := .int, accessFlags := 25, slot := 0, constantValue := 0 }]
  methods := #[k2m0]
  instanceTypes := #[]
  staticTypes := #[.int]
  resolved := Array.replicate 80 none
  statics := none }

def pool3 : Array CpInfo := pool [(1, u "java/lang/Cloneable"), (0, .class_ 1), (0, u "java/lang/Object"), (0, .class_ 3)] 3

/-- java/lang/Cloneable -/
def k3 : Class := { plain "java/lang/Cloneable" (some 0) with
  accessFlags := 1537
  interfaces := #[]
  cf := some (fileOf pool3 2 #[] #[] 1537 4 #[] #[])
  fields := #[]
  methods := #[]
  instanceTypes := #[]
  staticTypes := #[]
  resolved := Array.replicate 8 none
  statics := none }

def pool4 : Array CpInfo := pool [(1, u "java/io/Serializable"), (0, .class_ 1), (0, u "java/lang/Object"), (0, .class_ 3)] 3

/-- java/io/Serializable -/
def k4 : Class := { plain "java/io/Serializable" (some 0) with
  accessFlags := 1537
  interfaces := #[]
  cf := some (fileOf pool4 2 #[] #[] 1537 4 #[] #[])
  fields := #[]
  methods := #[]
  instanceTypes := #[]
  staticTypes := #[]
  resolved := Array.replicate 8 none
  statics := none }

/-- the primitive byte -/
def k5 : Class := { plain "byte" none with kind := .primitive 'B', accessFlags := 0x411 }
/-- [B -/
def k6 : Class := { plain "[B" (some 0) with kind := .array 5 .byte, interfaces := #[3, 4], accessFlags := 1041 }

/-- the primitive int -/
def k7 : Class := { plain "int" none with kind := .primitive 'I', accessFlags := 0x411 }
/-- [I -/
def k8 : Class := { plain "[I" (some 0) with kind := .array 7 .int, interfaces := #[3, 4], accessFlags := 1041 }

def heap : Heap := #[]
def classes : Array Class := #[k0, k1, k2, k3, k4, k5, k6, k7, k8]
def interned : List (Array UInt16 × Addr) := []
def slotsUsed : Nat := 0
def theMethod : MethodId := ⟨1, 1⟩
def args0 : Array Value := #[.int 5, .int 7, .int 7, .int 5, .int 7, .int 7]
def aboutOver (below : List Frame) : State where
  vm := { classes := classes, interned := interned.toArray }
  heap := heap
  slotsUsed := slotsUsed
  threads := #[{ frames := .invoking theMethod args0 :: below }]
def below0 : List Frame := [.native { method := ⟨0, 0⟩, args := #[] }]
def about1 : State := aboutOver below0
def p0 : Program := .bare "" "" ""
def e0 : Env := launch0.env 0 0 0
theorem w_frames : about1.frames = Frame.invoking theMethod args0 :: below0 := rfl
set_option maxRecDepth 65536 in
theorem w_args : argsFit about1.vm theMethod args0 = true := by decide +kernel
set_option maxRecDepth 65536 in
theorem w_heap : heapFits about1 = true := by decide +kernel
set_option maxRecDepth 65536 in
theorem w_runnable : about1.curStatus? = some .runnable := by decide +kernel
set_option maxRecDepth 65536 in
theorem w_alone : about1.alone = true := by decide +kernel
set_option maxRecDepth 65536 in
theorem w_named : about1.methodNamed? x = some theMethod := by decide +kernel
set_option maxRecDepth 65536 in
theorem w_hears : about1.hears theMethod below0 = true := by decide +kernel
set_option maxRecDepth 65536 in
theorem w_ripe : about1.ripe theMethod args0 below0 = true := by decide +kernel
theorem w_running : about1.status = .running := rfl
set_option maxRecDepth 65536 in
theorem w_room : about1.hasRoom e0.platform room_1 = true :=
  launch0.hasRoom_least _ room_1 (by decide +kernel) (by decide +kernel) (by decide +kernel) (by decide +kernel) (by decide +kernel) (by decide +kernel)
theorem allAtoms_all (ts : List Jvm.Cond) (a : Array Jvm.Value) (st : Jvm.State) : (allAtoms ts).before a st = ts.all (fun c => c.before a st) := by
  induction ts with
  | nil => rfl
  | cons c t ih =>
    show (Jvm.Cond.and c (allAtoms t)).before a st = _
    rw [Jvm.Cond.before_and, ih, List.all_cons]
def words1 : List Jvm.Cond := Jvm.Cond.code x code maxLocals ret :: tables_1
/-- a 'code' word, met by the world's own term for the bytes: nothing is compared byte by byte -/
theorem code_word {y : MethodName} {bytes : ByteArray} {mx : Nat} {rt : Option FieldType} {a : Array Value} {s : State} {m : MethodId} {meth : Method} {c : Code} (h1 : s.methodNamed? y = some m) (h2 : s.vm.method? m = some meth) (h3 : meth.code = some c) (h4 : c.code = bytes)
    (h5 : (c.maxLocals == mx && c.exceptionTable.isEmpty && decide (c.maxStack ≤ mostOperands) && decide (meth.sig.returnType = rt) && !meth.locks && decide (parseMethodDescriptor y.desc = some meth.sig)) = true) : (Jvm.Cond.code y bytes mx rt).before a s = true := by
  simp only [Bool.and_eq_true, beq_iff_eq, Bool.not_eq_true', decide_eq_true_eq] at h5
  obtain ⟨⟨⟨⟨⟨g1, g2⟩, g3⟩, g4⟩, g5⟩, g6⟩ := h5
  simp [Cond.before, Cond.holds, Cond.value, h1, h2, h3, h4, g1, g2, g3, g4, g5, g6]
def isCode : Jvm.Cond → Bool
  | .code _ _ _ _ => true
  | _ => false
theorem all_split {L : List Jvm.Cond} {P : Jvm.Cond → Bool} (h1 : L.all (fun c => isCode c || P c) = true) (h2 : ∀ c ∈ L.filter isCode, P c = true) : L.all P = true := by
  refine List.all_eq_true.mpr fun c hc => ?_
  have h := List.all_eq_true.mp h1 c hc
  rcases Bool.eq_false_or_eq_true (isCode c) with hi | hi
  · exact h2 c (List.mem_filter.mpr ⟨hc, hi⟩)
  · simpa [hi] using h
set_option maxRecDepth 65536 in
theorem w_c0 : (Jvm.Cond.code x code maxLocals ret).before args0 about1 = true := code_word (m := ⟨1, 1⟩) (meth := k1m1) (c := k1c1) (by decide +kernel) rfl rfl rfl (by decide +kernel)
set_option maxRecDepth 65536 in
theorem w_c1 : (Jvm.Cond.code ({ cls := "com/example/mistgraph/mistgraph/core/Connections", name := "some", desc := "([I[II)[I" } : Jvm.MethodName) prog_39_method_8_code (5 : Nat) (Option.some (Jvm.ClassFile.FieldType.array Jvm.ClassFile.FieldType.int))).before args0 about1 = true := code_word (m := ⟨2, 0⟩) (meth := k2m0) (c := k2c0) (by decide +kernel) rfl rfl rfl (by decide +kernel)
set_option maxRecDepth 65536 in
theorem w_c2 : (Jvm.Cond.code ({ cls := "com/example/mistgraph/mistgraph/core/ConnectionsSomePinLaw", name := "pick", desc := "(IIIII)I" } : Jvm.MethodName) method_3_code (5 : Nat) (Option.some Jvm.ClassFile.FieldType.int)).before args0 about1 = true := code_word (m := ⟨1, 2⟩) (meth := k1m2) (c := k1c2) (by decide +kernel) rfl rfl rfl (by decide +kernel)
def codes1 : List Jvm.Cond := [Jvm.Cond.code x code maxLocals ret, Jvm.Cond.code ({ cls := "com/example/mistgraph/mistgraph/core/Connections", name := "some", desc := "([I[II)[I" } : Jvm.MethodName) prog_39_method_8_code (5 : Nat) (Option.some (Jvm.ClassFile.FieldType.array Jvm.ClassFile.FieldType.int)), Jvm.Cond.code ({ cls := "com/example/mistgraph/mistgraph/core/ConnectionsSomePinLaw", name := "pick", desc := "(IIIII)I" } : Jvm.MethodName) method_3_code (5 : Nat) (Option.some Jvm.ClassFile.FieldType.int)]
set_option maxRecDepth 65536 in
theorem codes_eq : words1.filter isCode = codes1 := rfl
theorem w_codes : ∀ c ∈ words1.filter isCode, c.before args0 about1 = true := by
  rw [codes_eq]
  intro c hc
  simp only [codes1, List.mem_cons, List.not_mem_nil, or_false] at hc
  rcases hc with rfl | rfl | rfl
  · exact w_c0
  · exact w_c1
  · exact w_c2
set_option maxRecDepth 65536 in
theorem w_t1 : words1.all (fun c => isCode c || c.before args0 about1) = true := by decide +kernel
theorem w_tables : (allAtoms (Jvm.Cond.code x code maxLocals ret :: tables_1)).before args0 about1 = true := by
  rw [allAtoms_all]
  show words1.all (fun c => c.before args0 about1) = true
  refine all_split ?_ w_codes
  rw [w_t1]
set_option maxRecDepth 65536 in
theorem w_case : (Jvm.Cond.and given_1 narrow_1).before args0 about1 = true := by decide +kernel
theorem w_applies : (headSpec (Jvm.Cond.code x code maxLocals ret :: tables_1) room_1).applies x e0.platform about1 = true :=
  (Spec.applies_iff w_frames).mpr ⟨w_running, w_runnable, w_alone, w_named, w_hears, w_ripe, w_room, w_tables⟩
theorem atStart : AtStart classFile x code maxLocals ret World_1 tables_1 room_1 Calls_1 rest_1 Pre_1 launch0 p0 e0 about1 theMethod args0 below0 :=
  ⟨lists_1, trivial, launch0.admits_env _ _ _, launch0.least_env, fairChoices_fair.cas, fairChoices_fair.clock, w_frames, w_args, w_heap, w_applies, trivial, trivial, w_case⟩
end start1
theorem witness_1 : WitnessClaimed_1 := ⟨start1.p0, start1.e0, start1.about1, start1.theMethod, start1.args0, start1.below0, start1.atStart⟩
end Jvm.Pilot.@@N@@
