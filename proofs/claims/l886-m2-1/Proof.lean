import JvmDerived
import JvmDerived.Pilot.@@N@@Statement
import JvmDerived.Pilot.@@N@@Code
set_option linter.unusedVariables false
set_option linter.unusedSimpArgs false
namespace Jvm.Pilot.@@N@@
open Jvm Jvm.ClassFile Sem Op Lib Jvm.Free Jvm.Stand Jvm.LawKit Jvm.RoadKit Bundle Jvm.Pilot.@@N@@.Jvm.D
section OwnKit
variable {p : Program} {l : Launch} {e : Env} {R : Room} {s : State} {m : MethodId} {args : Array Value} {below : List Frame} {meth : Method} {c : Code} {T : State} {locs : List Loc} {cells slots : Nat} {Z : State} {a0 : Array Value} {h : Heap} {Q : Option Value → Heap → List Loc → Prop} {cl sl : Nat}
/-- from the state U the run comes back, and what it leaves is as Q says -/
def Fin1 (p : Program) (e : Env) (below : List Frame) (s : State) (Q : Option Value → Heap → List Loc → Prop) (cl sl : Nat) (U : State) : Prop :=
  ∃ s₂ o, Steps p.tables e below U s₂ ∧ s₂.status = .running ∧ Ended s₂ below o ∧ ∃ v L, o = .returned v ∧ Q v s₂.heap L ∧ FrameEnd s o s₂ L cl sl
theorem own_st {U V : State} (h : ∀ t, Steps p.tables e below V t → Steps p.tables e below U t) (k : Fin1 p e below s Q cl sl V) : Fin1 p e below s Q cl sl U := by
  obtain ⟨s₂, o, h1, r⟩ := k
  exact ⟨s₂, o, h _ h1, r⟩
/-- a contract -/
def Ct (l : Launch) (Z : State) (ws : List Jvm.Cond) (y : MethodName) (bytes : ByteArray) (maxL : Nat) (ret : Option FieldType) (rm : Room) (as' : Array Value) (h : Heap) (Q : Option Value → Heap → List Loc → Prop) : Prop :=
  MetFree l y (head1 (Jvm.Cond.code y bytes maxL ret :: ws) rm) (fun a U => a = as' ∧ Z.Warmed39 U.vm ∧ U.heap = h) (fun _ _ _ _ _ => True) (fun _ U o U' => ∃ v L, o = .returned v ∧ Q v U'.heap L ∧ FrameEnd U o U' L rm.cells rm.slots)
theorem own_enter {ws : List Jvm.Cond} {y : MethodName} {bytes : ByteArray} {maxL : Nat} {ret : Option FieldType} {rm : Room} {as' : Array Value} (hp : plainFor y = true)
    (body : ∀ (p : Program) (e : Env) (s : State) (m : MethodId) (below : List Frame) (meth : Method) (c : Code) (T : State), Stand p l e rm s m as' below meth c T [] 0 0 → p.tables.exec = Jvm.exec → c.code = bytes → c.maxLocals = maxL → Z.Warmed39 s.vm → s.vm.findClass y.cls = some m.cls → meth.name = y.name →
      meth.sig.returnType = ret → meth.locks = false → T.heap = h → Fin1 p e below s Q rm.cells rm.slots (T.setTop (entryFrame m as' maxL))) : Ct l Z ws y bytes maxL ret rm as' h Q := by
  refine MetFree.of_bodySF hp hisR ?_
  intro p e s m args below meth c s₁ Bd hml hP _
  obtain ⟨rfl, hZ, hh⟩ := hP
  exact body p e s m below meth c s₁ (Stand.of_body Bd) Bd.exec Bd.bytes hml hZ (findClass_of_methodNamed Bd.named) (name_of_methodNamed Bd.named Bd.method).1 Bd.returns (BodyLoose.notSynchronized Bd) (by rw [← hh, Bd.state]; rfl)
/-- a stronger promise pays a weaker one -/
theorem Ct.mono {ws : List Jvm.Cond} {y : MethodName} {bytes : ByteArray} {maxL : Nat} {ret : Option FieldType} {rm : Room} {as' : Array Value} {Q' : Option Value → Heap → List Loc → Prop} (hC : Ct l Z ws y bytes maxL ret rm as' h Q) (hQ : ∀ v h' L, Q v h' L → Q' v h' L) : Ct l Z ws y bytes maxL ret rm as' h Q' := by
  intro p e ha hc hk s m args below hf happ hP hK
  obtain ⟨n, o, h1, h2, h3, v, L, h4, h5, h6⟩ := hC p e ha hc hk s m args below hf happ hP hK
  exact ⟨n, o, h1, h2, h3, v, L, h4, hQ _ _ _ h5, h6⟩
theorem own_leave (X : Stand p l e R s m args below meth c T locs cells slots) (hlk : meth.locks = false) {v : Option Value} (hv : meth.sig.returnType = none → v = none) {U : State}
    (hst : ∀ fs, (∀ (f : JFrame) (acts : List Action), f.method = m → f.locked = none → f.entered = [] → (doReturn e (T.setTop f) acts v).1 = T.setFrames fs) → Steps p.tables e below U (T.setFrames fs))
    (hQ : Q v T.heap locs) (hc : cells ≤ cl) (hs : slots ≤ sl) : Fin1 p e below s Q cl sl U := by
  obtain ⟨fs, hr, hrun, hended, hW, hsame⟩ := X.leave (v := v) hv hlk
  exact ⟨_, _, hst fs hr, hrun, hended, v, locs, rfl, hQ, ⟨_, rfl⟩, hW, hsame.mono hc hs⟩
theorem own_retV (X : Stand p l e R s m args below meth c T locs cells slots) (hx : p.tables.exec = Jvm.exec) (hlk : meth.locks = false) {pc : Nat} {Ls : Array Slot} (hret : meth.sig.returnType = none) (hd : decode c.code pc = .ok (.return_, 1))
    (hQ : Q none T.heap locs) (hc : cells ≤ cl) (hs : slots ≤ sl) : Fin1 p e below s Q cl sl (T.setTop (mkF m pc Ls [])) :=
  own_leave X hlk (fun _ => rfl) (fun fs hr => X.returnOut hx hret hd hr) hQ hc hs
theorem own_retI (X : Stand p l e R s m args below meth c T locs cells slots) (hx : p.tables.exec = Jvm.exec) (hlk : meth.locks = false) {pc : Nat} {Ls : Array Slot} {z : Int32} {rest : List Value} (hret : meth.sig.returnType = some .int) (hd : decode c.code pc = .ok (.ireturn, 1))
    (hQ : Q (some (.int z)) T.heap locs) (hc : cells ≤ cl) (hs : slots ≤ sl) : Fin1 p e below s Q cl sl (T.setTop (mkF m pc Ls (.int z :: rest))) :=
  own_leave X hlk (fun h => by rw [hret] at h; cases h) (fun fs hr => retOut X hx hret rfl (Or.inl ⟨rfl, Or.inl rfl, _, rfl⟩) hd hr) hQ hc hs
theorem own_retZ (X : Stand p l e R s m args below meth c T locs cells slots) (hx : p.tables.exec = Jvm.exec) (hlk : meth.locks = false) {pc : Nat} {Ls : Array Slot} {rest : List Value} (hret : meth.sig.returnType = some .boolean) (hd : decode c.code pc = .ok (.ireturn, 1)) {z : Int32} (hz : z = 0 ∨ z = 1)
    (hQ : Q (some (.int z)) T.heap locs) (hc : cells ≤ cl) (hs : slots ≤ sl) : Fin1 p e below s Q cl sl (T.setTop (mkF m pc Ls (.int z :: rest))) :=
  own_leave X hlk (fun h => by rw [hret] at h; cases h) (fun fs hr => retOut X hx hret (by rcases hz with rfl | rfl <;> rfl) (Or.inl ⟨rfl, Or.inr (Or.inl rfl), _, rfl⟩) hd hr) hQ hc hs
theorem own_retJ (X : Stand p l e R s m args below meth c T locs cells slots) (hx : p.tables.exec = Jvm.exec) (hlk : meth.locks = false) {pc : Nat} {Ls : Array Slot} {z : Int64} {rest : List Value} (hret : meth.sig.returnType = some .long) (hd : decode c.code pc = .ok (.lreturn, 1))
    (hQ : Q (some (.long z)) T.heap locs) (hc : cells ≤ cl) (hs : slots ≤ sl) : Fin1 p e below s Q cl sl (T.setTop (mkF m pc Ls (.long z :: rest))) :=
  own_leave X hlk (fun h => by rw [hret] at h; cases h) (fun fs hr => retOut X hx hret rfl (Or.inr (Or.inl ⟨rfl, rfl, _, rfl⟩)) hd hr) hQ hc hs
theorem own_retA (X : Stand p l e R s m args below meth c T locs cells slots) (hx : p.tables.exec = Jvm.exec) (hlk : meth.locks = false) {pc : Nat} {Ls : Array Slot} {z : Value} {rest : List Value} {t : FieldType} (hret : meth.sig.returnType = some t) (ht : t.isReference = true) (hz : z.isRef = true) (hd : decode c.code pc = .ok (.areturn, 1))
    (hQ : Q (some z) T.heap locs) (hc : cells ≤ cl) (hs : slots ≤ sl) : Fin1 p e below s Q cl sl (T.setTop (mkF m pc Ls (z :: rest))) :=
  own_leave X hlk (fun h => by rw [hret] at h; cases h) (fun fs hr => retOut X hx hret (by cases t <;> first | (cases ht; done) | (cases z <;> first | (cases hz; done) | rfl)) (Or.inr (Or.inr (Or.inr (Or.inr ⟨rfl, ht, hz⟩)))) hd hr) hQ hc hs
variable {own : String} {index : Nat} {y z : MethodName} {bytes : ByteArray} {maxL : Nat} {ret : Option FieldType} {rm : Room} {argsL rest : List Value} {a : Addr}
theorem own_static (X : Stand p l e R s m args below meth c T locs cells slots) (hx : p.tables.exec = Jvm.exec) (hZ : Z.Warmed39 s.vm) (hown : s.vm.findClass own = some m.cls) (w1 : (Jvm.Cond.methodLink own index y).before a0 Z = true) (w2 : (Jvm.Cond.static y).before a0 Z = true) (w3 : (Jvm.Cond.initialized y.cls).before a0 Z = true)
    (w4 : (Jvm.Cond.code y bytes maxL ret).before a0 Z = true) (hy : y.cls ≠ "java/lang/invoke/MethodHandle" ∧ y.cls ≠ "java/lang/invoke/VarHandle") (hC : Ct l Z [] y bytes maxL ret rm argsL.toArray h Q) (eT : T.heap = h) {g : JFrame} (hg : g.method = m) (hsize : g.locals.size = c.maxLocals)
    (hlen : ∀ sig, parseMethodDescriptor y.desc = some sig → argsL.length = sig.parameters.length) (hs : g.stack = argsL.reverse ++ rest) {W : Nat} (hW : 2 * g.monitorRoom + (rest.map fun v => v.category).sum ≤ W) (hd : decode c.code g.pc = .ok (.invokestatic index, 3))
    (hf : rm.frames + 1 ≤ R.frames) (hl : W + (maxL + 11) + rm.locals ≤ R.locals) (hc : cells + rm.cells ≤ R.cells) (hsl : slots + rm.slots ≤ R.slots) :
    ∃ v T' h' L, Stand p l e R s m args below meth c T' (locs ++ L) (cells + rm.cells) (slots + rm.slots) ∧ T'.heap = h' ∧ Q v h' L ∧ ∀ t, Steps p.tables e below (T'.setTop { g with pc := g.pc + 3, stack := v.toList ++ rest }) t → Steps p.tables e below (T.setTop g) t := by
  obtain ⟨v, _, ⟨T', L', k', n'⟩, -, X', ⟨Lc, hQ, l1, y1, z1⟩, st⟩ := Jvm.LawKit.callS X hx (y := y) hown (mvT hZ w1) (mvT hZ w2) (mvT hZ w3) (mvT hZ w4) hy (backOf (W := W) hC hZ w4 w3 hf hl) hg hsize hlen hs hW hd (fun _ _ => ⟨rfl, eT, hc, hsl⟩)
  dsimp only [Pt.U, Pt.locs, Pt.cells, Pt.slots] at X' l1 y1 z1 st hQ
  subst l1 y1 z1
  exact ⟨v, T', _, Lc, X', rfl, hQ, st⟩
theorem own_special (X : Stand p l e R s m args below meth c T locs cells slots) (hx : p.tables.exec = Jvm.exec) (hZ : Z.Warmed39 s.vm) (hown : s.vm.findClass own = some m.cls) (hy1 : y.name = "<init>") (w1 : (Jvm.Cond.methodLink own index y).before a0 Z = true) (w2 : (Jvm.Cond.instanceMethod y).before a0 Z = true)
    (w4 : (Jvm.Cond.code y bytes maxL none).before a0 Z = true) (w3 : (Jvm.Cond.initialized y.cls).before a0 Z = true) (hy : y.cls ≠ "java/lang/invoke/MethodHandle" ∧ y.cls ≠ "java/lang/invoke/VarHandle") (hC : Ct l Z [] y bytes maxL none rm (.ref a :: argsL).toArray h Q) (eT : T.heap = h) {g : JFrame} (hg : g.method = m) (hsize : g.locals.size = c.maxLocals)
    (hlen : ∀ sig, parseMethodDescriptor y.desc = some sig → argsL.length = sig.parameters.length) (hs : g.stack = argsL.reverse ++ .ref a :: rest) {W : Nat} (hW : 2 * g.monitorRoom + (rest.map fun v => v.category).sum ≤ W) (hd : decode c.code g.pc = .ok (.invokespecial index, 3))
    (hf : rm.frames + 1 ≤ R.frames) (hl : W + (maxL + 11) + rm.locals ≤ R.locals) (hc : cells + rm.cells ≤ R.cells) (hsl : slots + rm.slots ≤ R.slots) :
    ∃ v T' h' L, Stand p l e R s m args below meth c T' (locs ++ L) (cells + rm.cells) (slots + rm.slots) ∧ T'.heap = h' ∧ Q v h' L ∧ ∀ t, Steps p.tables e below (T'.setTop { g with pc := g.pc + 3, stack := v.toList ++ rest }) t → Steps p.tables e below (T.setTop g) t := by
  obtain ⟨v, _, ⟨T', L', k', n'⟩, -, X', ⟨Lc, hQ, l1, y1, z1⟩, st⟩ := X.specialBack hx (y := y) hy1 hown (mvT hZ w1) (mvT hZ w2) (mvT hZ w4) hy (backOf (W := W) hC hZ w4 w3 hf hl) hg hsize (Steps.refl _) (a := a) hlen hs hW hd (fun _ _ => ⟨rfl, eT, hc, hsl⟩)
  dsimp only [Pt.U, Pt.locs, Pt.cells, Pt.slots] at X' l1 y1 z1 st hQ
  subst l1 y1 z1
  exact ⟨v, T', _, Lc, X', rfl, hQ, fun t k => st.trans k⟩
theorem own_virtual {C : String} (X : Stand p l e R s m args below meth c T locs cells slots) (hx : p.tables.exec = Jvm.exec) (hZ : Z.Warmed39 s.vm) (hown : s.vm.findClass own = some m.cls) (w1 : (Jvm.Cond.methodLink own index y).before a0 Z = true) (w2 : (Jvm.Cond.declares y).before a0 Z = true) (w5 : (Jvm.Cond.selects C y y).before a0 Z = true)
    (w6 : (Jvm.Cond.instanceMethod y).before a0 Z = true) (w4 : (Jvm.Cond.code y bytes maxL ret).before a0 Z = true) (w3 : (Jvm.Cond.initialized y.cls).before a0 Z = true) (hy : y.cls ≠ "java/lang/invoke/MethodHandle" ∧ y.cls ≠ "java/lang/invoke/VarHandle") (E : Exa Z h a C) (hC : Ct l Z [] y bytes maxL ret rm (.ref a :: argsL).toArray h Q) (eT : T.heap = h) {g : JFrame} (hg : g.method = m) (hsize : g.locals.size = c.maxLocals)
    (hlen : ∀ sig, parseMethodDescriptor y.desc = some sig → argsL.length = sig.parameters.length) (hs : g.stack = argsL.reverse ++ .ref a :: rest) {W : Nat} (hW : 2 * g.monitorRoom + (rest.map fun v => v.category).sum ≤ W) (hd : decode c.code g.pc = .ok (.invokevirtual index, 3))
    (hf : rm.frames + 1 ≤ R.frames) (hl : W + (maxL + 11) + rm.locals ≤ R.locals) (hc : cells + rm.cells ≤ R.cells) (hsl : slots + rm.slots ≤ R.slots) :
    ∃ v T' h' L, Stand p l e R s m args below meth c T' (locs ++ L) (cells + rm.cells) (slots + rm.slots) ∧ T'.heap = h' ∧ Q v h' L ∧ ∀ t, Steps p.tables e below (T'.setTop { g with pc := g.pc + 3, stack := v.toList ++ rest }) t → Steps p.tables e below (T.setTop g) t := by
  obtain ⟨cq, kq, qa, qb, qc⟩ := isOf hZ eT E
  obtain ⟨v, _, ⟨T', L', k', n'⟩, -, X', ⟨Lc, hQ, l1, y1, z1⟩, st⟩ := X.virtualBack hx (y := y) (z := y) hown (mvT hZ w1) (mvT hZ w2) (notFace_of_selects (args := #[]) (mvT hZ w5)) (mvT hZ w5) (mvT hZ w6) hy (backOf (W := W) hC hZ w4 w3 hf hl) qa qc hg hsize (Steps.refl _) hlen hs hW hd (fun _ _ => ⟨rfl, eT, hc, hsl⟩)
  dsimp only [Pt.U, Pt.locs, Pt.cells, Pt.slots] at X' l1 y1 z1 st hQ
  subst l1 y1 z1
  exact ⟨v, T', _, Lc, X', rfl, hQ, fun t k => st.trans k⟩
theorem own_private {nn : Nat} (X : Stand p l e R s m args below meth c T locs cells slots) (hx : p.tables.exec = Jvm.exec) (hZ : Z.Warmed39 s.vm) (hown : s.vm.findClass own = some m.cls) (w1 : (Jvm.Cond.methodLink own index y).before a0 Z = true) (w2 : (Jvm.Cond.instanceMethod y).before a0 Z = true) (wi : (Jvm.Cond.instantiable y.cls nn).before a0 Z = true)
    (wp : (Jvm.Cond.privateMethod y).before a0 Z = true) (w4 : (Jvm.Cond.code y bytes maxL ret).before a0 Z = true) (w3 : (Jvm.Cond.initialized y.cls).before a0 Z = true) (hy : y.cls ≠ "java/lang/invoke/MethodHandle" ∧ y.cls ≠ "java/lang/invoke/VarHandle") (E : Exa Z h a y.cls) (hC : Ct l Z [] y bytes maxL ret rm (.ref a :: argsL).toArray h Q) (eT : T.heap = h) {g : JFrame} (hg : g.method = m) (hsize : g.locals.size = c.maxLocals)
    (hlen : ∀ sig, parseMethodDescriptor y.desc = some sig → argsL.length = sig.parameters.length) (hs : g.stack = argsL.reverse ++ .ref a :: rest) {W : Nat} (hW : 2 * g.monitorRoom + (rest.map fun v => v.category).sum ≤ W) (hd : decode c.code g.pc = .ok (.invokevirtual index, 3))
    (hf : rm.frames + 1 ≤ R.frames) (hl : W + (maxL + 11) + rm.locals ≤ R.locals) (hc : cells + rm.cells ≤ R.cells) (hsl : slots + rm.slots ≤ R.slots) :
    ∃ v T' h' L, Stand p l e R s m args below meth c T' (locs ++ L) (cells + rm.cells) (slots + rm.slots) ∧ T'.heap = h' ∧ Q v h' L ∧ ∀ t, Steps p.tables e below (T'.setTop { g with pc := g.pc + 3, stack := v.toList ++ rest }) t → Steps p.tables e below (T.setTop g) t := by
  obtain ⟨cell, hcell, hobj⟩ := E.cell
  have hsel : (Jvm.Cond.selects y.cls y y).before args s = true := by
    obtain ⟨c', k', i1, i2, -, i4, -⟩ := Cond.instantiable_spec (mvT hZ wi : (Jvm.Cond.instantiable y.cls nn).before args s = true)
    exact selects_self_of_private i1 i2 (Bool.or_eq_false_iff.mp i4).1 (Cond.privateMethod_at (mvP hZ wp (args := args))) (mvT hZ w2) hy
  obtain ⟨v, _, ⟨T', L', k', n'⟩, -, X', ⟨Lc, hQ, l1, y1, z1⟩, st⟩ := X.privateBack hx (y := y) hown (mvT hZ w1) (mvT hZ w2) hsel (Cond.privateMethod_at (mvP hZ wp (args := #[]))) (mvT hZ w4) hy (backOf (W := W) hC hZ w4 w3 hf hl) hg hsize (Steps.refl _) (a := a) (by rw [eT]; exact hcell) hobj hlen hs hW hd (fun _ _ => ⟨rfl, eT, hc, hsl⟩)
  dsimp only [Pt.U, Pt.locs, Pt.cells, Pt.slots] at X' l1 y1 z1 st hQ
  subst l1 y1 z1
  exact ⟨v, T', _, Lc, X', rfl, hQ, fun t k => st.trans k⟩
theorem own_virtualUp {C owner : String} (X : Stand p l e R s m args below meth c T locs cells slots) (hx : p.tables.exec = Jvm.exec) (hZ : Z.Warmed39 s.vm) (hown : s.vm.findClass own = some m.cls) (w1 : (Jvm.Cond.methodLink own index y).before a0 Z = true) (ws : (Jvm.Cond.sameMethod y.cls owner y.name y.desc).before a0 Z = true) (w2 : (Jvm.Cond.declares ⟨owner, y.name, y.desc⟩).before a0 Z = true) (w5 : (Jvm.Cond.selects C y z).before a0 Z = true)
    (w6 : (Jvm.Cond.instanceMethod z).before a0 Z = true) (w4 : (Jvm.Cond.code z bytes maxL ret).before a0 Z = true) (w3 : (Jvm.Cond.initialized z.cls).before a0 Z = true) (ho : owner ≠ "java/lang/invoke/MethodHandle" ∧ owner ≠ "java/lang/invoke/VarHandle") (E : Exa Z h a C) (hC : Ct l Z [] z bytes maxL ret rm (.ref a :: argsL).toArray h Q) (eT : T.heap = h) {g : JFrame} (hg : g.method = m) (hsize : g.locals.size = c.maxLocals)
    (hlen : ∀ sig, parseMethodDescriptor y.desc = some sig → argsL.length = sig.parameters.length) (hs : g.stack = argsL.reverse ++ .ref a :: rest) {W : Nat} (hW : 2 * g.monitorRoom + (rest.map fun v => v.category).sum ≤ W) (hd : decode c.code g.pc = .ok (.invokevirtual index, 3))
    (hf : rm.frames + 1 ≤ R.frames) (hl : W + (maxL + 11) + rm.locals ≤ R.locals) (hc : cells + rm.cells ≤ R.cells) (hsl : slots + rm.slots ≤ R.slots) :
    ∃ v T' h' L, Stand p l e R s m args below meth c T' (locs ++ L) (cells + rm.cells) (slots + rm.slots) ∧ T'.heap = h' ∧ Q v h' L ∧ ∀ t, Steps p.tables e below (T'.setTop { g with pc := g.pc + 3, stack := v.toList ++ rest }) t → Steps p.tables e below (T.setTop g) t := by
  obtain ⟨cq, kq, qa, qb, qc⟩ := isOf hZ eT E
  obtain ⟨v, _, ⟨T', L', k', n'⟩, -, X', ⟨Lc, hQ, l1, y1, z1⟩, st⟩ := X.virtualBackUp hx (x := y) (y := z) (owner := owner) hown (mvT hZ w1) (mvT hZ ws) (mvT hZ w2) ho (mvT hZ w5) (mvT hZ w6) (backOf (W := W) hC hZ w4 w3 hf hl) qa qc hg hsize (Steps.refl _) hlen hs hW hd (fun _ _ => ⟨rfl, eT, hc, hsl⟩)
  dsimp only [Pt.U, Pt.locs, Pt.cells, Pt.slots] at X' l1 y1 z1 st hQ
  subst l1 y1 z1
  exact ⟨v, T', _, Lc, X', rfl, hQ, fun t k => st.trans k⟩
theorem own_ref {x : Value} (hq : x = .null ∨ ∃ b, x = .ref b) : x.isRef = true := by rcases hq with rfl | ⟨_, rfl⟩ <;> rfl
theorem own_cat {x : Value} (hq : x = .null ∨ ∃ b, x = .ref b) : x.category = 1 := by rcases hq with rfl | ⟨_, rfl⟩ <;> rfl
theorem own_nar {x : Value} {t : FieldType} (hq : x = .null ∨ ∃ b, x = .ref b) (ht : t.isReference = true) : narrow t x = x := by rcases hq with rfl | ⟨_, rfl⟩ <;> cases t <;> first | rfl | (cases ht; done)
theorem own_fit {x : Value} {t : FieldType} (hq : x = .null ∨ ∃ b, x = .ref b) (ht : t.isReference = true) : fits t x = true := by rcases hq with rfl | ⟨_, rfl⟩ <;> cases t <;> first | rfl | (cases ht; done)
variable {k : ClassId} {ty : FieldType} {n j : Int32} {vs : List Value} {dv v : Value}
theorem own_ld (X : Stand p l e R s m args below meth c T locs cells slots) (hx : p.tables.exec = Jvm.exec) (hZ : Z.Warmed39 s.vm) (eT : T.heap = h) (F : Arv Z h a k ty n vs dv) (hj : ¬ j < 0 ∧ j < n) (hv : vs.getD j.toNatClampNeg dv = v) {g : JFrame} (hg : g.method = m) (hs : g.stack = .int j :: .ref a :: rest) {i : Instr}
    (hi : (i = .iaload ∧ ty = .int) ∨ (i = .laload ∧ ty = .long) ∨ (i = .aaload ∧ ty.isReference = true)) (hd : decode c.code g.pc = .ok (i, 1)) : ∀ t, Steps p.tables e below (T.setTop { g with pc := g.pc + 1, stack := v :: rest }) t → Steps p.tables e below (T.setTop g) t := by
  obtain ⟨cl, A, -, S, -, H, -⟩ := F
  have hin := inb_of S hj
  have hat := H.at hin hv
  rcases hi with ⟨rfl, rfl⟩ | ⟨rfl, rfl⟩ | ⟨rfl, ht⟩
  · exact X.iaload hx (j := j) (v := v) (by rw [eT]; exact A.1) (State.isArrayOf_alike hZ.alike A.2.1) A.2.2 hin hat hg hs hd
  · exact X.laload hx (j := j) (v := v) (by rw [eT]; exact A.1) (State.isArrayOf_alike hZ.alike A.2.1) A.2.2 hin hat hg hs hd
  · exact X.aaload hx (j := j) (v := v) (by rw [eT]; exact A.1) (State.isArrayOf_alike hZ.alike A.2.1) ht A.2.2 hin hat hg hs hd
theorem own_len (X : Stand p l e R s m args below meth c T locs cells slots) (hx : p.tables.exec = Jvm.exec) (hZ : Z.Warmed39 s.vm) (eT : T.heap = h) (F : Arv Z h a k ty n vs dv) {g : JFrame} (hg : g.method = m) (hs : g.stack = .ref a :: rest) (hd : decode c.code g.pc = .ok (.arraylength, 1)) :
    ∀ t, Steps p.tables e below (T.setTop { g with pc := g.pc + 1, stack := .int n :: rest }) t → Steps p.tables e below (T.setTop g) t := by
  obtain ⟨cl, A, -, S, q, -, -⟩ := F
  intro t kt
  refine X.arraylength hx (by rw [eT]; exact A.1) (State.isArrayOf_alike hZ.alike A.2.1) hg hs hd t ?_
  rw [len_of S q]
  exact kt
theorem own_lenA {cc : Cell} (X : Stand p l e R s m args below meth c T locs cells slots) (hx : p.tables.exec = Jvm.exec) (hZ : Z.Warmed39 s.vm) (eT : T.heap = h) (A : Arr Z h a cc ty) (hn : cc.slots.size.toInt32 = n) {g : JFrame} (hg : g.method = m) (hs : g.stack = .ref a :: rest) (hd : decode c.code g.pc = .ok (.arraylength, 1)) :
    ∀ t, Steps p.tables e below (T.setTop { g with pc := g.pc + 1, stack := .int n :: rest }) t → Steps p.tables e below (T.setTop g) t := by
  intro t kt
  refine X.arraylength hx (by rw [eT]; exact A.1) (State.isArrayOf_alike hZ.alike A.2.1) hg hs hd t ?_
  rw [hn]
  exact kt
theorem own_stI (X : Stand p l e R s m args below meth c T locs cells slots) (hx : p.tables.exec = Jvm.exec) (hZ : Z.Warmed39 s.vm) (eT : T.heap = h) (F : Arv Z h a k .int n vs dv) (hj : ¬ j < 0 ∧ j < n) (i : Nat) (hi : j.toNatClampNeg = i) (hl : i < vs.length) {x : Int32} {g : JFrame} (hg : g.method = m) (hs : g.stack = .int x :: .int j :: .ref a :: rest) (hd : decode c.code g.pc = .ok (.iastore, 1)) :
    ∃ T' h', Stand p l e R s m args below meth c T' (locs ++ [⟨a, j.toNatClampNeg⟩]) cells slots ∧ T'.heap = h' ∧ Wr h h' a j.toNatClampNeg (.int x) ∧ Arv Z h' a k .int n (vs.set i (.int x)) dv ∧ ∀ t, Steps p.tables e below (T'.setTop { g with pc := g.pc + 1, stack := rest }) t → Steps p.tables e below (T.setTop g) t := by
  obtain ⟨cl, A, q1, S, q3, H, G⟩ := F
  obtain ⟨T', h', X', e', W, st⟩ := stI X hx hZ eT A (inb_of S hj) hg hs hd
  exact ⟨T', h', X', e', W, Arv.set A q1 S q3 H G rfl W i hi hl, st⟩
theorem own_stJ (X : Stand p l e R s m args below meth c T locs cells slots) (hx : p.tables.exec = Jvm.exec) (hZ : Z.Warmed39 s.vm) (eT : T.heap = h) (F : Arv Z h a k .long n vs dv) (hj : ¬ j < 0 ∧ j < n) (i : Nat) (hi : j.toNatClampNeg = i) (hl : i < vs.length) {x : Int64} {g : JFrame} (hg : g.method = m) (hs : g.stack = .long x :: .int j :: .ref a :: rest) (hd : decode c.code g.pc = .ok (.lastore, 1)) :
    ∃ T' h', Stand p l e R s m args below meth c T' (locs ++ [⟨a, j.toNatClampNeg⟩]) cells slots ∧ T'.heap = h' ∧ Wr h h' a j.toNatClampNeg (.long x) ∧ Arv Z h' a k .long n (vs.set i (.long x)) dv ∧ ∀ t, Steps p.tables e below (T'.setTop { g with pc := g.pc + 1, stack := rest }) t → Steps p.tables e below (T.setTop g) t := by
  obtain ⟨cl, A, q1, S, q3, H, G⟩ := F
  obtain ⟨T', h', X', e', W, st⟩ := stJ X hx hZ eT A (inb_of S hj) hg hs hd
  exact ⟨T', h', X', e', W, Arv.set A q1 S q3 H G rfl W i hi hl, st⟩
theorem own_stR {C : String} {y : Value} (X : Stand p l e R s m args below meth c T locs cells slots) (hx : p.tables.exec = Jvm.exec) (hZ : Z.Warmed39 s.vm) (eT : T.heap = h) (F : Arv Z h a k ty n vs dv) (ht : ty.isReference = true) (hf : fits ty y = true) (O : y = .null ∨ ∃ b, y = .ref b ∧ Ovr Z k C ∧ Ins Z h b C true) (hj : ¬ j < 0 ∧ j < n) (i : Nat) (hi : j.toNatClampNeg = i) (hl : i < vs.length) {g : JFrame} (hg : g.method = m) (hs : g.stack = y :: .int j :: .ref a :: rest) (hd : decode c.code g.pc = .ok (.aastore, 1)) :
    ∃ T' h', Stand p l e R s m args below meth c T' (locs ++ [⟨a, j.toNatClampNeg⟩]) cells slots ∧ T'.heap = h' ∧ Wr h h' a j.toNatClampNeg y ∧ Arv Z h' a k ty n (vs.set i y) dv ∧ ∀ t, Steps p.tables e below (T'.setTop { g with pc := g.pc + 1, stack := rest }) t → Steps p.tables e below (T.setTop g) t := by
  obtain ⟨cl, A, q1, S, q3, H, G⟩ := F
  obtain ⟨T', h', X', e', W, st⟩ := stR X hx hZ eT A (inb_of S hj) ht (by rcases O with rfl | ⟨b, rfl, O, I⟩; exact Or.inl rfl; exact Sto.ofV A q1 O I) hg hs hd
  exact ⟨T', h', X', e', W, Arv.set A q1 S q3 H G hf W i hi hl, st⟩
end OwnKit
def own_con (p n : Int32) : Int32 := if p < (0 : Int32) then 0 else if p < n then 1 else 0
theorem own_n (x : Int32) (h : ¬ (x &&& (2147483647 : Int32)) = (0 : Int32)) : ¬ (x &&& (2147483647 : Int32)) < (1 : Int32) := by
  have q := c_and x (2147483647 : Int32) (by decide)
  rw [Int32.lt_iff_toInt_lt]
  have e1 : (1 : Int32).toInt = 1 := rfl
  have e0 : (x &&& (2147483647 : Int32)).toInt ≠ 0 := fun z => h (Int32.toInt_inj.mp z)
  omega
theorem own_mask (p n : Int32) (hn : ¬ n < (1 : Int32)) : (p.toInt64 &&& (4294967295 : Int64)) < n.toInt64 ↔ ¬ p < (0 : Int32) ∧ p < n := by
  have e := c_maskL p.toInt64 (4294967295 : Int64) 32 (by decide) (by decide)
  rw [show ((2 ^ 32 : Nat) : Int) = 4294967296 from rfl, c_i2l] at e
  rw [Int64.lt_iff_toInt_lt, e, c_i2l, Int32.lt_iff_toInt_lt, Int32.lt_iff_toInt_lt]
  rw [Int32.lt_iff_toInt_lt] at hn
  have e1 : (1 : Int32).toInt = 1 := rfl
  have e0 : (0 : Int32).toInt = 0 := rfl
  have r1 := rng32 p
  have r2 := rng32 n
  omega
theorem own_c1 (p n : Int32) (hn : ¬ n < (1 : Int32)) (h : lcmpW (p.toInt64 &&& (4294967295 : Int64)) n.toInt64 < (0 : Int32)) : (1 : Int32) = own_con p n := by
  have q := (own_mask p n hn).mp ((lw_lt _ _).mp h)
  simp [own_con, q.1, q.2]
theorem own_c0 (p n : Int32) (hn : ¬ n < (1 : Int32)) (h : ¬ lcmpW (p.toInt64 &&& (4294967295 : Int64)) n.toInt64 < (0 : Int32)) : (0 : Int32) = own_con p n := by
  have q : ¬ (¬ p < (0 : Int32) ∧ p < n) := fun z => h ((lw_lt _ _).mpr ((own_mask p n hn).mpr z))
  by_cases q1 : p < (0 : Int32)
  · simp [own_con, q1]
  · have q2 : ¬ p < n := fun z => q ⟨q1, z⟩
    simp [own_con, q2]
theorem own_at0 (n : Int32) (hn : ¬ n < (1 : Int32)) : (1 : Int32) = own_con (0 : Int32) n := by
  have q2 : (0 : Int32) < n := by
    rw [Int32.lt_iff_toInt_lt] at hn ⊢
    have e1 : (1 : Int32).toInt = 1 := rfl
    have e0 : (0 : Int32).toInt = 0 := rfl
    omega
  have q1 : ¬ (0 : Int32) < (0 : Int32) := by decide
  simp [own_con, q2]
theorem own_last (n : Int32) (hn : ¬ n < (1 : Int32)) : (1 : Int32) = own_con (n - (1 : Int32)) n := by
  rw [Int32.lt_iff_toInt_lt] at hn
  have e1 : (1 : Int32).toInt = 1 := rfl
  have e0 : (0 : Int32).toInt = 0 := rfl
  have q := c_isub n (1 : Int32)
  have r := rng32 n
  have r' := rng32 (n - (1 : Int32))
  have q1 : ¬ (n - (1 : Int32)) < (0 : Int32) := by rw [Int32.lt_iff_toInt_lt]; omega
  have q2 : (n - (1 : Int32)) < n := by rw [Int32.lt_iff_toInt_lt]; omega
  simp [own_con, q1, q2]
theorem own_end (n : Int32) : (0 : Int32) = own_con n n := by simp [own_con, Int32.lt_irrefl]
theorem own_neg (n : Int32) : (0 : Int32) = own_con (-1 : Int32) n := by
  have q : (-1 : Int32) < (0 : Int32) := by decide
  simp [own_con, q]
theorem d2_0 : decode jdk_30_method_1_code 0 = .ok (.aload_n 0, 1) := by decide +kernel
theorem d2_1 : decode jdk_30_method_1_code 1 = .ok (.invokespecial 1, 3) := by decide +kernel
theorem d2_4 : decode jdk_30_method_1_code 4 = .ok (.return_, 1) := by decide +kernel
theorem pn_0 : plainName "java/lang/Record" = true := by first | (simp [plainName, overriddenIn]; done) | decide +kernel
def rmRQ (Z : State) (a1 : Addr) (h0 : Heap) (n0 : Nat) (v : Option Value) (h : Heap) (L : List Loc) : Prop := v = none ∧ Fr n0 L ∧ h = h0
set_option maxRecDepth 65536 in
set_option maxHeartbeats 40000000 in
theorem rmR (l : Launch) (Z : State) (a0 : Array Value) (hw : ∀ d ∈ tables_1, d.before a0 Z = true) (a1 : Addr) (h0 : Heap) (n0 : Nat) (Z0 : n0 ≤ h0.size) :
    Ct l Z [] (⟨"java/lang/Record", "<init>", "()V"⟩ : MethodName) jdk_30_method_1_code 1 none ({ frames := 1, cells := 0, slots := 0, locals := 12 } : Room) #[(.ref a1)] h0 (rmRQ Z a1 h0 n0) := by
  refine own_enter (plainFor_of_name pn_0) ?_
  intro p e s m below meth c T0 X0 hx hby hml hZ hown hnm hret hlk e0
  have hown : s.vm.findClass "java/lang/Record" = some m.cls := hown
  have N0 := Fr.nil n0
  have K0 := Keep.refl h0 []
  refine own_st (fun wt wk => castTop (g' := mkF m 0 #[.val (.ref a1)] []) (by first | (simp [entryFrame, mkF, argsToLocals, Value.category]; done) | rfl) wk) ?_
  show Fin1 p e below s (rmRQ Z a1 h0 n0) ({ frames := 1, cells := 0, slots := 0, locals := 12 } : Room).cells ({ frames := 1, cells := 0, slots := 0, locals := 12 } : Room).slots (T0.setTop (mkF m 0 #[.val (.ref a1)] []))
  refine own_st (fun wt wk => XS.aloadN X0.here hx rfl (hb hby d2_0) rfl rfl wk) ?_
  show Fin1 p e below s (rmRQ Z a1 h0 n0) ({ frames := 1, cells := 0, slots := 0, locals := 12 } : Room).cells ({ frames := 1, cells := 0, slots := 0, locals := 12 } : Room).slots (T0.setTop (mkF m 1 #[.val (.ref a1)] [(.ref a1)]))
  obtain ⟨T1, X1, e1, st1⟩ := initO X0 hx hZ hown (hw _ (List.mem_of_getElem? (i := 12) rfl)) (hw _ (List.mem_of_getElem? (i := 13) rfl)) (hw _ (List.mem_of_getElem? (i := 14) rfl)) e0 (g := (mkF m 1 #[.val (.ref a1)] [(.ref a1)])) rfl (by rw [hml]; rfl) rfl (hb hby d2_1) (by decide) (W := 0) (by show 2 * 0 + _ ≤ _; exact Nat.le_of_eq rfl) (by decide)
  refine own_st st1 ?_
  show Fin1 p e below s (rmRQ Z a1 h0 n0) ({ frames := 1, cells := 0, slots := 0, locals := 12 } : Room).cells ({ frames := 1, cells := 0, slots := 0, locals := 12 } : Room).slots (T1.setTop (mkF m 4 #[.val (.ref a1)] []))
  exact own_retV X1 hx hlk hret (hb hby d2_4) (by rw [e1]; exact ⟨rfl, N0, rfl⟩) (by decide) (by decide)
theorem d1_0 : decode prog_20_method_1_code 0 = .ok (.aload_n 0, 1) := by decide +kernel
theorem d1_1 : decode prog_20_method_1_code 1 = .ok (.invokespecial 1, 3) := by decide +kernel
theorem d1_4 : decode prog_20_method_1_code 4 = .ok (.iload_n 1, 1) := by decide +kernel
theorem d1_5 : decode prog_20_method_1_code 5 = .ok (.iconst 1, 1) := by decide +kernel
theorem d1_6 : decode prog_20_method_1_code 6 = .ok (.if_icmp .ge 17, 3) := by decide +kernel
theorem d1_9 : decode prog_20_method_1_code 9 = .ok (.new 7, 3) := by decide +kernel
theorem d1_12 : decode prog_20_method_1_code 12 = .ok (.dup, 1) := by decide +kernel
theorem d1_13 : decode prog_20_method_1_code 13 = .ok (.iload_n 1, 1) := by decide +kernel
theorem d1_19 : decode prog_20_method_1_code 19 = .ok (.invokespecial 13, 3) := by decide +kernel
theorem d1_22 : decode prog_20_method_1_code 22 = .ok (.athrow, 1) := by decide +kernel
theorem d1_23 : decode prog_20_method_1_code 23 = .ok (.aload_n 0, 1) := by decide +kernel
theorem d1_24 : decode prog_20_method_1_code 24 = .ok (.iload_n 1, 1) := by decide +kernel
theorem d1_25 : decode prog_20_method_1_code 25 = .ok (.putfield 16, 3) := by decide +kernel
theorem d1_28 : decode prog_20_method_1_code 28 = .ok (.return_, 1) := by decide +kernel
theorem pn_1 : plainName "example/antecedent/core/Group" = true := by first | (simp [plainName, overriddenIn]; done) | decide +kernel
theorem pd_2 : parseMethodDescriptor "()V" = some ⟨[], none⟩ := by decide +kernel
def rmCQ (Z : State) (a1 : Addr) (n : Int32) (h0 : Heap) (n0 : Nat) (v : Option Value) (h : Heap) (L : List Loc) : Prop := v = none ∧ Fr n0 L ∧ Keep h0 h [a1] ∧ Fld Z h a1 "example/antecedent/core/Group" "size" "I" (.int n)
set_option maxRecDepth 65536 in
set_option maxHeartbeats 40000000 in
theorem rmC (l : Launch) (Z : State) (a0 : Array Value) (hw : ∀ d ∈ tables_1, d.before a0 Z = true) (a1 : Addr) (n : Int32) (h0 : Heap) (n0 : Nat) (Z0 : n0 ≤ h0.size) (g_a1 : n0 ≤ a1) (E_a1 : Exa Z h0 a1 "example/antecedent/core/Group") (F0 : Fld Z h0 a1 "example/antecedent/core/Group" "size" "I" (.int (0 : Int32))) (hn : ¬ n < (1 : Int32)) :
    Ct l Z [] (⟨"example/antecedent/core/Group", "<init>", "(I)V"⟩ : MethodName) prog_20_method_1_code 2 none ({ frames := 2, cells := 0, slots := 0, locals := 24 } : Room) #[(.ref a1), (.int n)] h0 (rmCQ Z a1 n h0 n0) := by
  refine own_enter (plainFor_of_name pn_1) ?_
  intro p e s m below meth c T0 X0 hx hby hml hZ hown hnm hret hlk e0
  have hown : s.vm.findClass "example/antecedent/core/Group" = some m.cls := hown
  have N0 := Fr.nil n0
  have K0 := Keep.refl h0 [a1]
  refine own_st (fun wt wk => castTop (g' := mkF m 0 #[.val (.ref a1), .val (.int n)] []) (by first | (simp [entryFrame, mkF, argsToLocals, Value.category]; done) | rfl) wk) ?_
  show Fin1 p e below s (rmCQ Z a1 n h0 n0) ({ frames := 2, cells := 0, slots := 0, locals := 24 } : Room).cells ({ frames := 2, cells := 0, slots := 0, locals := 24 } : Room).slots (T0.setTop (mkF m 0 #[.val (.ref a1), .val (.int n)] []))
  refine own_st (fun wt wk => XS.aloadN X0.here hx rfl (hb hby d1_0) rfl rfl wk) ?_
  show Fin1 p e below s (rmCQ Z a1 n h0 n0) ({ frames := 2, cells := 0, slots := 0, locals := 24 } : Room).cells ({ frames := 2, cells := 0, slots := 0, locals := 24 } : Room).slots (T0.setTop (mkF m 1 #[.val (.ref a1), .val (.int n)] [(.ref a1)]))
  obtain ⟨v1, T1, h1, L1, X1, e1, hQ1, st1⟩ := own_special X0 hx hZ hown rfl (hw _ (List.mem_of_getElem? (i := 7) rfl)) (hw _ (List.mem_of_getElem? (i := 8) rfl)) (hw _ (List.mem_of_getElem? (i := 11) rfl)) (hw _ (List.mem_of_getElem? (i := 10) rfl)) (by decide) (a := a1) (rmR l Z a0 hw a1 h0 n0 Z0) e0 (g := (mkF m 1 #[.val (.ref a1), .val (.int n)] [(.ref a1)])) rfl (by rw [hml]; rfl) (argsL := []) (rest := []) (lenOf pd_2 rfl) rfl (W := 0) (by show 2 * 0 + _ ≤ _; exact Nat.le_of_eq rfl) (hb hby d1_1) (by decide) (by decide) (by decide) (by decide)
  obtain ⟨rfl, N1q, hh1⟩ := hQ1
  have N1 := Fr.app N0 N1q
  rw [hh1] at e1
  refine own_st st1 ?_
  show Fin1 p e below s (rmCQ Z a1 n h0 n0) ({ frames := 2, cells := 0, slots := 0, locals := 24 } : Room).cells ({ frames := 2, cells := 0, slots := 0, locals := 24 } : Room).slots (T1.setTop (mkF m 4 #[.val (.ref a1), .val (.int n)] []))
  refine own_st (fun wt wk => XS.iloadN X1.here hx rfl (hb hby d1_4) rfl wk) ?_
  show Fin1 p e below s (rmCQ Z a1 n h0 n0) ({ frames := 2, cells := 0, slots := 0, locals := 24 } : Room).cells ({ frames := 2, cells := 0, slots := 0, locals := 24 } : Room).slots (T1.setTop (mkF m 5 #[.val (.ref a1), .val (.int n)] [(.int n)]))
  refine own_st (fun wt wk => XS.iconst X1.here hx rfl (hb hby d1_5) wk) ?_
  show Fin1 p e below s (rmCQ Z a1 n h0 n0) ({ frames := 2, cells := 0, slots := 0, locals := 24 } : Room).cells ({ frames := 2, cells := 0, slots := 0, locals := 24 } : Room).slots (T1.setTop (mkF m 6 #[.val (.ref a1), .val (.int n)] [(.int (1 : Int32)), (.int n)]))
  refine own_st (fun wt wk => XS.icmpYes X1.here hx rfl (pc0 := 6) (pc' := 23) rfl (hb hby d1_6) rfl (flt hn).2.1 (by decide) (by decide) wk) ?_
  show Fin1 p e below s (rmCQ Z a1 n h0 n0) ({ frames := 2, cells := 0, slots := 0, locals := 24 } : Room).cells ({ frames := 2, cells := 0, slots := 0, locals := 24 } : Room).slots (T1.setTop (mkF m 23 #[.val (.ref a1), .val (.int n)] []))
  refine own_st (fun wt wk => XS.aloadN X1.here hx rfl (hb hby d1_23) rfl rfl wk) ?_
  show Fin1 p e below s (rmCQ Z a1 n h0 n0) ({ frames := 2, cells := 0, slots := 0, locals := 24 } : Room).cells ({ frames := 2, cells := 0, slots := 0, locals := 24 } : Room).slots (T1.setTop (mkF m 24 #[.val (.ref a1), .val (.int n)] [(.ref a1)]))
  refine own_st (fun wt wk => XS.iloadN X1.here hx rfl (hb hby d1_24) rfl wk) ?_
  show Fin1 p e below s (rmCQ Z a1 n h0 n0) ({ frames := 2, cells := 0, slots := 0, locals := 24 } : Room).cells ({ frames := 2, cells := 0, slots := 0, locals := 24 } : Room).slots (T1.setTop (mkF m 25 #[.val (.ref a1), .val (.int n)] [(.int n), (.ref a1)]))
  obtain ⟨T2, h2, X2, e2, W2, st2⟩ := putF X1 hx hZ hown (host := "") (Or.inl (hw _ (List.mem_of_getElem? (i := 15) rfl))) Via.refl e1 F0 E_a1 (Or.inr ⟨(hw _ (List.mem_of_getElem? (i := 16) rfl)), rfl, hnm⟩) (hw _ (List.mem_of_getElem? (i := 2) rfl)) (ty := .int) (by decide) rfl rfl (g := (mkF m 25 #[.val (.ref a1), .val (.int n)] [(.int n), (.ref a1)])) rfl rfl (hb hby d1_25)
  refine own_st st2 ?_
  have N2 := Fr.snoc X2 N1 g_a1
  have Z0 := Nat.le_trans Z0 (Nat.le_of_eq W2.size.symm)
  have K0 := K0.wr W2 (Or.inl (List.mem_of_getElem? (i := 0) rfl))
  have E_a1 := E_a1.wr W2
  have F0 := F0.same W2
  show Fin1 p e below s (rmCQ Z a1 n h0 n0) ({ frames := 2, cells := 0, slots := 0, locals := 24 } : Room).cells ({ frames := 2, cells := 0, slots := 0, locals := 24 } : Room).slots (T2.setTop (mkF m 28 #[.val (.ref a1), .val (.int n)] []))
  exact own_retV X2 hx hlk hret (hb hby d1_28) (by rw [e2]; exact ⟨rfl, N2, K0, F0⟩) (by decide) (by decide)
theorem d4_0 : decode prog_20_method_2_code 0 = .ok (.iload_n 1, 1) := by decide +kernel
theorem d4_1 : decode prog_20_method_2_code 1 = .ok (.ifCond .lt 15, 3) := by decide +kernel
theorem d4_4 : decode prog_20_method_2_code 4 = .ok (.iload_n 1, 1) := by decide +kernel
theorem d4_5 : decode prog_20_method_2_code 5 = .ok (.aload_n 0, 1) := by decide +kernel
theorem d4_6 : decode prog_20_method_2_code 6 = .ok (.getfield 16, 3) := by decide +kernel
theorem d4_9 : decode prog_20_method_2_code 9 = .ok (.if_icmp .ge 7, 3) := by decide +kernel
theorem d4_12 : decode prog_20_method_2_code 12 = .ok (.iconst 1, 1) := by decide +kernel
theorem d4_13 : decode prog_20_method_2_code 13 = .ok (.goto 4, 3) := by decide +kernel
theorem d4_16 : decode prog_20_method_2_code 16 = .ok (.iconst 0, 1) := by decide +kernel
theorem d4_17 : decode prog_20_method_2_code 17 = .ok (.ireturn, 1) := by decide +kernel
def rmOQ (Z : State) (a1 : Addr) (q : Int32) (n : Int32) (r : Int32) (h0 : Heap) (n0 : Nat) (v : Option Value) (h : Heap) (L : List Loc) : Prop := v = some (.int r) ∧ Fr n0 L ∧ h = h0
set_option maxRecDepth 65536 in
set_option maxHeartbeats 40000000 in
theorem rmO (l : Launch) (Z : State) (a0 : Array Value) (hw : ∀ d ∈ tables_1, d.before a0 Z = true) (a1 : Addr) (q : Int32) (n : Int32) (r : Int32) (h0 : Heap) (n0 : Nat) (Z0 : n0 ≤ h0.size) (F0 : Fld Z h0 a1 "example/antecedent/core/Group" "size" "I" (.int n)) (hr : r = own_con q n) :
    Ct l Z [] (⟨"example/antecedent/core/Group", "contains", "(I)Z"⟩ : MethodName) prog_20_method_2_code 2 (some .boolean) ({ frames := 0, cells := 0, slots := 0, locals := 0 } : Room) #[(.ref a1), (.int q)] h0 (rmOQ Z a1 q n r h0 n0) := by
  refine own_enter (plainFor_of_name pn_1) ?_
  intro p e s m below meth c T0 X0 hx hby hml hZ hown hnm hret hlk e0
  have hown : s.vm.findClass "example/antecedent/core/Group" = some m.cls := hown
  have N0 := Fr.nil n0
  have K0 := Keep.refl h0 []
  refine own_st (fun wt wk => castTop (g' := mkF m 0 #[.val (.ref a1), .val (.int q)] []) (by first | (simp [entryFrame, mkF, argsToLocals, Value.category]; done) | rfl) wk) ?_
  show Fin1 p e below s (rmOQ Z a1 q n r h0 n0) ({ frames := 0, cells := 0, slots := 0, locals := 0 } : Room).cells ({ frames := 0, cells := 0, slots := 0, locals := 0 } : Room).slots (T0.setTop (mkF m 0 #[.val (.ref a1), .val (.int q)] []))
  refine own_st (fun wt wk => XS.iloadN X0.here hx rfl (hb hby d4_0) rfl wk) ?_
  show Fin1 p e below s (rmOQ Z a1 q n r h0 n0) ({ frames := 0, cells := 0, slots := 0, locals := 0 } : Room).cells ({ frames := 0, cells := 0, slots := 0, locals := 0 } : Room).slots (T0.setTop (mkF m 1 #[.val (.ref a1), .val (.int q)] [(.int q)]))
  by_cases c1 : q < (0 : Int32)
  · refine own_st (fun wt wk => XS.ifYes X0.here hx rfl (pc0 := 1) (pc' := 16) rfl (hb hby d4_1) rfl ((if0 _ _).trans (tlt c1).1) (by decide) (by decide) wk) ?_
    show Fin1 p e below s (rmOQ Z a1 q n r h0 n0) ({ frames := 0, cells := 0, slots := 0, locals := 0 } : Room).cells ({ frames := 0, cells := 0, slots := 0, locals := 0 } : Room).slots (T0.setTop (mkF m 16 #[.val (.ref a1), .val (.int q)] []))
    refine own_st (fun wt wk => XS.iconst X0.here hx rfl (hb hby d4_16) wk) ?_
    show Fin1 p e below s (rmOQ Z a1 q n r h0 n0) ({ frames := 0, cells := 0, slots := 0, locals := 0 } : Room).cells ({ frames := 0, cells := 0, slots := 0, locals := 0 } : Room).slots (T0.setTop (mkF m 17 #[.val (.ref a1), .val (.int q)] [(.int (0 : Int32))]))
    exact own_retZ X0 hx hlk hret (hb hby d4_17) (z := (0 : Int32)) (by decide) (by rw [e0]; exact ⟨(by rw [hr]; simp [own_con, c1]), N0, rfl⟩) (by decide) (by decide)
  · refine own_st (fun wt wk => XS.ifNo X0.here hx rfl (hb hby d4_1) rfl ((if0 _ _).trans (flt c1).1) wk) ?_
    show Fin1 p e below s (rmOQ Z a1 q n r h0 n0) ({ frames := 0, cells := 0, slots := 0, locals := 0 } : Room).cells ({ frames := 0, cells := 0, slots := 0, locals := 0 } : Room).slots (T0.setTop (mkF m 4 #[.val (.ref a1), .val (.int q)] []))
    refine own_st (fun wt wk => XS.iloadN X0.here hx rfl (hb hby d4_4) rfl wk) ?_
    show Fin1 p e below s (rmOQ Z a1 q n r h0 n0) ({ frames := 0, cells := 0, slots := 0, locals := 0 } : Room).cells ({ frames := 0, cells := 0, slots := 0, locals := 0 } : Room).slots (T0.setTop (mkF m 5 #[.val (.ref a1), .val (.int q)] [(.int q)]))
    refine own_st (fun wt wk => XS.aloadN X0.here hx rfl (hb hby d4_5) rfl rfl wk) ?_
    show Fin1 p e below s (rmOQ Z a1 q n r h0 n0) ({ frames := 0, cells := 0, slots := 0, locals := 0 } : Room).cells ({ frames := 0, cells := 0, slots := 0, locals := 0 } : Room).slots (T0.setTop (mkF m 6 #[.val (.ref a1), .val (.int q)] [(.ref a1), (.int q)]))
    obtain ⟨T1, X1, e1, st1⟩ := getF X0 hx hZ hown (host := "") (Or.inl (hw _ (List.mem_of_getElem? (i := 15) rfl))) Via.refl e0 F0 (g := (mkF m 6 #[.val (.ref a1), .val (.int q)] [(.ref a1), (.int q)])) rfl rfl (hb hby d4_6)
    refine own_st st1 ?_
    show Fin1 p e below s (rmOQ Z a1 q n r h0 n0) ({ frames := 0, cells := 0, slots := 0, locals := 0 } : Room).cells ({ frames := 0, cells := 0, slots := 0, locals := 0 } : Room).slots (T1.setTop (mkF m 9 #[.val (.ref a1), .val (.int q)] [(.int n), (.int q)]))
    by_cases c9 : q < n
    · refine own_st (fun wt wk => XS.icmpNo X1.here hx rfl (hb hby d4_9) rfl (tlt c9).2.1 wk) ?_
      show Fin1 p e below s (rmOQ Z a1 q n r h0 n0) ({ frames := 0, cells := 0, slots := 0, locals := 0 } : Room).cells ({ frames := 0, cells := 0, slots := 0, locals := 0 } : Room).slots (T1.setTop (mkF m 12 #[.val (.ref a1), .val (.int q)] []))
      refine own_st (fun wt wk => XS.iconst X1.here hx rfl (hb hby d4_12) wk) ?_
      show Fin1 p e below s (rmOQ Z a1 q n r h0 n0) ({ frames := 0, cells := 0, slots := 0, locals := 0 } : Room).cells ({ frames := 0, cells := 0, slots := 0, locals := 0 } : Room).slots (T1.setTop (mkF m 13 #[.val (.ref a1), .val (.int q)] [(.int (1 : Int32))]))
      refine own_st (fun wt wk => XS.goto X1.here hx rfl (pc0 := 13) (pc' := 17) rfl (hb hby d4_13) (by decide) (by decide) wk) ?_
      show Fin1 p e below s (rmOQ Z a1 q n r h0 n0) ({ frames := 0, cells := 0, slots := 0, locals := 0 } : Room).cells ({ frames := 0, cells := 0, slots := 0, locals := 0 } : Room).slots (T1.setTop (mkF m 17 #[.val (.ref a1), .val (.int q)] [(.int (1 : Int32))]))
      exact own_retZ X1 hx hlk hret (hb hby d4_17) (z := (1 : Int32)) (by decide) (by rw [e1]; exact ⟨(by rw [hr]; simp [own_con, c1, c9]), N0, rfl⟩) (by decide) (by decide)
    · refine own_st (fun wt wk => XS.icmpYes X1.here hx rfl (pc0 := 9) (pc' := 16) rfl (hb hby d4_9) rfl (flt c9).2.1 (by decide) (by decide) wk) ?_
      show Fin1 p e below s (rmOQ Z a1 q n r h0 n0) ({ frames := 0, cells := 0, slots := 0, locals := 0 } : Room).cells ({ frames := 0, cells := 0, slots := 0, locals := 0 } : Room).slots (T1.setTop (mkF m 16 #[.val (.ref a1), .val (.int q)] []))
      refine own_st (fun wt wk => XS.iconst X1.here hx rfl (hb hby d4_16) wk) ?_
      show Fin1 p e below s (rmOQ Z a1 q n r h0 n0) ({ frames := 0, cells := 0, slots := 0, locals := 0 } : Room).cells ({ frames := 0, cells := 0, slots := 0, locals := 0 } : Room).slots (T1.setTop (mkF m 17 #[.val (.ref a1), .val (.int q)] [(.int (0 : Int32))]))
      exact own_retZ X1 hx hlk hret (hb hby d4_17) (z := (0 : Int32)) (by decide) (by rw [e1]; exact ⟨(by rw [hr]; simp [own_con, c1, c9]), N0, rfl⟩) (by decide) (by decide)
theorem pn_3 : plainName "example/antecedent/core/GroupContainsPinLaw" = true := by first | (simp [plainName, overriddenIn]; done) | decide +kernel
theorem pd_4 : parseMethodDescriptor "(I)V" = some ⟨[.int], none⟩ := by decide +kernel
theorem pd_5 : parseMethodDescriptor "(I)Z" = some ⟨[.int], some .boolean⟩ := by decide +kernel
def rm0Q (Z : State) (i0 : Int32) (i1 : Int32) (h0 : Heap) (n0 : Nat) (v : Option Value) (h : Heap) (L : List Loc) : Prop := v = some (.int (1 : Int32)) ∧ Fr n0 L
set_option maxRecDepth 65536 in
set_option maxHeartbeats 40000000 in
theorem rm0 (l : Launch) (Z : State) (a0 : Array Value) (hw : ∀ d ∈ tables_1, d.before a0 Z = true) (i0 : Int32) (i1 : Int32) (h0 : Heap) (n0 : Nat) (Z0 : n0 ≤ h0.size) :
    Ct l Z tables_1 x code maxLocals ret room_1 #[(.int i0), (.int i1)] h0 (rm0Q Z i0 i1 h0 n0) := by
  refine own_enter (plainFor_of_name pn_3) ?_
  intro p e s m below meth c T0 X0 hx hby hml hZ hown hnm hret hlk e0
  have hown : s.vm.findClass "example/antecedent/core/GroupContainsPinLaw" = some m.cls := hown
  have N0 := Fr.nil n0
  have K0 := Keep.refl h0 []
  refine own_st (fun wt wk => castTop (g' := mkF m 0 #[.val (.int i0), .val (.int i1), .unset, .unset, .unset, .unset] []) (by first | (simp [entryFrame, mkF, argsToLocals, Value.category, maxLocals]; done) | rfl) wk) ?_
  show Fin1 p e below s (rm0Q Z i0 i1 h0 n0) room_1.cells room_1.slots (T0.setTop (mkF m 0 #[.val (.int i0), .val (.int i1), .unset, .unset, .unset, .unset] []))
  suffices K11 : ∀ (k2 : Int32), (¬ k2 < (1 : Int32)) → Fin1 p e below s (rm0Q Z i0 i1 h0 n0) room_1.cells room_1.slots (T0.setTop (mkF m 11 #[.val (.int i0), .val (.int i1), .val (.int k2), .unset, .unset, .unset] [])) by
    refine own_st (fun wt wk => XS.iloadN X0.here hx rfl (hb hby at_0) rfl wk) ?_
    show Fin1 p e below s (rm0Q Z i0 i1 h0 n0) room_1.cells room_1.slots (T0.setTop (mkF m 1 #[.val (.int i0), .val (.int i1), .unset, .unset, .unset, .unset] [(.int i0)]))
    refine own_st (X0.ldcInt hx hown (mvT hZ (hw _ (List.mem_of_getElem? (i := 0) rfl))) (g := (mkF m 1 #[.val (.int i0), .val (.int i1), .unset, .unset, .unset, .unset] [(.int i0)])) rfl (hb hby at_1)) ?_
    show Fin1 p e below s (rm0Q Z i0 i1 h0 n0) room_1.cells room_1.slots (T0.setTop (mkF m 3 #[.val (.int i0), .val (.int i1), .unset, .unset, .unset, .unset] [(.int (2147483647 : Int32)), (.int i0)]))
    refine own_st (fun wt wk => XS.iand X0.here hx rfl (hb hby at_3) rfl wk) ?_
    show Fin1 p e below s (rm0Q Z i0 i1 h0 n0) room_1.cells room_1.slots (T0.setTop (mkF m 4 #[.val (.int i0), .val (.int i1), .unset, .unset, .unset, .unset] [(.int (i0 &&& (2147483647 : Int32)))]))
    refine own_st (fun wt wk => XS.istoreN X0.here hx rfl (hb hby at_4) rfl (l' := #[.val (.int i0), .val (.int i1), .val (.int (i0 &&& (2147483647 : Int32))), .unset, .unset, .unset]) rfl wk) ?_
    show Fin1 p e below s (rm0Q Z i0 i1 h0 n0) room_1.cells room_1.slots (T0.setTop (mkF m 5 #[.val (.int i0), .val (.int i1), .val (.int (i0 &&& (2147483647 : Int32))), .unset, .unset, .unset] []))
    refine own_st (fun wt wk => XS.iloadN X0.here hx rfl (hb hby at_5) rfl wk) ?_
    show Fin1 p e below s (rm0Q Z i0 i1 h0 n0) room_1.cells room_1.slots (T0.setTop (mkF m 6 #[.val (.int i0), .val (.int i1), .val (.int (i0 &&& (2147483647 : Int32))), .unset, .unset, .unset] [(.int (i0 &&& (2147483647 : Int32)))]))
    by_cases c6 : (i0 &&& (2147483647 : Int32)) = (0 : Int32)
    · refine own_st (fun wt wk => XS.ifNo X0.here hx rfl (hb hby at_6) rfl ((if0 _ _).trans (teq c6).2) wk) ?_
      show Fin1 p e below s (rm0Q Z i0 i1 h0 n0) room_1.cells room_1.slots (T0.setTop (mkF m 9 #[.val (.int i0), .val (.int i1), .val (.int (i0 &&& (2147483647 : Int32))), .unset, .unset, .unset] []))
      refine own_st (fun wt wk => XS.iconst X0.here hx rfl (hb hby at_9) wk) ?_
      show Fin1 p e below s (rm0Q Z i0 i1 h0 n0) room_1.cells room_1.slots (T0.setTop (mkF m 10 #[.val (.int i0), .val (.int i1), .val (.int (i0 &&& (2147483647 : Int32))), .unset, .unset, .unset] [(.int (1 : Int32))]))
      refine own_st (fun wt wk => XS.istoreN X0.here hx rfl (hb hby at_10) rfl (l' := #[.val (.int i0), .val (.int i1), .val (.int (1 : Int32)), .unset, .unset, .unset]) rfl wk) ?_
      show Fin1 p e below s (rm0Q Z i0 i1 h0 n0) room_1.cells room_1.slots (T0.setTop (mkF m 11 #[.val (.int i0), .val (.int i1), .val (.int (1 : Int32)), .unset, .unset, .unset] []))
      exact K11 _ (by decide)
    · refine own_st (fun wt wk => XS.ifYes X0.here hx rfl (pc0 := 6) (pc' := 11) rfl (hb hby at_6) rfl ((if0 _ _).trans (feq c6).2) (by decide) (by decide) wk) ?_
      show Fin1 p e below s (rm0Q Z i0 i1 h0 n0) room_1.cells room_1.slots (T0.setTop (mkF m 11 #[.val (.int i0), .val (.int i1), .val (.int (i0 &&& (2147483647 : Int32))), .unset, .unset, .unset] []))
      exact K11 _ (own_n _ c6)
  intro k2 hk2
  obtain ⟨T1, h1, X1, e1, E1, A1, D1, -, st1⟩ := newO X0 hx hZ hown (hw _ (List.mem_of_getElem? (i := 1) rfl)) (hw _ (List.mem_of_getElem? (i := 2) rfl)) (hw _ (List.mem_of_getElem? (i := 3) rfl)) e0 (g := (mkF m 11 #[.val (.int i0), .val (.int i1), .val (.int k2), .unset, .unset, .unset] [])) rfl (hb hby at_11) (by decide) (by decide)
  obtain ⟨b1, gz_b1⟩ : ∃ z, z = h0.size := ⟨_, rfl⟩
  rw [← gz_b1] at A1 D1 st1
  have g_b1 : n0 ≤ b1 := Nat.le_trans Z0 (Nat.le_of_eq gz_b1.symm)
  have Z0 := Nat.le_trans Z0 E1.1
  refine own_st st1 ?_
  have E_b1 := A1
  have F_size_b1 : Fld Z h1 b1 "example/antecedent/core/Group" "size" "I" (.int (0 : Int32)) := D1 (Or.inr (hw _ (List.mem_of_getElem? (i := 16) rfl))) (ty := .int) (by decide)
  show Fin1 p e below s (rm0Q Z i0 i1 h0 n0) room_1.cells room_1.slots (T1.setTop (mkF m 14 #[.val (.int i0), .val (.int i1), .val (.int k2), .unset, .unset, .unset] [(.ref b1)]))
  refine own_st (fun wt wk => XS.dup X1.here hx rfl (hb hby at_14) rfl rfl wk) ?_
  show Fin1 p e below s (rm0Q Z i0 i1 h0 n0) room_1.cells room_1.slots (T1.setTop (mkF m 15 #[.val (.int i0), .val (.int i1), .val (.int k2), .unset, .unset, .unset] [(.ref b1), (.ref b1)]))
  refine own_st (fun wt wk => XS.iloadN X1.here hx rfl (hb hby at_15) rfl wk) ?_
  show Fin1 p e below s (rm0Q Z i0 i1 h0 n0) room_1.cells room_1.slots (T1.setTop (mkF m 16 #[.val (.int i0), .val (.int i1), .val (.int k2), .unset, .unset, .unset] [(.int k2), (.ref b1), (.ref b1)]))
  obtain ⟨v2, T2, h2, L2, X2, e2, hQ2, st2⟩ := own_special X1 hx hZ hown rfl (hw _ (List.mem_of_getElem? (i := 4) rfl)) (hw _ (List.mem_of_getElem? (i := 5) rfl)) (hw _ (List.mem_of_getElem? (i := 6) rfl)) (hw _ (List.mem_of_getElem? (i := 3) rfl)) (by decide) (a := b1) (rmC l Z a0 hw b1 k2 h1 n0 Z0 g_b1 E_b1 F_size_b1 hk2) e1 (g := (mkF m 16 #[.val (.int i0), .val (.int i1), .val (.int k2), .unset, .unset, .unset] [(.int k2), (.ref b1), (.ref b1)])) rfl (by rw [hml]; rfl) (argsL := [(.int k2)]) (rest := [(.ref b1)]) (lenOf pd_4 rfl) rfl (W := 1) (by show 2 * 0 + _ ≤ _; exact Nat.le_of_eq rfl) (hb hby at_16) (by decide) (by decide) (by decide) (by decide)
  obtain ⟨rfl, N2q, K2, G2⟩ := hQ2
  have N2 := Fr.app N0 N2q
  have Z0 := Nat.le_trans Z0 K2.1
  have E_b1 := E_b1.keep K2
  refine own_st st2 ?_
  show Fin1 p e below s (rm0Q Z i0 i1 h0 n0) room_1.cells room_1.slots (T2.setTop (mkF m 19 #[.val (.int i0), .val (.int i1), .val (.int k2), .unset, .unset, .unset] [(.ref b1)]))
  refine own_st (fun wt wk => XS.astoreN X2.here hx rfl (hb hby at_19) rfl rfl (l' := #[.val (.int i0), .val (.int i1), .val (.int k2), .val (.ref b1), .unset, .unset]) rfl wk) ?_
  show Fin1 p e below s (rm0Q Z i0 i1 h0 n0) room_1.cells room_1.slots (T2.setTop (mkF m 20 #[.val (.int i0), .val (.int i1), .val (.int k2), .val (.ref b1), .unset, .unset] []))
  refine own_st (fun wt wk => XS.iloadN X2.here hx rfl (hb hby at_20) rfl wk) ?_
  show Fin1 p e below s (rm0Q Z i0 i1 h0 n0) room_1.cells room_1.slots (T2.setTop (mkF m 21 #[.val (.int i0), .val (.int i1), .val (.int k2), .val (.ref b1), .unset, .unset] [(.int i1)]))
  refine own_st (fun wt wk => XS.i2l X2.here hx rfl (hb hby at_21) rfl wk) ?_
  show Fin1 p e below s (rm0Q Z i0 i1 h0 n0) room_1.cells room_1.slots (T2.setTop (mkF m 22 #[.val (.int i0), .val (.int i1), .val (.int k2), .val (.ref b1), .unset, .unset] [(.long (i1.toInt64))]))
  refine own_st (X2.ldc2Long hx hown (mvT hZ (hw _ (List.mem_of_getElem? (i := 17) rfl))) (g := (mkF m 22 #[.val (.int i0), .val (.int i1), .val (.int k2), .val (.ref b1), .unset, .unset] [(.long (i1.toInt64))])) rfl (hb hby at_22)) ?_
  show Fin1 p e below s (rm0Q Z i0 i1 h0 n0) room_1.cells room_1.slots (T2.setTop (mkF m 25 #[.val (.int i0), .val (.int i1), .val (.int k2), .val (.ref b1), .unset, .unset] [(.long (4294967295 : Int64)), (.long (i1.toInt64))]))
  refine own_st (fun wt wk => XS.land X2.here hx rfl (hb hby at_25) rfl wk) ?_
  show Fin1 p e below s (rm0Q Z i0 i1 h0 n0) room_1.cells room_1.slots (T2.setTop (mkF m 26 #[.val (.int i0), .val (.int i1), .val (.int k2), .val (.ref b1), .unset, .unset] [(.long ((i1.toInt64) &&& (4294967295 : Int64)))]))
  refine own_st (fun wt wk => XS.iloadN X2.here hx rfl (hb hby at_26) rfl wk) ?_
  show Fin1 p e below s (rm0Q Z i0 i1 h0 n0) room_1.cells room_1.slots (T2.setTop (mkF m 27 #[.val (.int i0), .val (.int i1), .val (.int k2), .val (.ref b1), .unset, .unset] [(.int k2), (.long ((i1.toInt64) &&& (4294967295 : Int64)))]))
  refine own_st (fun wt wk => XS.i2l X2.here hx rfl (hb hby at_27) rfl wk) ?_
  show Fin1 p e below s (rm0Q Z i0 i1 h0 n0) room_1.cells room_1.slots (T2.setTop (mkF m 28 #[.val (.int i0), .val (.int i1), .val (.int k2), .val (.ref b1), .unset, .unset] [(.long (k2.toInt64)), (.long ((i1.toInt64) &&& (4294967295 : Int64)))]))
  refine own_st (fun wt wk => XS.lcmp X2.here hx rfl (hb hby at_28) rfl wk) ?_
  show Fin1 p e below s (rm0Q Z i0 i1 h0 n0) room_1.cells room_1.slots (T2.setTop (mkF m 29 #[.val (.int i0), .val (.int i1), .val (.int k2), .val (.ref b1), .unset, .unset] [(.int (lcmpW ((i1.toInt64) &&& (4294967295 : Int64)) (k2.toInt64)))]))
  suffices K37 : ∀ (k4 : Int32), (k4 = own_con i1 k2) → Fin1 p e below s (rm0Q Z i0 i1 h0 n0) room_1.cells room_1.slots (T2.setTop (mkF m 37 #[.val (.int i0), .val (.int i1), .val (.int k2), .val (.ref b1), .unset, .unset] [(.int k4)])) by
    by_cases c29 : (lcmpW ((i1.toInt64) &&& (4294967295 : Int64)) (k2.toInt64)) < (0 : Int32)
    · refine own_st (fun wt wk => XS.ifNo X2.here hx rfl (hb hby at_29) rfl ((if0 _ _).trans (tlt c29).2.1) wk) ?_
      show Fin1 p e below s (rm0Q Z i0 i1 h0 n0) room_1.cells room_1.slots (T2.setTop (mkF m 32 #[.val (.int i0), .val (.int i1), .val (.int k2), .val (.ref b1), .unset, .unset] []))
      refine own_st (fun wt wk => XS.iconst X2.here hx rfl (hb hby at_32) wk) ?_
      show Fin1 p e below s (rm0Q Z i0 i1 h0 n0) room_1.cells room_1.slots (T2.setTop (mkF m 33 #[.val (.int i0), .val (.int i1), .val (.int k2), .val (.ref b1), .unset, .unset] [(.int (1 : Int32))]))
      refine own_st (fun wt wk => XS.goto X2.here hx rfl (pc0 := 33) (pc' := 37) rfl (hb hby at_33) (by decide) (by decide) wk) ?_
      show Fin1 p e below s (rm0Q Z i0 i1 h0 n0) room_1.cells room_1.slots (T2.setTop (mkF m 37 #[.val (.int i0), .val (.int i1), .val (.int k2), .val (.ref b1), .unset, .unset] [(.int (1 : Int32))]))
      exact K37 _ (own_c1 _ _ hk2 c29)
    · refine own_st (fun wt wk => XS.ifYes X2.here hx rfl (pc0 := 29) (pc' := 36) rfl (hb hby at_29) rfl ((if0 _ _).trans (flt c29).2.1) (by decide) (by decide) wk) ?_
      show Fin1 p e below s (rm0Q Z i0 i1 h0 n0) room_1.cells room_1.slots (T2.setTop (mkF m 36 #[.val (.int i0), .val (.int i1), .val (.int k2), .val (.ref b1), .unset, .unset] []))
      refine own_st (fun wt wk => XS.iconst X2.here hx rfl (hb hby at_36) wk) ?_
      show Fin1 p e below s (rm0Q Z i0 i1 h0 n0) room_1.cells room_1.slots (T2.setTop (mkF m 37 #[.val (.int i0), .val (.int i1), .val (.int k2), .val (.ref b1), .unset, .unset] [(.int (0 : Int32))]))
      exact K37 _ (own_c0 _ _ hk2 c29)
  intro k4 hk4
  refine own_st (fun wt wk => XS.istore X2.here hx rfl (hb hby at_37) rfl (l' := #[.val (.int i0), .val (.int i1), .val (.int k2), .val (.ref b1), .val (.int k4), .unset]) rfl wk) ?_
  show Fin1 p e below s (rm0Q Z i0 i1 h0 n0) room_1.cells room_1.slots (T2.setTop (mkF m 39 #[.val (.int i0), .val (.int i1), .val (.int k2), .val (.ref b1), .val (.int k4), .unset] []))
  refine own_st (fun wt wk => XS.aloadN X2.here hx rfl (hb hby at_39) rfl rfl wk) ?_
  show Fin1 p e below s (rm0Q Z i0 i1 h0 n0) room_1.cells room_1.slots (T2.setTop (mkF m 40 #[.val (.int i0), .val (.int i1), .val (.int k2), .val (.ref b1), .val (.int k4), .unset] [(.ref b1)]))
  refine own_st (fun wt wk => XS.iloadN X2.here hx rfl (hb hby at_40) rfl wk) ?_
  show Fin1 p e below s (rm0Q Z i0 i1 h0 n0) room_1.cells room_1.slots (T2.setTop (mkF m 41 #[.val (.int i0), .val (.int i1), .val (.int k2), .val (.ref b1), .val (.int k4), .unset] [(.int i1), (.ref b1)]))
  obtain ⟨v3, T3, h3, L3, X3, e3, hQ3, st3⟩ := own_virtual X2 hx hZ hown (hw _ (List.mem_of_getElem? (i := 18) rfl)) (hw _ (List.mem_of_getElem? (i := 19) rfl)) (hw _ (List.mem_of_getElem? (i := 21) rfl)) (hw _ (List.mem_of_getElem? (i := 20) rfl)) (hw _ (List.mem_of_getElem? (i := 22) rfl)) (hw _ (List.mem_of_getElem? (i := 3) rfl)) (by decide) (a := b1) E_b1 (rmO l Z a0 hw b1 i1 k2 k4 h2 n0 Z0 G2 hk4) e2 (g := (mkF m 41 #[.val (.int i0), .val (.int i1), .val (.int k2), .val (.ref b1), .val (.int k4), .unset] [(.int i1), (.ref b1)])) rfl (by rw [hml]; rfl) (argsL := [(.int i1)]) (rest := []) (lenOf pd_5 rfl) rfl (W := 0) (by show 2 * 0 + _ ≤ _; exact Nat.le_of_eq rfl) (hb hby at_41) (by decide) (by decide) (by decide) (by decide)
  obtain ⟨rfl, N3q, hh3⟩ := hQ3
  have N3 := Fr.app N2 N3q
  rw [hh3] at e3
  refine own_st st3 ?_
  show Fin1 p e below s (rm0Q Z i0 i1 h0 n0) room_1.cells room_1.slots (T3.setTop (mkF m 44 #[.val (.int i0), .val (.int i1), .val (.int k2), .val (.ref b1), .val (.int k4), .unset] [(.int k4)]))
  refine own_st (fun wt wk => XS.iload X3.here hx rfl (hb hby at_44) rfl wk) ?_
  show Fin1 p e below s (rm0Q Z i0 i1 h0 n0) room_1.cells room_1.slots (T3.setTop (mkF m 46 #[.val (.int i0), .val (.int i1), .val (.int k2), .val (.ref b1), .val (.int k4), .unset] [(.int k4), (.int k4)]))
  refine own_st (fun wt wk => XS.icmpNo X3.here hx rfl (hb hby at_46) rfl (teq (rfl : k4 = k4)).2 wk) ?_
  show Fin1 p e below s (rm0Q Z i0 i1 h0 n0) room_1.cells room_1.slots (T3.setTop (mkF m 49 #[.val (.int i0), .val (.int i1), .val (.int k2), .val (.ref b1), .val (.int k4), .unset] []))
  refine own_st (fun wt wk => XS.iconst X3.here hx rfl (hb hby at_49) wk) ?_
  show Fin1 p e below s (rm0Q Z i0 i1 h0 n0) room_1.cells room_1.slots (T3.setTop (mkF m 50 #[.val (.int i0), .val (.int i1), .val (.int k2), .val (.ref b1), .val (.int k4), .unset] [(.int (1 : Int32))]))
  refine own_st (fun wt wk => XS.goto X3.here hx rfl (pc0 := 50) (pc' := 54) rfl (hb hby at_50) (by decide) (by decide) wk) ?_
  show Fin1 p e below s (rm0Q Z i0 i1 h0 n0) room_1.cells room_1.slots (T3.setTop (mkF m 54 #[.val (.int i0), .val (.int i1), .val (.int k2), .val (.ref b1), .val (.int k4), .unset] [(.int (1 : Int32))]))
  refine own_st (fun wt wk => XS.istore X3.here hx rfl (hb hby at_54) rfl (l' := #[.val (.int i0), .val (.int i1), .val (.int k2), .val (.ref b1), .val (.int k4), .val (.int (1 : Int32))]) rfl wk) ?_
  show Fin1 p e below s (rm0Q Z i0 i1 h0 n0) room_1.cells room_1.slots (T3.setTop (mkF m 56 #[.val (.int i0), .val (.int i1), .val (.int k2), .val (.ref b1), .val (.int k4), .val (.int (1 : Int32))] []))
  refine own_st (fun wt wk => XS.iload X3.here hx rfl (hb hby at_56) rfl wk) ?_
  show Fin1 p e below s (rm0Q Z i0 i1 h0 n0) room_1.cells room_1.slots (T3.setTop (mkF m 58 #[.val (.int i0), .val (.int i1), .val (.int k2), .val (.ref b1), .val (.int k4), .val (.int (1 : Int32))] [(.int (1 : Int32))]))
  refine own_st (fun wt wk => XS.ifNo X3.here hx rfl (hb hby at_58) rfl ((if0 _ _).trans (feq (by decide)).1) wk) ?_
  show Fin1 p e below s (rm0Q Z i0 i1 h0 n0) room_1.cells room_1.slots (T3.setTop (mkF m 61 #[.val (.int i0), .val (.int i1), .val (.int k2), .val (.ref b1), .val (.int k4), .val (.int (1 : Int32))] []))
  refine own_st (fun wt wk => XS.aloadN X3.here hx rfl (hb hby at_61) rfl rfl wk) ?_
  show Fin1 p e below s (rm0Q Z i0 i1 h0 n0) room_1.cells room_1.slots (T3.setTop (mkF m 62 #[.val (.int i0), .val (.int i1), .val (.int k2), .val (.ref b1), .val (.int k4), .val (.int (1 : Int32))] [(.ref b1)]))
  refine own_st (fun wt wk => XS.iconst X3.here hx rfl (hb hby at_62) wk) ?_
  show Fin1 p e below s (rm0Q Z i0 i1 h0 n0) room_1.cells room_1.slots (T3.setTop (mkF m 63 #[.val (.int i0), .val (.int i1), .val (.int k2), .val (.ref b1), .val (.int k4), .val (.int (1 : Int32))] [(.int (0 : Int32)), (.ref b1)]))
  obtain ⟨v4, T4, h4, L4, X4, e4, hQ4, st4⟩ := own_virtual X3 hx hZ hown (hw _ (List.mem_of_getElem? (i := 18) rfl)) (hw _ (List.mem_of_getElem? (i := 19) rfl)) (hw _ (List.mem_of_getElem? (i := 21) rfl)) (hw _ (List.mem_of_getElem? (i := 20) rfl)) (hw _ (List.mem_of_getElem? (i := 22) rfl)) (hw _ (List.mem_of_getElem? (i := 3) rfl)) (by decide) (a := b1) E_b1 (rmO l Z a0 hw b1 (0 : Int32) k2 (1 : Int32) h2 n0 Z0 G2 (own_at0 _ hk2)) e3 (g := (mkF m 63 #[.val (.int i0), .val (.int i1), .val (.int k2), .val (.ref b1), .val (.int k4), .val (.int (1 : Int32))] [(.int (0 : Int32)), (.ref b1)])) rfl (by rw [hml]; rfl) (argsL := [(.int (0 : Int32))]) (rest := []) (lenOf pd_5 rfl) rfl (W := 0) (by show 2 * 0 + _ ≤ _; exact Nat.le_of_eq rfl) (hb hby at_63) (by decide) (by decide) (by decide) (by decide)
  obtain ⟨rfl, N4q, hh4⟩ := hQ4
  have N4 := Fr.app N3 N4q
  rw [hh4] at e4
  refine own_st st4 ?_
  show Fin1 p e below s (rm0Q Z i0 i1 h0 n0) room_1.cells room_1.slots (T4.setTop (mkF m 66 #[.val (.int i0), .val (.int i1), .val (.int k2), .val (.ref b1), .val (.int k4), .val (.int (1 : Int32))] [(.int (1 : Int32))]))
  refine own_st (fun wt wk => XS.ifNo X4.here hx rfl (hb hby at_66) rfl ((if0 _ _).trans (feq (by decide)).1) wk) ?_
  show Fin1 p e below s (rm0Q Z i0 i1 h0 n0) room_1.cells room_1.slots (T4.setTop (mkF m 69 #[.val (.int i0), .val (.int i1), .val (.int k2), .val (.ref b1), .val (.int k4), .val (.int (1 : Int32))] []))
  refine own_st (fun wt wk => XS.iconst X4.here hx rfl (hb hby at_69) wk) ?_
  show Fin1 p e below s (rm0Q Z i0 i1 h0 n0) room_1.cells room_1.slots (T4.setTop (mkF m 70 #[.val (.int i0), .val (.int i1), .val (.int k2), .val (.ref b1), .val (.int k4), .val (.int (1 : Int32))] [(.int (1 : Int32))]))
  refine own_st (fun wt wk => XS.goto X4.here hx rfl (pc0 := 70) (pc' := 74) rfl (hb hby at_70) (by decide) (by decide) wk) ?_
  show Fin1 p e below s (rm0Q Z i0 i1 h0 n0) room_1.cells room_1.slots (T4.setTop (mkF m 74 #[.val (.int i0), .val (.int i1), .val (.int k2), .val (.ref b1), .val (.int k4), .val (.int (1 : Int32))] [(.int (1 : Int32))]))
  refine own_st (fun wt wk => XS.istore X4.here hx rfl (hb hby at_74) rfl (l' := #[.val (.int i0), .val (.int i1), .val (.int k2), .val (.ref b1), .val (.int k4), .val (.int (1 : Int32))]) rfl wk) ?_
  show Fin1 p e below s (rm0Q Z i0 i1 h0 n0) room_1.cells room_1.slots (T4.setTop (mkF m 76 #[.val (.int i0), .val (.int i1), .val (.int k2), .val (.ref b1), .val (.int k4), .val (.int (1 : Int32))] []))
  refine own_st (fun wt wk => XS.iload X4.here hx rfl (hb hby at_76) rfl wk) ?_
  show Fin1 p e below s (rm0Q Z i0 i1 h0 n0) room_1.cells room_1.slots (T4.setTop (mkF m 78 #[.val (.int i0), .val (.int i1), .val (.int k2), .val (.ref b1), .val (.int k4), .val (.int (1 : Int32))] [(.int (1 : Int32))]))
  refine own_st (fun wt wk => XS.ifNo X4.here hx rfl (hb hby at_78) rfl ((if0 _ _).trans (feq (by decide)).1) wk) ?_
  show Fin1 p e below s (rm0Q Z i0 i1 h0 n0) room_1.cells room_1.slots (T4.setTop (mkF m 81 #[.val (.int i0), .val (.int i1), .val (.int k2), .val (.ref b1), .val (.int k4), .val (.int (1 : Int32))] []))
  refine own_st (fun wt wk => XS.aloadN X4.here hx rfl (hb hby at_81) rfl rfl wk) ?_
  show Fin1 p e below s (rm0Q Z i0 i1 h0 n0) room_1.cells room_1.slots (T4.setTop (mkF m 82 #[.val (.int i0), .val (.int i1), .val (.int k2), .val (.ref b1), .val (.int k4), .val (.int (1 : Int32))] [(.ref b1)]))
  refine own_st (fun wt wk => XS.iloadN X4.here hx rfl (hb hby at_82) rfl wk) ?_
  show Fin1 p e below s (rm0Q Z i0 i1 h0 n0) room_1.cells room_1.slots (T4.setTop (mkF m 83 #[.val (.int i0), .val (.int i1), .val (.int k2), .val (.ref b1), .val (.int k4), .val (.int (1 : Int32))] [(.int k2), (.ref b1)]))
  refine own_st (fun wt wk => XS.iconst X4.here hx rfl (hb hby at_83) wk) ?_
  show Fin1 p e below s (rm0Q Z i0 i1 h0 n0) room_1.cells room_1.slots (T4.setTop (mkF m 84 #[.val (.int i0), .val (.int i1), .val (.int k2), .val (.ref b1), .val (.int k4), .val (.int (1 : Int32))] [(.int (1 : Int32)), (.int k2), (.ref b1)]))
  refine own_st (fun wt wk => XS.isub X4.here hx rfl (hb hby at_84) rfl wk) ?_
  show Fin1 p e below s (rm0Q Z i0 i1 h0 n0) room_1.cells room_1.slots (T4.setTop (mkF m 85 #[.val (.int i0), .val (.int i1), .val (.int k2), .val (.ref b1), .val (.int k4), .val (.int (1 : Int32))] [(.int (k2 - (1 : Int32))), (.ref b1)]))
  obtain ⟨v5, T5, h5, L5, X5, e5, hQ5, st5⟩ := own_virtual X4 hx hZ hown (hw _ (List.mem_of_getElem? (i := 18) rfl)) (hw _ (List.mem_of_getElem? (i := 19) rfl)) (hw _ (List.mem_of_getElem? (i := 21) rfl)) (hw _ (List.mem_of_getElem? (i := 20) rfl)) (hw _ (List.mem_of_getElem? (i := 22) rfl)) (hw _ (List.mem_of_getElem? (i := 3) rfl)) (by decide) (a := b1) E_b1 (rmO l Z a0 hw b1 (k2 - (1 : Int32)) k2 (1 : Int32) h2 n0 Z0 G2 (own_last _ hk2)) e4 (g := (mkF m 85 #[.val (.int i0), .val (.int i1), .val (.int k2), .val (.ref b1), .val (.int k4), .val (.int (1 : Int32))] [(.int (k2 - (1 : Int32))), (.ref b1)])) rfl (by rw [hml]; rfl) (argsL := [(.int (k2 - (1 : Int32)))]) (rest := []) (lenOf pd_5 rfl) rfl (W := 0) (by show 2 * 0 + _ ≤ _; exact Nat.le_of_eq rfl) (hb hby at_85) (by decide) (by decide) (by decide) (by decide)
  obtain ⟨rfl, N5q, hh5⟩ := hQ5
  have N5 := Fr.app N4 N5q
  rw [hh5] at e5
  refine own_st st5 ?_
  show Fin1 p e below s (rm0Q Z i0 i1 h0 n0) room_1.cells room_1.slots (T5.setTop (mkF m 88 #[.val (.int i0), .val (.int i1), .val (.int k2), .val (.ref b1), .val (.int k4), .val (.int (1 : Int32))] [(.int (1 : Int32))]))
  refine own_st (fun wt wk => XS.ifNo X5.here hx rfl (hb hby at_88) rfl ((if0 _ _).trans (feq (by decide)).1) wk) ?_
  show Fin1 p e below s (rm0Q Z i0 i1 h0 n0) room_1.cells room_1.slots (T5.setTop (mkF m 91 #[.val (.int i0), .val (.int i1), .val (.int k2), .val (.ref b1), .val (.int k4), .val (.int (1 : Int32))] []))
  refine own_st (fun wt wk => XS.iconst X5.here hx rfl (hb hby at_91) wk) ?_
  show Fin1 p e below s (rm0Q Z i0 i1 h0 n0) room_1.cells room_1.slots (T5.setTop (mkF m 92 #[.val (.int i0), .val (.int i1), .val (.int k2), .val (.ref b1), .val (.int k4), .val (.int (1 : Int32))] [(.int (1 : Int32))]))
  refine own_st (fun wt wk => XS.goto X5.here hx rfl (pc0 := 92) (pc' := 96) rfl (hb hby at_92) (by decide) (by decide) wk) ?_
  show Fin1 p e below s (rm0Q Z i0 i1 h0 n0) room_1.cells room_1.slots (T5.setTop (mkF m 96 #[.val (.int i0), .val (.int i1), .val (.int k2), .val (.ref b1), .val (.int k4), .val (.int (1 : Int32))] [(.int (1 : Int32))]))
  refine own_st (fun wt wk => XS.istore X5.here hx rfl (hb hby at_96) rfl (l' := #[.val (.int i0), .val (.int i1), .val (.int k2), .val (.ref b1), .val (.int k4), .val (.int (1 : Int32))]) rfl wk) ?_
  show Fin1 p e below s (rm0Q Z i0 i1 h0 n0) room_1.cells room_1.slots (T5.setTop (mkF m 98 #[.val (.int i0), .val (.int i1), .val (.int k2), .val (.ref b1), .val (.int k4), .val (.int (1 : Int32))] []))
  refine own_st (fun wt wk => XS.iload X5.here hx rfl (hb hby at_98) rfl wk) ?_
  show Fin1 p e below s (rm0Q Z i0 i1 h0 n0) room_1.cells room_1.slots (T5.setTop (mkF m 100 #[.val (.int i0), .val (.int i1), .val (.int k2), .val (.ref b1), .val (.int k4), .val (.int (1 : Int32))] [(.int (1 : Int32))]))
  refine own_st (fun wt wk => XS.ifNo X5.here hx rfl (hb hby at_100) rfl ((if0 _ _).trans (feq (by decide)).1) wk) ?_
  show Fin1 p e below s (rm0Q Z i0 i1 h0 n0) room_1.cells room_1.slots (T5.setTop (mkF m 103 #[.val (.int i0), .val (.int i1), .val (.int k2), .val (.ref b1), .val (.int k4), .val (.int (1 : Int32))] []))
  refine own_st (fun wt wk => XS.aloadN X5.here hx rfl (hb hby at_103) rfl rfl wk) ?_
  show Fin1 p e below s (rm0Q Z i0 i1 h0 n0) room_1.cells room_1.slots (T5.setTop (mkF m 104 #[.val (.int i0), .val (.int i1), .val (.int k2), .val (.ref b1), .val (.int k4), .val (.int (1 : Int32))] [(.ref b1)]))
  refine own_st (fun wt wk => XS.iloadN X5.here hx rfl (hb hby at_104) rfl wk) ?_
  show Fin1 p e below s (rm0Q Z i0 i1 h0 n0) room_1.cells room_1.slots (T5.setTop (mkF m 105 #[.val (.int i0), .val (.int i1), .val (.int k2), .val (.ref b1), .val (.int k4), .val (.int (1 : Int32))] [(.int k2), (.ref b1)]))
  obtain ⟨v6, T6, h6, L6, X6, e6, hQ6, st6⟩ := own_virtual X5 hx hZ hown (hw _ (List.mem_of_getElem? (i := 18) rfl)) (hw _ (List.mem_of_getElem? (i := 19) rfl)) (hw _ (List.mem_of_getElem? (i := 21) rfl)) (hw _ (List.mem_of_getElem? (i := 20) rfl)) (hw _ (List.mem_of_getElem? (i := 22) rfl)) (hw _ (List.mem_of_getElem? (i := 3) rfl)) (by decide) (a := b1) E_b1 (rmO l Z a0 hw b1 k2 k2 (0 : Int32) h2 n0 Z0 G2 (own_end _)) e5 (g := (mkF m 105 #[.val (.int i0), .val (.int i1), .val (.int k2), .val (.ref b1), .val (.int k4), .val (.int (1 : Int32))] [(.int k2), (.ref b1)])) rfl (by rw [hml]; rfl) (argsL := [(.int k2)]) (rest := []) (lenOf pd_5 rfl) rfl (W := 0) (by show 2 * 0 + _ ≤ _; exact Nat.le_of_eq rfl) (hb hby at_105) (by decide) (by decide) (by decide) (by decide)
  obtain ⟨rfl, N6q, hh6⟩ := hQ6
  have N6 := Fr.app N5 N6q
  rw [hh6] at e6
  refine own_st st6 ?_
  show Fin1 p e below s (rm0Q Z i0 i1 h0 n0) room_1.cells room_1.slots (T6.setTop (mkF m 108 #[.val (.int i0), .val (.int i1), .val (.int k2), .val (.ref b1), .val (.int k4), .val (.int (1 : Int32))] [(.int (0 : Int32))]))
  refine own_st (fun wt wk => XS.ifNo X6.here hx rfl (hb hby at_108) rfl ((if0 _ _).trans (teq (by decide)).2) wk) ?_
  show Fin1 p e below s (rm0Q Z i0 i1 h0 n0) room_1.cells room_1.slots (T6.setTop (mkF m 111 #[.val (.int i0), .val (.int i1), .val (.int k2), .val (.ref b1), .val (.int k4), .val (.int (1 : Int32))] []))
  refine own_st (fun wt wk => XS.iconst X6.here hx rfl (hb hby at_111) wk) ?_
  show Fin1 p e below s (rm0Q Z i0 i1 h0 n0) room_1.cells room_1.slots (T6.setTop (mkF m 112 #[.val (.int i0), .val (.int i1), .val (.int k2), .val (.ref b1), .val (.int k4), .val (.int (1 : Int32))] [(.int (1 : Int32))]))
  refine own_st (fun wt wk => XS.goto X6.here hx rfl (pc0 := 112) (pc' := 116) rfl (hb hby at_112) (by decide) (by decide) wk) ?_
  show Fin1 p e below s (rm0Q Z i0 i1 h0 n0) room_1.cells room_1.slots (T6.setTop (mkF m 116 #[.val (.int i0), .val (.int i1), .val (.int k2), .val (.ref b1), .val (.int k4), .val (.int (1 : Int32))] [(.int (1 : Int32))]))
  refine own_st (fun wt wk => XS.istore X6.here hx rfl (hb hby at_116) rfl (l' := #[.val (.int i0), .val (.int i1), .val (.int k2), .val (.ref b1), .val (.int k4), .val (.int (1 : Int32))]) rfl wk) ?_
  show Fin1 p e below s (rm0Q Z i0 i1 h0 n0) room_1.cells room_1.slots (T6.setTop (mkF m 118 #[.val (.int i0), .val (.int i1), .val (.int k2), .val (.ref b1), .val (.int k4), .val (.int (1 : Int32))] []))
  refine own_st (fun wt wk => XS.iload X6.here hx rfl (hb hby at_118) rfl wk) ?_
  show Fin1 p e below s (rm0Q Z i0 i1 h0 n0) room_1.cells room_1.slots (T6.setTop (mkF m 120 #[.val (.int i0), .val (.int i1), .val (.int k2), .val (.ref b1), .val (.int k4), .val (.int (1 : Int32))] [(.int (1 : Int32))]))
  refine own_st (fun wt wk => XS.ifNo X6.here hx rfl (hb hby at_120) rfl ((if0 _ _).trans (feq (by decide)).1) wk) ?_
  show Fin1 p e below s (rm0Q Z i0 i1 h0 n0) room_1.cells room_1.slots (T6.setTop (mkF m 123 #[.val (.int i0), .val (.int i1), .val (.int k2), .val (.ref b1), .val (.int k4), .val (.int (1 : Int32))] []))
  refine own_st (fun wt wk => XS.aloadN X6.here hx rfl (hb hby at_123) rfl rfl wk) ?_
  show Fin1 p e below s (rm0Q Z i0 i1 h0 n0) room_1.cells room_1.slots (T6.setTop (mkF m 124 #[.val (.int i0), .val (.int i1), .val (.int k2), .val (.ref b1), .val (.int k4), .val (.int (1 : Int32))] [(.ref b1)]))
  refine own_st (fun wt wk => XS.iconst X6.here hx rfl (hb hby at_124) wk) ?_
  show Fin1 p e below s (rm0Q Z i0 i1 h0 n0) room_1.cells room_1.slots (T6.setTop (mkF m 125 #[.val (.int i0), .val (.int i1), .val (.int k2), .val (.ref b1), .val (.int k4), .val (.int (1 : Int32))] [(.int (-1 : Int32)), (.ref b1)]))
  obtain ⟨v7, T7, h7, L7, X7, e7, hQ7, st7⟩ := own_virtual X6 hx hZ hown (hw _ (List.mem_of_getElem? (i := 18) rfl)) (hw _ (List.mem_of_getElem? (i := 19) rfl)) (hw _ (List.mem_of_getElem? (i := 21) rfl)) (hw _ (List.mem_of_getElem? (i := 20) rfl)) (hw _ (List.mem_of_getElem? (i := 22) rfl)) (hw _ (List.mem_of_getElem? (i := 3) rfl)) (by decide) (a := b1) E_b1 (rmO l Z a0 hw b1 (-1 : Int32) k2 (0 : Int32) h2 n0 Z0 G2 (own_neg _)) e6 (g := (mkF m 125 #[.val (.int i0), .val (.int i1), .val (.int k2), .val (.ref b1), .val (.int k4), .val (.int (1 : Int32))] [(.int (-1 : Int32)), (.ref b1)])) rfl (by rw [hml]; rfl) (argsL := [(.int (-1 : Int32))]) (rest := []) (lenOf pd_5 rfl) rfl (W := 0) (by show 2 * 0 + _ ≤ _; exact Nat.le_of_eq rfl) (hb hby at_125) (by decide) (by decide) (by decide) (by decide)
  obtain ⟨rfl, N7q, hh7⟩ := hQ7
  have N7 := Fr.app N6 N7q
  rw [hh7] at e7
  refine own_st st7 ?_
  show Fin1 p e below s (rm0Q Z i0 i1 h0 n0) room_1.cells room_1.slots (T7.setTop (mkF m 128 #[.val (.int i0), .val (.int i1), .val (.int k2), .val (.ref b1), .val (.int k4), .val (.int (1 : Int32))] [(.int (0 : Int32))]))
  refine own_st (fun wt wk => XS.ifNo X7.here hx rfl (hb hby at_128) rfl ((if0 _ _).trans (teq (by decide)).2) wk) ?_
  show Fin1 p e below s (rm0Q Z i0 i1 h0 n0) room_1.cells room_1.slots (T7.setTop (mkF m 131 #[.val (.int i0), .val (.int i1), .val (.int k2), .val (.ref b1), .val (.int k4), .val (.int (1 : Int32))] []))
  refine own_st (fun wt wk => XS.iconst X7.here hx rfl (hb hby at_131) wk) ?_
  show Fin1 p e below s (rm0Q Z i0 i1 h0 n0) room_1.cells room_1.slots (T7.setTop (mkF m 132 #[.val (.int i0), .val (.int i1), .val (.int k2), .val (.ref b1), .val (.int k4), .val (.int (1 : Int32))] [(.int (1 : Int32))]))
  refine own_st (fun wt wk => XS.goto X7.here hx rfl (pc0 := 132) (pc' := 136) rfl (hb hby at_132) (by decide) (by decide) wk) ?_
  show Fin1 p e below s (rm0Q Z i0 i1 h0 n0) room_1.cells room_1.slots (T7.setTop (mkF m 136 #[.val (.int i0), .val (.int i1), .val (.int k2), .val (.ref b1), .val (.int k4), .val (.int (1 : Int32))] [(.int (1 : Int32))]))
  refine own_st (fun wt wk => XS.istore X7.here hx rfl (hb hby at_136) rfl (l' := #[.val (.int i0), .val (.int i1), .val (.int k2), .val (.ref b1), .val (.int k4), .val (.int (1 : Int32))]) rfl wk) ?_
  show Fin1 p e below s (rm0Q Z i0 i1 h0 n0) room_1.cells room_1.slots (T7.setTop (mkF m 138 #[.val (.int i0), .val (.int i1), .val (.int k2), .val (.ref b1), .val (.int k4), .val (.int (1 : Int32))] []))
  refine own_st (fun wt wk => XS.iload X7.here hx rfl (hb hby at_138) rfl wk) ?_
  show Fin1 p e below s (rm0Q Z i0 i1 h0 n0) room_1.cells room_1.slots (T7.setTop (mkF m 140 #[.val (.int i0), .val (.int i1), .val (.int k2), .val (.ref b1), .val (.int k4), .val (.int (1 : Int32))] [(.int (1 : Int32))]))
  exact own_retZ X7 hx hlk hret (hb hby at_140) (z := (1 : Int32)) (by decide) (by rw [e7]; exact ⟨rfl, N7⟩) (by decide) (by decide)
set_option maxRecDepth 65536 in
set_option maxHeartbeats 40000000 in
theorem comes_1 {Post : Tables → Env → Array Value → State → Outcome → State → Prop} (hpost : ∀ tb e args s v u, (limb_1_1.after args s (.returned v) u = true ∧ limb_1_2.after args s (.returned v) u = true ∧ True) → FrameEnd s (.returned v) u (Jvm.fieldLocs frame_1_writes args s ++ Jvm.arrayLocs frame_1_arrays args s ++ Jvm.staticLocs frame_1_statics s) 16 128 → Post tb e args s (.returned v) u) :
    ArmFor flags0 classFile x code maxLocals ret World_1 tables_1 room_1 Calls_1 rest_1 Pre_1 Post := by
  intro l hfl _ _ p e ha hc hk s m args below hf hA hF happ hP
  obtain ⟨hcalls, hrest, hpre⟩ := hP
  obtain ⟨-, -, -, hnamed, -, -, -, hat⟩ := (Spec.applies_iff hf).mp happ
  obtain ⟨hg, hn⟩ := and_e (Cond.before_iff.mp (show (Jvm.Cond.and given_1 narrow_1).before args s = true from hpre))
  obtain ⟨hcnt, hg1⟩ := and_e hg
  obtain ⟨hv0, hg2⟩ := and_e hg1
  have hv1 := hg2
  obtain ⟨w0, w1, rfl⟩ : ∃ w0 w1 : Value, args = #[w0, w1] := by
    have hs : args.size = 2 := by simpa [Cond.value, given_1] using hcnt
    obtain ⟨L⟩ := args
    match L, hs with
    | [w0, w1], _ => exact ⟨w0, w1, rfl⟩
  have hw := fun d (hd : d ∈ tables_1) => atoms_spec (ws := Jvm.Cond.code x code maxLocals ret :: tables_1) hat d (List.mem_cons_of_mem _ hd)
  have hfit : Fit s := fun {y c} hc i hi => by
    obtain ⟨ha, rfl⟩ := Array.getElem?_eq_some_iff.mp hc
    have q := List.all_eq_true.mp ((Array.all_eq_true_iff_forall_mem.mp hF) _ (Array.getElem_mem ha)) i (List.mem_range.mpr hi)
    simpa [Array.getElem?_eq_getElem hi] using q
  obtain ⟨i0, ei0⟩ := is_v hv0
  obtain rfl : w0 = (.int i0) := Option.some.inj ei0
  obtain ⟨i1, ei1⟩ := is_v hv1
  obtain rfl : w1 = (.int i1) := Option.some.inj ei1
  obtain ⟨n, o, h1, h2, h3, _, L, rfl, ⟨rfl, N⟩, hq⟩ := rm0 l s _ hw i0 i1 s.heap s.heap.size (Nat.le_refl _)  p e ha hc hk s m _ below hf ((Spec.applies_iff_loose hf).mp happ).1 ⟨rfl, State.Warmed39.refl s, rfl⟩ trivial
  refine ⟨n, _, h1, h2, h3, hpost _ _ _ _ _ _ ⟨Cond.after_iff.mpr rfl, Cond.after_iff.mpr (eq_i res_at (Term.int_eval (1)) rfl), trivial⟩ ⟨hq.1, hq.2.1, (hq.2.2.sift fun y hy => Or.inr (N y hy)).mono (by decide) (by decide)⟩⟩
theorem main_1_1 : Claimed_1_1 := comes_1 fun _ _ _ _ _ _ h hF => ⟨h.1, hF⟩
theorem main_1_2 : Claimed_1_2 := comes_1 fun _ _ _ _ _ _ h hF => ⟨h.2.1, hF⟩
end Jvm.Pilot.@@N@@
namespace Jvm.Pilot.@@N@@
open Jvm Jvm.ClassFile Sem Op Lib Jvm.Free Jvm.Stand Jvm.Pilot.@@N@@.Jvm.D
/-! MADE BY PROGRAM (witnessworld.py) out of the Statement's table words and the real class files: 10 classes; the members and pool entries that the words name. The judged class is class 1, her method 1. -/
namespace start1
open Jvm.ClassFile
def u (s : String) : CpInfo := .utf8 (stringToUtf16 s)
/-- a pool by its gaps: so many unusable entries, then the entry; so many at the end -/
def gap : Nat → List CpInfo → List CpInfo
  | 0, r => r
  | n + 1, r => .unusable :: gap n r
def poolList (es : List (Nat × CpInfo)) (last : Nat) : List CpInfo := es.foldr (fun e r => gap e.1 (e.2 :: r)) (gap last [])
def pool (es : List (Nat × CpInfo)) (last : Nat) : Array CpInfo := ⟨poolList es last⟩
def fileOf (pool : Array CpInfo) (this : Nat) (attrs : Array Attribute := #[]) (ms : Array MethodInfo := #[]) (fl : Nat := 33) (sup : Nat := 0) (ifs : Array Nat := #[]) (fds : Array FieldInfo := #[]) : ClassFile where
  minorVersion := 0
  majorVersion := 65
  constantPool := pool
  accessFlags := fl
  thisClass := this
  superClass := sup
  interfaces := ifs
  fields := fds
  methods := ms
  attributes := attrs
def plain (name : String) (sup : Option ClassId) : Class where
  name := name
  kind := .ordinary
  loader := none
  accessFlags := 33
  super := sup
  interfaces := #[]
  cf := none
  fields := #[]
  methods := #[]
  instanceTypes := #[]
  staticTypes := #[]
  resolved := #[]
  callSites := []
  init := .initialized
  statics := none
  mirror := none

def pool0 : Array CpInfo := pool [(5, u "<init>"), (0, u "()V"), (1, .class_ 10), (1, u "java/lang/Object")] 113

def k0c0 : Code := { maxStack := 0, maxLocals := 1, code := object_method_1_code, exceptionTable := #[], attributes := #[] }
def k0m0 : Method := { name := "<init>", desc := "()V", sig := { parameters := [], returnType := none }, accessFlags := 1, code := some k0c0 }
/-- java/lang/Object -/
def k0 : Class := { plain "java/lang/Object" none with
  accessFlags := 33
  interfaces := #[]
  cf := some (fileOf pool0 8 #[] #[{ accessFlags := 1, nameIndex := 5, descriptorIndex := 6, attributes := #[] }] 33 0 #[] #[])
  fields := #[]
  methods := #[k0m0]
  instanceTypes := #[]
  staticTypes := #[]
  resolved := Array.replicate 124 none
  statics := none }

def pool1 : Array CpInfo := pool [(2, .class_ 4), (1, u "java/lang/Object"), (0, u "<init>"), (0, u "()V"), (0, .integer 2147483647), (0, .class_ 9), (0, u "example/antecedent/core/Group"), (0, .methodref 8 11), (0, .nameAndType 5 12), (0, u "(I)V"), (0, .long 4294967295), (1, .methodref 8 16), (0, .nameAndType 17 18), (0, u "contains"), (0, u "(I)Z"), (0, .class_ 20), (0, u "example/antecedent/core/GroupContainsPinLaw"), (2, u "law"), (0, u "(II)Z")] 3

def k1m0 : Method := { name := "<init>", desc := "()V", sig := { parameters := [], returnType := none }, accessFlags := 2, code := none }
def k1c1 : Code := { maxStack := 4, maxLocals := 6, code := code, exceptionTable := #[], attributes := #[] }
def k1m1 : Method := { name := "law", desc := "(II)Z", sig := { parameters := [.int, .int], returnType := some .boolean }, accessFlags := 9, code := some k1c1 }
/-- example/antecedent/core/GroupContainsPinLaw -/
def k1 : Class := { plain "example/antecedent/core/GroupContainsPinLaw" (some 0) with
  accessFlags := 49
  interfaces := #[]
  cf := some (fileOf pool1 19 #[] #[{ accessFlags := 2, nameIndex := 5, descriptorIndex := 6, attributes := #[] }, { accessFlags := 9, nameIndex := 23, descriptorIndex := 24, attributes := #[] }] 49 2 #[] #[])
  fields := #[]
  methods := #[k1m0, k1m1]
  instanceTypes := #[]
  staticTypes := #[]
  resolved := Array.replicate 28 none
  statics := none }

def pool2 : Array CpInfo := pool [(1, .methodref 2 3), (0, .class_ 4), (0, .nameAndType 5 6), (0, u "java/lang/Object"), (0, u "<init>"), (0, u "()V"), (0, .class_ 8), (0, u "java/lang/Record")] 13

def k2c0 : Code := { maxStack := 1, maxLocals := 1, code := jdk_30_method_1_code, exceptionTable := #[], attributes := #[] }
def k2m0 : Method := { name := "<init>", desc := "()V", sig := { parameters := [], returnType := none }, accessFlags := 4, code := some k2c0 }
/-- java/lang/Record -/
def k2 : Class := { plain "java/lang/Record" (some 0) with
  accessFlags := 1057
  interfaces := #[]
  cf := some (fileOf pool2 7 #[] #[{ accessFlags := 4, nameIndex := 5, descriptorIndex := 6, attributes := #[] }] 1057 2 #[] #[])
  fields := #[]
  methods := #[k2m0]
  instanceTypes := #[]
  staticTypes := #[]
  resolved := Array.replicate 22 none
  statics := none }

def pool3 : Array CpInfo := pool [(1, .methodref 2 3), (0, .class_ 4), (0, .nameAndType 5 6), (0, u "java/lang/Record"), (0, u "<init>"), (0, u "()V"), (9, .fieldref 17 18), (0, .class_ 19), (0, .nameAndType 20 21), (0, u "example/antecedent/core/Group"), (0, u "size"), (0, u "I"), (2, u "contains"), (0, u "(I)Z"), (24, u "(I)V")] 40

def k3c0 : Code := { maxStack := 3, maxLocals := 2, code := prog_20_method_1_code, exceptionTable := #[], attributes := #[] }
def k3m0 : Method := { name := "<init>", desc := "(I)V", sig := { parameters := [.int], returnType := none }, accessFlags := 1, code := some k3c0 }
def k3c1 : Code := { maxStack := 2, maxLocals := 2, code := prog_20_method_2_code, exceptionTable := #[], attributes := #[] }
def k3m1 : Method := { name := "contains", desc := "(I)Z", sig := { parameters := [.int], returnType := some .boolean }, accessFlags := 1, code := some k3c1 }
/-- example/antecedent/core/Group -/
def k3 : Class := { plain "example/antecedent/core/Group" (some 2) with
  accessFlags := 49
  interfaces := #[]
  cf := some (fileOf pool3 17 #[] #[{ accessFlags := 1, nameIndex := 5, descriptorIndex := 50, attributes := #[] }, { accessFlags := 1, nameIndex := 24, descriptorIndex := 25, attributes := #[] }] 49 2 #[] #[{ accessFlags := 18, nameIndex := 20, descriptorIndex := 21, attributes := #[] }])
  fields := #[{ name := "size", type := .int, accessFlags := 18, slot := 0, constantValue := 0 }]
  methods := #[k3m0, k3m1]
  instanceTypes := #[.int]
  staticTypes := #[]
  resolved := Array.replicate 91 none
  statics := none }

def pool4 : Array CpInfo := pool [(1, u "java/lang/Cloneable"), (0, .class_ 1), (0, u "java/lang/Object"), (0, .class_ 3)] 3

/-- java/lang/Cloneable -/
def k4 : Class := { plain "java/lang/Cloneable" (some 0) with
  accessFlags := 1537
  interfaces := #[]
  cf := some (fileOf pool4 2 #[] #[] 1537 4 #[] #[])
  fields := #[]
  methods := #[]
  instanceTypes := #[]
  staticTypes := #[]
  resolved := Array.replicate 8 none
  statics := none }

def pool5 : Array CpInfo := pool [(1, u "java/io/Serializable"), (0, .class_ 1), (0, u "java/lang/Object"), (0, .class_ 3)] 3

/-- java/io/Serializable -/
def k5 : Class := { plain "java/io/Serializable" (some 0) with
  accessFlags := 1537
  interfaces := #[]
  cf := some (fileOf pool5 2 #[] #[] 1537 4 #[] #[])
  fields := #[]
  methods := #[]
  instanceTypes := #[]
  staticTypes := #[]
  resolved := Array.replicate 8 none
  statics := none }

/-- the primitive byte -/
def k6 : Class := { plain "byte" none with kind := .primitive 'B', accessFlags := 0x411 }
/-- [B -/
def k7 : Class := { plain "[B" (some 0) with kind := .array 6 .byte, interfaces := #[4, 5], accessFlags := 1041 }

/-- the primitive int -/
def k8 : Class := { plain "int" none with kind := .primitive 'I', accessFlags := 0x411 }
/-- [I -/
def k9 : Class := { plain "[I" (some 0) with kind := .array 8 .int, interfaces := #[4, 5], accessFlags := 1041 }

def heap : Heap := #[]
def classes : Array Class := #[k0, k1, k2, k3, k4, k5, k6, k7, k8, k9]
def interned : List (Array UInt16 × Addr) := []
def slotsUsed : Nat := 0
def theMethod : MethodId := ⟨1, 1⟩
def args0 : Array Value := #[.int 5, .int 7]
def aboutOver (below : List Frame) : State where
  vm := { classes := classes, interned := interned.toArray }
  heap := heap
  slotsUsed := slotsUsed
  threads := #[{ frames := .invoking theMethod args0 :: below }]
def below0 : List Frame := [.native { method := ⟨0, 0⟩, args := #[] }]
def about1 : State := aboutOver below0
def p0 : Program := .bare "" "" ""
def e0 : Env := launch0.env 0 0 0
theorem w_frames : about1.frames = Frame.invoking theMethod args0 :: below0 := rfl
set_option maxRecDepth 65536 in
theorem w_args : argsFit about1.vm theMethod args0 = true := by decide +kernel
set_option maxRecDepth 65536 in
theorem w_heap : heapFits about1 = true := by decide +kernel
set_option maxRecDepth 65536 in
theorem w_runnable : about1.curStatus? = some .runnable := by decide +kernel
set_option maxRecDepth 65536 in
theorem w_alone : about1.alone = true := by decide +kernel
set_option maxRecDepth 65536 in
theorem w_named : about1.methodNamed? x = some theMethod := by decide +kernel
set_option maxRecDepth 65536 in
theorem w_hears : about1.hears theMethod below0 = true := by decide +kernel
set_option maxRecDepth 65536 in
theorem w_ripe : about1.ripe theMethod args0 below0 = true := by decide +kernel
theorem w_running : about1.status = .running := rfl
set_option maxRecDepth 65536 in
theorem w_room : about1.hasRoom e0.platform room_1 = true :=
  launch0.hasRoom_least _ room_1 (by decide +kernel) (by decide +kernel) (by decide +kernel) (by decide +kernel) (by decide +kernel) (by decide +kernel)
theorem allAtoms_all (ts : List Jvm.Cond) (a : Array Jvm.Value) (st : Jvm.State) : (allAtoms ts).before a st = ts.all (fun c => c.before a st) := by
  induction ts with
  | nil => rfl
  | cons c t ih =>
    show (Jvm.Cond.and c (allAtoms t)).before a st = _
    rw [Jvm.Cond.before_and, ih, List.all_cons]
def words1 : List Jvm.Cond := Jvm.Cond.code x code maxLocals ret :: tables_1
/-- a 'code' word, met by the world's own term for the bytes: nothing is compared byte by byte -/
theorem code_word {y : MethodName} {bytes : ByteArray} {mx : Nat} {rt : Option FieldType} {a : Array Value} {s : State} {m : MethodId} {meth : Method} {c : Code} (h1 : s.methodNamed? y = some m) (h2 : s.vm.method? m = some meth) (h3 : meth.code = some c) (h4 : c.code = bytes)
    (h5 : (c.maxLocals == mx && c.exceptionTable.isEmpty && decide (c.maxStack ≤ mostOperands) && decide (meth.sig.returnType = rt) && !meth.locks && decide (parseMethodDescriptor y.desc = some meth.sig)) = true) : (Jvm.Cond.code y bytes mx rt).before a s = true := by
  simp only [Bool.and_eq_true, beq_iff_eq, Bool.not_eq_true', decide_eq_true_eq] at h5
  obtain ⟨⟨⟨⟨⟨g1, g2⟩, g3⟩, g4⟩, g5⟩, g6⟩ := h5
  simp [Cond.before, Cond.holds, Cond.value, h1, h2, h3, h4, g1, g2, g3, g4, g5, g6]
def isCode : Jvm.Cond → Bool
  | .code _ _ _ _ => true
  | _ => false
theorem all_split {L : List Jvm.Cond} {P : Jvm.Cond → Bool} (h1 : L.all (fun c => isCode c || P c) = true) (h2 : ∀ c ∈ L.filter isCode, P c = true) : L.all P = true := by
  refine List.all_eq_true.mpr fun c hc => ?_
  have h := List.all_eq_true.mp h1 c hc
  rcases Bool.eq_false_or_eq_true (isCode c) with hi | hi
  · exact h2 c (List.mem_filter.mpr ⟨hc, hi⟩)
  · simpa [hi] using h
set_option maxRecDepth 65536 in
theorem w_c0 : (Jvm.Cond.code x code maxLocals ret).before args0 about1 = true := code_word (m := ⟨1, 1⟩) (meth := k1m1) (c := k1c1) (by decide +kernel) rfl rfl rfl (by decide +kernel)
set_option maxRecDepth 65536 in
theorem w_c1 : (Jvm.Cond.code ({ cls := "example/antecedent/core/Group", name := "<init>", desc := "(I)V" } : Jvm.MethodName) prog_20_method_1_code (2 : Nat) (Option.none : Option Jvm.ClassFile.FieldType)).before args0 about1 = true := code_word (m := ⟨3, 0⟩) (meth := k3m0) (c := k3c0) (by decide +kernel) rfl rfl rfl (by decide +kernel)
set_option maxRecDepth 65536 in
theorem w_c2 : (Jvm.Cond.code ({ cls := "java/lang/Record", name := "<init>", desc := "()V" } : Jvm.MethodName) jdk_30_method_1_code (1 : Nat) (Option.none : Option Jvm.ClassFile.FieldType)).before args0 about1 = true := code_word (m := ⟨2, 0⟩) (meth := k2m0) (c := k2c0) (by decide +kernel) rfl rfl rfl (by decide +kernel)
set_option maxRecDepth 65536 in
theorem w_c3 : (Jvm.Cond.code ({ cls := "java/lang/Object", name := "<init>", desc := "()V" } : Jvm.MethodName) object_method_1_code (1 : Nat) (Option.none : Option Jvm.ClassFile.FieldType)).before args0 about1 = true := code_word (m := ⟨0, 0⟩) (meth := k0m0) (c := k0c0) (by decide +kernel) rfl rfl rfl (by decide +kernel)
set_option maxRecDepth 65536 in
theorem w_c4 : (Jvm.Cond.code ({ cls := "example/antecedent/core/Group", name := "contains", desc := "(I)Z" } : Jvm.MethodName) prog_20_method_2_code (2 : Nat) (Option.some Jvm.ClassFile.FieldType.boolean)).before args0 about1 = true := code_word (m := ⟨3, 1⟩) (meth := k3m1) (c := k3c1) (by decide +kernel) rfl rfl rfl (by decide +kernel)
def codes1 : List Jvm.Cond := [Jvm.Cond.code x code maxLocals ret, Jvm.Cond.code ({ cls := "example/antecedent/core/Group", name := "<init>", desc := "(I)V" } : Jvm.MethodName) prog_20_method_1_code (2 : Nat) (Option.none : Option Jvm.ClassFile.FieldType), Jvm.Cond.code ({ cls := "java/lang/Record", name := "<init>", desc := "()V" } : Jvm.MethodName) jdk_30_method_1_code (1 : Nat) (Option.none : Option Jvm.ClassFile.FieldType), Jvm.Cond.code ({ cls := "java/lang/Object", name := "<init>", desc := "()V" } : Jvm.MethodName) object_method_1_code (1 : Nat) (Option.none : Option Jvm.ClassFile.FieldType), Jvm.Cond.code ({ cls := "example/antecedent/core/Group", name := "contains", desc := "(I)Z" } : Jvm.MethodName) prog_20_method_2_code (2 : Nat) (Option.some Jvm.ClassFile.FieldType.boolean)]
set_option maxRecDepth 65536 in
theorem codes_eq : words1.filter isCode = codes1 := rfl
theorem w_codes : ∀ c ∈ words1.filter isCode, c.before args0 about1 = true := by
  rw [codes_eq]
  intro c hc
  simp only [codes1, List.mem_cons, List.not_mem_nil, or_false] at hc
  rcases hc with rfl | rfl | rfl | rfl | rfl
  · exact w_c0
  · exact w_c1
  · exact w_c2
  · exact w_c3
  · exact w_c4
set_option maxRecDepth 65536 in
theorem w_t1 : words1.all (fun c => isCode c || c.before args0 about1) = true := by decide +kernel
theorem w_tables : (allAtoms (Jvm.Cond.code x code maxLocals ret :: tables_1)).before args0 about1 = true := by
  rw [allAtoms_all]
  show words1.all (fun c => c.before args0 about1) = true
  refine all_split ?_ w_codes
  rw [w_t1]
set_option maxRecDepth 65536 in
theorem w_case : (Jvm.Cond.and given_1 narrow_1).before args0 about1 = true := by decide +kernel
theorem w_applies : (headSpec (Jvm.Cond.code x code maxLocals ret :: tables_1) room_1).applies x e0.platform about1 = true :=
  (Spec.applies_iff w_frames).mpr ⟨w_running, w_runnable, w_alone, w_named, w_hears, w_ripe, w_room, w_tables⟩
theorem atStart : AtStart classFile x code maxLocals ret World_1 tables_1 room_1 Calls_1 rest_1 Pre_1 launch0 p0 e0 about1 theMethod args0 below0 :=
  ⟨lists_1, trivial, launch0.admits_env _ _ _, launch0.least_env, fairChoices_fair.cas, fairChoices_fair.clock, w_frames, w_args, w_heap, w_applies, trivial, trivial, w_case⟩
end start1
theorem witness_1 : WitnessClaimed_1 := ⟨start1.p0, start1.e0, start1.about1, start1.theMethod, start1.args0, start1.below0, start1.atStart⟩
end Jvm.Pilot.@@N@@
