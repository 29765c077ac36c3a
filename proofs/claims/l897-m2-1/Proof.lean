import JvmDerived
import JvmDerived.Pilot.@@N@@Statement
import JvmDerived.Pilot.@@N@@Code
set_option linter.unusedVariables false
set_option linter.unusedSimpArgs false
namespace Jvm.Pilot.@@N@@
open Jvm Jvm.ClassFile Sem Op Lib Jvm.Free Jvm.Stand Jvm.LawKit Jvm.RoadKit Bundle Jvm.Pilot.@@N@@.Jvm.D
section OwnKit
variable {p : Program} {l : Launch} {e : Env} {R : Room} {s : State} {m : MethodId} {args : Array Value} {below : List Frame} {meth : Method} {c : Code} {T : State} {locs : List Loc} {cells slots : Nat} {Z : State} {a0 : Array Value} {h : Heap} {Q : Option Value → Heap → List Loc → Prop} {cl sl : Nat}
/-- from the state U the run comes back, and what it leaves is as Q says -/
def Fin1 (p : Program) (e : Env) (below : List Frame) (s : State) (Q : Option Value → Heap → List Loc → Prop) (cl sl : Nat) (U : State) : Prop :=
  ∃ s₂ o, Steps p.tables e below U s₂ ∧ s₂.status = .running ∧ Ended s₂ below o ∧ ∃ v L, o = .returned v ∧ Q v s₂.heap L ∧ FrameEnd s o s₂ L cl sl
theorem own_st {U V : State} (h : ∀ t, Steps p.tables e below V t → Steps p.tables e below U t) (k : Fin1 p e below s Q cl sl V) : Fin1 p e below s Q cl sl U := by
  obtain ⟨s₂, o, h1, r⟩ := k
  exact ⟨s₂, o, h _ h1, r⟩
/-- a contract -/
def Ct (l : Launch) (Z : State) (ws : List Jvm.Cond) (y : MethodName) (bytes : ByteArray) (maxL : Nat) (ret : Option FieldType) (rm : Room) (as' : Array Value) (h : Heap) (Q : Option Value → Heap → List Loc → Prop) : Prop :=
  MetFree l y (head1 (Jvm.Cond.code y bytes maxL ret :: ws) rm) (fun a U => a = as' ∧ Z.Warmed39 U.vm ∧ U.heap = h) (fun _ _ _ _ _ => True) (fun _ U o U' => ∃ v L, o = .returned v ∧ Q v U'.heap L ∧ FrameEnd U o U' L rm.cells rm.slots)
theorem own_enter {ws : List Jvm.Cond} {y : MethodName} {bytes : ByteArray} {maxL : Nat} {ret : Option FieldType} {rm : Room} {as' : Array Value} (hp : plainFor y = true)
    (body : ∀ (p : Program) (e : Env) (s : State) (m : MethodId) (below : List Frame) (meth : Method) (c : Code) (T : State), Stand p l e rm s m as' below meth c T [] 0 0 → p.tables.exec = Jvm.exec → c.code = bytes → c.maxLocals = maxL → Z.Warmed39 s.vm → s.vm.findClass y.cls = some m.cls → meth.name = y.name →
      meth.sig.returnType = ret → meth.locks = false → T.heap = h → Fin1 p e below s Q rm.cells rm.slots (T.setTop (entryFrame m as' maxL))) : Ct l Z ws y bytes maxL ret rm as' h Q := by
  refine MetFree.of_bodySF hp hisR ?_
  intro p e s m args below meth c s₁ Bd hml hP _
  obtain ⟨rfl, hZ, hh⟩ := hP
  exact body p e s m below meth c s₁ (Stand.of_body Bd) Bd.exec Bd.bytes hml hZ (findClass_of_methodNamed Bd.named) (name_of_methodNamed Bd.named Bd.method).1 Bd.returns (BodyLoose.notSynchronized Bd) (by rw [← hh, Bd.state]; rfl)
/-- a stronger promise pays a weaker one -/
theorem Ct.mono {ws : List Jvm.Cond} {y : MethodName} {bytes : ByteArray} {maxL : Nat} {ret : Option FieldType} {rm : Room} {as' : Array Value} {Q' : Option Value → Heap → List Loc → Prop} (hC : Ct l Z ws y bytes maxL ret rm as' h Q) (hQ : ∀ v h' L, Q v h' L → Q' v h' L) : Ct l Z ws y bytes maxL ret rm as' h Q' := by
  intro p e ha hc hk s m args below hf happ hP hK
  obtain ⟨n, o, h1, h2, h3, v, L, h4, h5, h6⟩ := hC p e ha hc hk s m args below hf happ hP hK
  exact ⟨n, o, h1, h2, h3, v, L, h4, hQ _ _ _ h5, h6⟩
theorem own_leave (X : Stand p l e R s m args below meth c T locs cells slots) (hlk : meth.locks = false) {v : Option Value} (hv : meth.sig.returnType = none → v = none) {U : State}
    (hst : ∀ fs, (∀ (f : JFrame) (acts : List Action), f.method = m → f.locked = none → f.entered = [] → (doReturn e (T.setTop f) acts v).1 = T.setFrames fs) → Steps p.tables e below U (T.setFrames fs))
    (hQ : Q v T.heap locs) (hc : cells ≤ cl) (hs : slots ≤ sl) : Fin1 p e below s Q cl sl U := by
  obtain ⟨fs, hr, hrun, hended, hW, hsame⟩ := X.leave (v := v) hv hlk
  exact ⟨_, _, hst fs hr, hrun, hended, v, locs, rfl, hQ, ⟨_, rfl⟩, hW, hsame.mono hc hs⟩
theorem own_retV (X : Stand p l e R s m args below meth c T locs cells slots) (hx : p.tables.exec = Jvm.exec) (hlk : meth.locks = false) {pc : Nat} {Ls : Array Slot} (hret : meth.sig.returnType = none) (hd : decode c.code pc = .ok (.return_, 1))
    (hQ : Q none T.heap locs) (hc : cells ≤ cl) (hs : slots ≤ sl) : Fin1 p e below s Q cl sl (T.setTop (mkF m pc Ls [])) :=
  own_leave X hlk (fun _ => rfl) (fun fs hr => X.returnOut hx hret hd hr) hQ hc hs
theorem own_retI (X : Stand p l e R s m args below meth c T locs cells slots) (hx : p.tables.exec = Jvm.exec) (hlk : meth.locks = false) {pc : Nat} {Ls : Array Slot} {z : Int32} {rest : List Value} (hret : meth.sig.returnType = some .int) (hd : decode c.code pc = .ok (.ireturn, 1))
    (hQ : Q (some (.int z)) T.heap locs) (hc : cells ≤ cl) (hs : slots ≤ sl) : Fin1 p e below s Q cl sl (T.setTop (mkF m pc Ls (.int z :: rest))) :=
  own_leave X hlk (fun h => by rw [hret] at h; cases h) (fun fs hr => retOut X hx hret rfl (Or.inl ⟨rfl, Or.inl rfl, _, rfl⟩) hd hr) hQ hc hs
theorem own_retZ (X : Stand p l e R s m args below meth c T locs cells slots) (hx : p.tables.exec = Jvm.exec) (hlk : meth.locks = false) {pc : Nat} {Ls : Array Slot} {rest : List Value} (hret : meth.sig.returnType = some .boolean) (hd : decode c.code pc = .ok (.ireturn, 1)) {z : Int32} (hz : z = 0 ∨ z = 1)
    (hQ : Q (some (.int z)) T.heap locs) (hc : cells ≤ cl) (hs : slots ≤ sl) : Fin1 p e below s Q cl sl (T.setTop (mkF m pc Ls (.int z :: rest))) :=
  own_leave X hlk (fun h => by rw [hret] at h; cases h) (fun fs hr => retOut X hx hret (by rcases hz with rfl | rfl <;> rfl) (Or.inl ⟨rfl, Or.inr (Or.inl rfl), _, rfl⟩) hd hr) hQ hc hs
theorem own_retJ (X : Stand p l e R s m args below meth c T locs cells slots) (hx : p.tables.exec = Jvm.exec) (hlk : meth.locks = false) {pc : Nat} {Ls : Array Slot} {z : Int64} {rest : List Value} (hret : meth.sig.returnType = some .long) (hd : decode c.code pc = .ok (.lreturn, 1))
    (hQ : Q (some (.long z)) T.heap locs) (hc : cells ≤ cl) (hs : slots ≤ sl) : Fin1 p e below s Q cl sl (T.setTop (mkF m pc Ls (.long z :: rest))) :=
  own_leave X hlk (fun h => by rw [hret] at h; cases h) (fun fs hr => retOut X hx hret rfl (Or.inr (Or.inl ⟨rfl, rfl, _, rfl⟩)) hd hr) hQ hc hs
theorem own_retA (X : Stand p l e R s m args below meth c T locs cells slots) (hx : p.tables.exec = Jvm.exec) (hlk : meth.locks = false) {pc : Nat} {Ls : Array Slot} {z : Value} {rest : List Value} {t : FieldType} (hret : meth.sig.returnType = some t) (ht : t.isReference = true) (hz : z.isRef = true) (hd : decode c.code pc = .ok (.areturn, 1))
    (hQ : Q (some z) T.heap locs) (hc : cells ≤ cl) (hs : slots ≤ sl) : Fin1 p e below s Q cl sl (T.setTop (mkF m pc Ls (z :: rest))) :=
  own_leave X hlk (fun h => by rw [hret] at h; cases h) (fun fs hr => retOut X hx hret (by cases t <;> first | (cases ht; done) | (cases z <;> first | (cases hz; done) | rfl)) (Or.inr (Or.inr (Or.inr (Or.inr ⟨rfl, ht, hz⟩)))) hd hr) hQ hc hs
variable {own : String} {index : Nat} {y z : MethodName} {bytes : ByteArray} {maxL : Nat} {ret : Option FieldType} {rm : Room} {argsL rest : List Value} {a : Addr}
theorem own_static (X : Stand p l e R s m args below meth c T locs cells slots) (hx : p.tables.exec = Jvm.exec) (hZ : Z.Warmed39 s.vm) (hown : s.vm.findClass own = some m.cls) (w1 : (Jvm.Cond.methodLink own index y).before a0 Z = true) (w2 : (Jvm.Cond.static y).before a0 Z = true) (w3 : (Jvm.Cond.initialized y.cls).before a0 Z = true)
    (w4 : (Jvm.Cond.code y bytes maxL ret).before a0 Z = true) (hy : y.cls ≠ "java/lang/invoke/MethodHandle" ∧ y.cls ≠ "java/lang/invoke/VarHandle") (hC : Ct l Z [] y bytes maxL ret rm argsL.toArray h Q) (eT : T.heap = h) {g : JFrame} (hg : g.method = m) (hsize : g.locals.size = c.maxLocals)
    (hlen : ∀ sig, parseMethodDescriptor y.desc = some sig → argsL.length = sig.parameters.length) (hs : g.stack = argsL.reverse ++ rest) {W : Nat} (hW : 2 * g.monitorRoom + (rest.map fun v => v.category).sum ≤ W) (hd : decode c.code g.pc = .ok (.invokestatic index, 3))
    (hf : rm.frames + 1 ≤ R.frames) (hl : W + (maxL + 11) + rm.locals ≤ R.locals) (hc : cells + rm.cells ≤ R.cells) (hsl : slots + rm.slots ≤ R.slots) :
    ∃ v T' h' L, Stand p l e R s m args below meth c T' (locs ++ L) (cells + rm.cells) (slots + rm.slots) ∧ T'.heap = h' ∧ Q v h' L ∧ ∀ t, Steps p.tables e below (T'.setTop { g with pc := g.pc + 3, stack := v.toList ++ rest }) t → Steps p.tables e below (T.setTop g) t := by
  obtain ⟨v, _, ⟨T', L', k', n'⟩, -, X', ⟨Lc, hQ, l1, y1, z1⟩, st⟩ := Jvm.LawKit.callS X hx (y := y) hown (mvT hZ w1) (mvT hZ w2) (mvT hZ w3) (mvT hZ w4) hy (backOf (W := W) hC hZ w4 w3 hf hl) hg hsize hlen hs hW hd (fun _ _ => ⟨rfl, eT, hc, hsl⟩)
  dsimp only [Pt.U, Pt.locs, Pt.cells, Pt.slots] at X' l1 y1 z1 st hQ
  subst l1 y1 z1
  exact ⟨v, T', _, Lc, X', rfl, hQ, st⟩
theorem own_special (X : Stand p l e R s m args below meth c T locs cells slots) (hx : p.tables.exec = Jvm.exec) (hZ : Z.Warmed39 s.vm) (hown : s.vm.findClass own = some m.cls) (hy1 : y.name = "<init>") (w1 : (Jvm.Cond.methodLink own index y).before a0 Z = true) (w2 : (Jvm.Cond.instanceMethod y).before a0 Z = true)
    (w4 : (Jvm.Cond.code y bytes maxL none).before a0 Z = true) (w3 : (Jvm.Cond.initialized y.cls).before a0 Z = true) (hy : y.cls ≠ "java/lang/invoke/MethodHandle" ∧ y.cls ≠ "java/lang/invoke/VarHandle") (hC : Ct l Z [] y bytes maxL none rm (.ref a :: argsL).toArray h Q) (eT : T.heap = h) {g : JFrame} (hg : g.method = m) (hsize : g.locals.size = c.maxLocals)
    (hlen : ∀ sig, parseMethodDescriptor y.desc = some sig → argsL.length = sig.parameters.length) (hs : g.stack = argsL.reverse ++ .ref a :: rest) {W : Nat} (hW : 2 * g.monitorRoom + (rest.map fun v => v.category).sum ≤ W) (hd : decode c.code g.pc = .ok (.invokespecial index, 3))
    (hf : rm.frames + 1 ≤ R.frames) (hl : W + (maxL + 11) + rm.locals ≤ R.locals) (hc : cells + rm.cells ≤ R.cells) (hsl : slots + rm.slots ≤ R.slots) :
    ∃ v T' h' L, Stand p l e R s m args below meth c T' (locs ++ L) (cells + rm.cells) (slots + rm.slots) ∧ T'.heap = h' ∧ Q v h' L ∧ ∀ t, Steps p.tables e below (T'.setTop { g with pc := g.pc + 3, stack := v.toList ++ rest }) t → Steps p.tables e below (T.setTop g) t := by
  obtain ⟨v, _, ⟨T', L', k', n'⟩, -, X', ⟨Lc, hQ, l1, y1, z1⟩, st⟩ := X.specialBack hx (y := y) hy1 hown (mvT hZ w1) (mvT hZ w2) (mvT hZ w4) hy (backOf (W := W) hC hZ w4 w3 hf hl) hg hsize (Steps.refl _) (a := a) hlen hs hW hd (fun _ _ => ⟨rfl, eT, hc, hsl⟩)
  dsimp only [Pt.U, Pt.locs, Pt.cells, Pt.slots] at X' l1 y1 z1 st hQ
  subst l1 y1 z1
  exact ⟨v, T', _, Lc, X', rfl, hQ, fun t k => st.trans k⟩
theorem own_virtual {C : String} (X : Stand p l e R s m args below meth c T locs cells slots) (hx : p.tables.exec = Jvm.exec) (hZ : Z.Warmed39 s.vm) (hown : s.vm.findClass own = some m.cls) (w1 : (Jvm.Cond.methodLink own index y).before a0 Z = true) (w2 : (Jvm.Cond.declares y).before a0 Z = true) (w5 : (Jvm.Cond.selects C y y).before a0 Z = true)
    (w6 : (Jvm.Cond.instanceMethod y).before a0 Z = true) (w4 : (Jvm.Cond.code y bytes maxL ret).before a0 Z = true) (w3 : (Jvm.Cond.initialized y.cls).before a0 Z = true) (hy : y.cls ≠ "java/lang/invoke/MethodHandle" ∧ y.cls ≠ "java/lang/invoke/VarHandle") (E : Exa Z h a C) (hC : Ct l Z [] y bytes maxL ret rm (.ref a :: argsL).toArray h Q) (eT : T.heap = h) {g : JFrame} (hg : g.method = m) (hsize : g.locals.size = c.maxLocals)
    (hlen : ∀ sig, parseMethodDescriptor y.desc = some sig → argsL.length = sig.parameters.length) (hs : g.stack = argsL.reverse ++ .ref a :: rest) {W : Nat} (hW : 2 * g.monitorRoom + (rest.map fun v => v.category).sum ≤ W) (hd : decode c.code g.pc = .ok (.invokevirtual index, 3))
    (hf : rm.frames + 1 ≤ R.frames) (hl : W + (maxL + 11) + rm.locals ≤ R.locals) (hc : cells + rm.cells ≤ R.cells) (hsl : slots + rm.slots ≤ R.slots) :
    ∃ v T' h' L, Stand p l e R s m args below meth c T' (locs ++ L) (cells + rm.cells) (slots + rm.slots) ∧ T'.heap = h' ∧ Q v h' L ∧ ∀ t, Steps p.tables e below (T'.setTop { g with pc := g.pc + 3, stack := v.toList ++ rest }) t → Steps p.tables e below (T.setTop g) t := by
  obtain ⟨cq, kq, qa, qb, qc⟩ := isOf hZ eT E
  obtain ⟨v, _, ⟨T', L', k', n'⟩, -, X', ⟨Lc, hQ, l1, y1, z1⟩, st⟩ := X.virtualBack hx (y := y) (z := y) hown (mvT hZ w1) (mvT hZ w2) (notFace_of_selects (args := #[]) (mvT hZ w5)) (mvT hZ w5) (mvT hZ w6) hy (backOf (W := W) hC hZ w4 w3 hf hl) qa qc hg hsize (Steps.refl _) hlen hs hW hd (fun _ _ => ⟨rfl, eT, hc, hsl⟩)
  dsimp only [Pt.U, Pt.locs, Pt.cells, Pt.slots] at X' l1 y1 z1 st hQ
  subst l1 y1 z1
  exact ⟨v, T', _, Lc, X', rfl, hQ, fun t k => st.trans k⟩
theorem own_private {nn : Nat} (X : Stand p l e R s m args below meth c T locs cells slots) (hx : p.tables.exec = Jvm.exec) (hZ : Z.Warmed39 s.vm) (hown : s.vm.findClass own = some m.cls) (w1 : (Jvm.Cond.methodLink own index y).before a0 Z = true) (w2 : (Jvm.Cond.instanceMethod y).before a0 Z = true) (wi : (Jvm.Cond.instantiable y.cls nn).before a0 Z = true)
    (wp : (Jvm.Cond.privateMethod y).before a0 Z = true) (w4 : (Jvm.Cond.code y bytes maxL ret).before a0 Z = true) (w3 : (Jvm.Cond.initialized y.cls).before a0 Z = true) (hy : y.cls ≠ "java/lang/invoke/MethodHandle" ∧ y.cls ≠ "java/lang/invoke/VarHandle") (E : Exa Z h a y.cls) (hC : Ct l Z [] y bytes maxL ret rm (.ref a :: argsL).toArray h Q) (eT : T.heap = h) {g : JFrame} (hg : g.method = m) (hsize : g.locals.size = c.maxLocals)
    (hlen : ∀ sig, parseMethodDescriptor y.desc = some sig → argsL.length = sig.parameters.length) (hs : g.stack = argsL.reverse ++ .ref a :: rest) {W : Nat} (hW : 2 * g.monitorRoom + (rest.map fun v => v.category).sum ≤ W) (hd : decode c.code g.pc = .ok (.invokevirtual index, 3))
    (hf : rm.frames + 1 ≤ R.frames) (hl : W + (maxL + 11) + rm.locals ≤ R.locals) (hc : cells + rm.cells ≤ R.cells) (hsl : slots + rm.slots ≤ R.slots) :
    ∃ v T' h' L, Stand p l e R s m args below meth c T' (locs ++ L) (cells + rm.cells) (slots + rm.slots) ∧ T'.heap = h' ∧ Q v h' L ∧ ∀ t, Steps p.tables e below (T'.setTop { g with pc := g.pc + 3, stack := v.toList ++ rest }) t → Steps p.tables e below (T.setTop g) t := by
  obtain ⟨cell, hcell, hobj⟩ := E.cell
  have hsel : (Jvm.Cond.selects y.cls y y).before args s = true := by
    obtain ⟨c', k', i1, i2, -, i4, -⟩ := Cond.instantiable_spec (mvT hZ wi : (Jvm.Cond.instantiable y.cls nn).before args s = true)
    exact selects_self_of_private i1 i2 (Bool.or_eq_false_iff.mp i4).1 (Cond.privateMethod_at (mvP hZ wp (args := args))) (mvT hZ w2) hy
  obtain ⟨v, _, ⟨T', L', k', n'⟩, -, X', ⟨Lc, hQ, l1, y1, z1⟩, st⟩ := X.privateBack hx (y := y) hown (mvT hZ w1) (mvT hZ w2) hsel (Cond.privateMethod_at (mvP hZ wp (args := #[]))) (mvT hZ w4) hy (backOf (W := W) hC hZ w4 w3 hf hl) hg hsize (Steps.refl _) (a := a) (by rw [eT]; exact hcell) hobj hlen hs hW hd (fun _ _ => ⟨rfl, eT, hc, hsl⟩)
  dsimp only [Pt.U, Pt.locs, Pt.cells, Pt.slots] at X' l1 y1 z1 st hQ
  subst l1 y1 z1
  exact ⟨v, T', _, Lc, X', rfl, hQ, fun t k => st.trans k⟩
theorem own_virtualUp {C owner : String} (X : Stand p l e R s m args below meth c T locs cells slots) (hx : p.tables.exec = Jvm.exec) (hZ : Z.Warmed39 s.vm) (hown : s.vm.findClass own = some m.cls) (w1 : (Jvm.Cond.methodLink own index y).before a0 Z = true) (ws : (Jvm.Cond.sameMethod y.cls owner y.name y.desc).before a0 Z = true) (w2 : (Jvm.Cond.declares ⟨owner, y.name, y.desc⟩).before a0 Z = true) (w5 : (Jvm.Cond.selects C y z).before a0 Z = true)
    (w6 : (Jvm.Cond.instanceMethod z).before a0 Z = true) (w4 : (Jvm.Cond.code z bytes maxL ret).before a0 Z = true) (w3 : (Jvm.Cond.initialized z.cls).before a0 Z = true) (ho : owner ≠ "java/lang/invoke/MethodHandle" ∧ owner ≠ "java/lang/invoke/VarHandle") (E : Exa Z h a C) (hC : Ct l Z [] z bytes maxL ret rm (.ref a :: argsL).toArray h Q) (eT : T.heap = h) {g : JFrame} (hg : g.method = m) (hsize : g.locals.size = c.maxLocals)
    (hlen : ∀ sig, parseMethodDescriptor y.desc = some sig → argsL.length = sig.parameters.length) (hs : g.stack = argsL.reverse ++ .ref a :: rest) {W : Nat} (hW : 2 * g.monitorRoom + (rest.map fun v => v.category).sum ≤ W) (hd : decode c.code g.pc = .ok (.invokevirtual index, 3))
    (hf : rm.frames + 1 ≤ R.frames) (hl : W + (maxL + 11) + rm.locals ≤ R.locals) (hc : cells + rm.cells ≤ R.cells) (hsl : slots + rm.slots ≤ R.slots) :
    ∃ v T' h' L, Stand p l e R s m args below meth c T' (locs ++ L) (cells + rm.cells) (slots + rm.slots) ∧ T'.heap = h' ∧ Q v h' L ∧ ∀ t, Steps p.tables e below (T'.setTop { g with pc := g.pc + 3, stack := v.toList ++ rest }) t → Steps p.tables e below (T.setTop g) t := by
  obtain ⟨cq, kq, qa, qb, qc⟩ := isOf hZ eT E
  obtain ⟨v, _, ⟨T', L', k', n'⟩, -, X', ⟨Lc, hQ, l1, y1, z1⟩, st⟩ := X.virtualBackUp hx (x := y) (y := z) (owner := owner) hown (mvT hZ w1) (mvT hZ ws) (mvT hZ w2) ho (mvT hZ w5) (mvT hZ w6) (backOf (W := W) hC hZ w4 w3 hf hl) qa qc hg hsize (Steps.refl _) hlen hs hW hd (fun _ _ => ⟨rfl, eT, hc, hsl⟩)
  dsimp only [Pt.U, Pt.locs, Pt.cells, Pt.slots] at X' l1 y1 z1 st hQ
  subst l1 y1 z1
  exact ⟨v, T', _, Lc, X', rfl, hQ, fun t k => st.trans k⟩
theorem own_ref {x : Value} (hq : x = .null ∨ ∃ b, x = .ref b) : x.isRef = true := by rcases hq with rfl | ⟨_, rfl⟩ <;> rfl
theorem own_cat {x : Value} (hq : x = .null ∨ ∃ b, x = .ref b) : x.category = 1 := by rcases hq with rfl | ⟨_, rfl⟩ <;> rfl
theorem own_nar {x : Value} {t : FieldType} (hq : x = .null ∨ ∃ b, x = .ref b) (ht : t.isReference = true) : narrow t x = x := by rcases hq with rfl | ⟨_, rfl⟩ <;> cases t <;> first | rfl | (cases ht; done)
theorem own_fit {x : Value} {t : FieldType} (hq : x = .null ∨ ∃ b, x = .ref b) (ht : t.isReference = true) : fits t x = true := by rcases hq with rfl | ⟨_, rfl⟩ <;> cases t <;> first | rfl | (cases ht; done)
variable {k : ClassId} {ty : FieldType} {n j : Int32} {vs : List Value} {dv v : Value}
theorem own_ld (X : Stand p l e R s m args below meth c T locs cells slots) (hx : p.tables.exec = Jvm.exec) (hZ : Z.Warmed39 s.vm) (eT : T.heap = h) (F : Arv Z h a k ty n vs dv) (hj : ¬ j < 0 ∧ j < n) (hv : vs.getD j.toNatClampNeg dv = v) {g : JFrame} (hg : g.method = m) (hs : g.stack = .int j :: .ref a :: rest) {i : Instr}
    (hi : (i = .iaload ∧ ty = .int) ∨ (i = .laload ∧ ty = .long) ∨ (i = .aaload ∧ ty.isReference = true)) (hd : decode c.code g.pc = .ok (i, 1)) : ∀ t, Steps p.tables e below (T.setTop { g with pc := g.pc + 1, stack := v :: rest }) t → Steps p.tables e below (T.setTop g) t := by
  obtain ⟨cl, A, -, S, -, H, -⟩ := F
  have hin := inb_of S hj
  have hat := H.at hin hv
  rcases hi with ⟨rfl, rfl⟩ | ⟨rfl, rfl⟩ | ⟨rfl, ht⟩
  · exact X.iaload hx (j := j) (v := v) (by rw [eT]; exact A.1) (State.isArrayOf_alike hZ.alike A.2.1) A.2.2 hin hat hg hs hd
  · exact X.laload hx (j := j) (v := v) (by rw [eT]; exact A.1) (State.isArrayOf_alike hZ.alike A.2.1) A.2.2 hin hat hg hs hd
  · exact X.aaload hx (j := j) (v := v) (by rw [eT]; exact A.1) (State.isArrayOf_alike hZ.alike A.2.1) ht A.2.2 hin hat hg hs hd
theorem own_len (X : Stand p l e R s m args below meth c T locs cells slots) (hx : p.tables.exec = Jvm.exec) (hZ : Z.Warmed39 s.vm) (eT : T.heap = h) (F : Arv Z h a k ty n vs dv) {g : JFrame} (hg : g.method = m) (hs : g.stack = .ref a :: rest) (hd : decode c.code g.pc = .ok (.arraylength, 1)) :
    ∀ t, Steps p.tables e below (T.setTop { g with pc := g.pc + 1, stack := .int n :: rest }) t → Steps p.tables e below (T.setTop g) t := by
  obtain ⟨cl, A, -, S, q, -, -⟩ := F
  intro t kt
  refine X.arraylength hx (by rw [eT]; exact A.1) (State.isArrayOf_alike hZ.alike A.2.1) hg hs hd t ?_
  rw [len_of S q]
  exact kt
theorem own_lenA {cc : Cell} (X : Stand p l e R s m args below meth c T locs cells slots) (hx : p.tables.exec = Jvm.exec) (hZ : Z.Warmed39 s.vm) (eT : T.heap = h) (A : Arr Z h a cc ty) (hn : cc.slots.size.toInt32 = n) {g : JFrame} (hg : g.method = m) (hs : g.stack = .ref a :: rest) (hd : decode c.code g.pc = .ok (.arraylength, 1)) :
    ∀ t, Steps p.tables e below (T.setTop { g with pc := g.pc + 1, stack := .int n :: rest }) t → Steps p.tables e below (T.setTop g) t := by
  intro t kt
  refine X.arraylength hx (by rw [eT]; exact A.1) (State.isArrayOf_alike hZ.alike A.2.1) hg hs hd t ?_
  rw [hn]
  exact kt
theorem own_stI (X : Stand p l e R s m args below meth c T locs cells slots) (hx : p.tables.exec = Jvm.exec) (hZ : Z.Warmed39 s.vm) (eT : T.heap = h) (F : Arv Z h a k .int n vs dv) (hj : ¬ j < 0 ∧ j < n) (i : Nat) (hi : j.toNatClampNeg = i) (hl : i < vs.length) {x : Int32} {g : JFrame} (hg : g.method = m) (hs : g.stack = .int x :: .int j :: .ref a :: rest) (hd : decode c.code g.pc = .ok (.iastore, 1)) :
    ∃ T' h', Stand p l e R s m args below meth c T' (locs ++ [⟨a, j.toNatClampNeg⟩]) cells slots ∧ T'.heap = h' ∧ Wr h h' a j.toNatClampNeg (.int x) ∧ Arv Z h' a k .int n (vs.set i (.int x)) dv ∧ ∀ t, Steps p.tables e below (T'.setTop { g with pc := g.pc + 1, stack := rest }) t → Steps p.tables e below (T.setTop g) t := by
  obtain ⟨cl, A, q1, S, q3, H, G⟩ := F
  obtain ⟨T', h', X', e', W, st⟩ := stI X hx hZ eT A (inb_of S hj) hg hs hd
  exact ⟨T', h', X', e', W, Arv.set A q1 S q3 H G rfl W i hi hl, st⟩
theorem own_stJ (X : Stand p l e R s m args below meth c T locs cells slots) (hx : p.tables.exec = Jvm.exec) (hZ : Z.Warmed39 s.vm) (eT : T.heap = h) (F : Arv Z h a k .long n vs dv) (hj : ¬ j < 0 ∧ j < n) (i : Nat) (hi : j.toNatClampNeg = i) (hl : i < vs.length) {x : Int64} {g : JFrame} (hg : g.method = m) (hs : g.stack = .long x :: .int j :: .ref a :: rest) (hd : decode c.code g.pc = .ok (.lastore, 1)) :
    ∃ T' h', Stand p l e R s m args below meth c T' (locs ++ [⟨a, j.toNatClampNeg⟩]) cells slots ∧ T'.heap = h' ∧ Wr h h' a j.toNatClampNeg (.long x) ∧ Arv Z h' a k .long n (vs.set i (.long x)) dv ∧ ∀ t, Steps p.tables e below (T'.setTop { g with pc := g.pc + 1, stack := rest }) t → Steps p.tables e below (T.setTop g) t := by
  obtain ⟨cl, A, q1, S, q3, H, G⟩ := F
  obtain ⟨T', h', X', e', W, st⟩ := stJ X hx hZ eT A (inb_of S hj) hg hs hd
  exact ⟨T', h', X', e', W, Arv.set A q1 S q3 H G rfl W i hi hl, st⟩
theorem own_stR {C : String} {y : Value} (X : Stand p l e R s m args below meth c T locs cells slots) (hx : p.tables.exec = Jvm.exec) (hZ : Z.Warmed39 s.vm) (eT : T.heap = h) (F : Arv Z h a k ty n vs dv) (ht : ty.isReference = true) (hf : fits ty y = true) (O : y = .null ∨ ∃ b, y = .ref b ∧ Ovr Z k C ∧ Ins Z h b C true) (hj : ¬ j < 0 ∧ j < n) (i : Nat) (hi : j.toNatClampNeg = i) (hl : i < vs.length) {g : JFrame} (hg : g.method = m) (hs : g.stack = y :: .int j :: .ref a :: rest) (hd : decode c.code g.pc = .ok (.aastore, 1)) :
    ∃ T' h', Stand p l e R s m args below meth c T' (locs ++ [⟨a, j.toNatClampNeg⟩]) cells slots ∧ T'.heap = h' ∧ Wr h h' a j.toNatClampNeg y ∧ Arv Z h' a k ty n (vs.set i y) dv ∧ ∀ t, Steps p.tables e below (T'.setTop { g with pc := g.pc + 1, stack := rest }) t → Steps p.tables e below (T.setTop g) t := by
  obtain ⟨cl, A, q1, S, q3, H, G⟩ := F
  obtain ⟨T', h', X', e', W, st⟩ := stR X hx hZ eT A (inb_of S hj) ht (by rcases O with rfl | ⟨b, rfl, O, I⟩; exact Or.inl rfl; exact Sto.ofV A q1 O I) hg hs hd
  exact ⟨T', h', X', e', W, Arv.set A q1 S q3 H G hf W i hi hl, st⟩
end OwnKit
theorem own_three (x : Int32) : ((x &&& (2147483647 : Int32)) % (3 : Int32)) = 0 ∨ ((x &&& (2147483647 : Int32)) % (3 : Int32)) = 1 ∨ ((x &&& (2147483647 : Int32)) % (3 : Int32)) = 2 := by
  have q := (c_and x (2147483647 : Int32) (by decide)).1
  have r := (c_irem (x &&& (2147483647 : Int32)) (3 : Int32) 3 rfl).1 q
  generalize (x &&& (2147483647 : Int32)) % (3 : Int32) = y at r ⊢
  have q : y.toInt = 0 ∨ y.toInt = 1 ∨ y.toInt = 2 := by omega
  rcases q with q | q | q
  · exact Or.inl (Int32.toInt_inj.mp q)
  · exact Or.inr (Or.inl (Int32.toInt_inj.mp q))
  · exact Or.inr (Or.inr (Int32.toInt_inj.mp q))
theorem d1_0 : decode prog_2_method_1_code 0 = .ok (.aload_n 0, 1) := by decide +kernel
theorem d1_1 : decode prog_2_method_1_code 1 = .ok (.invokespecial 1, 3) := by decide +kernel
theorem d1_4 : decode prog_2_method_1_code 4 = .ok (.aload_n 0, 1) := by decide +kernel
theorem d1_5 : decode prog_2_method_1_code 5 = .ok (.bipush 8, 2) := by decide +kernel
theorem d1_7 : decode prog_2_method_1_code 7 = .ok (.newarray .int, 2) := by decide +kernel
theorem d1_9 : decode prog_2_method_1_code 9 = .ok (.putfield 7, 3) := by decide +kernel
theorem d1_12 : decode prog_2_method_1_code 12 = .ok (.return_, 1) := by decide +kernel
theorem pn_0 : plainName "com/example/tfre/tfre/history/Codes" = true := by first | (simp [plainName, overriddenIn]; done) | decide +kernel
def rmCQ (Z : State) (a1 : Addr) (h0 : Heap) (n0 : Nat) (v : Option Value) (h : Heap) (L : List Loc) : Prop := v = none ∧ Fr n0 L ∧ ∃ (t : Addr) (kt : ClassId), h0.size ≤ t ∧ Keep h0 h [a1] ∧ Fld Z h a1 "com/example/tfre/tfre/history/Codes" "givenBack" "[I" (.ref t) ∧ Fld Z h a1 "com/example/tfre/tfre/history/Codes" "givenBackCount" "I" (.int (0 : Int32)) ∧ Fld Z h a1 "com/example/tfre/tfre/history/Codes" "limit" "I" (.int (0 : Int32)) ∧ Arv Z h t kt .int (8 : Int32) [(.int (0 : Int32)), (.int (0 : Int32)), (.int (0 : Int32)), (.int (0 : Int32)), (.int (0 : Int32)), (.int (0 : Int32)), (.int (0 : Int32)), (.int (0 : Int32))] (.int (0 : Int32))
set_option maxRecDepth 65536 in
set_option maxHeartbeats 40000000 in
theorem rmC (l : Launch) (Z : State) (a0 : Array Value) (hw : ∀ d ∈ tables_1, d.before a0 Z = true) (a1 : Addr) (h0 : Heap) (n0 : Nat) (Z0 : n0 ≤ h0.size) (g_a1 : n0 ≤ a1) (E_a1 : Exa Z h0 a1 "com/example/tfre/tfre/history/Codes") (Fg : Fld Z h0 a1 "com/example/tfre/tfre/history/Codes" "givenBack" "[I" .null) (Fc : Fld Z h0 a1 "com/example/tfre/tfre/history/Codes" "givenBackCount" "I" (.int (0 : Int32))) (Fl : Fld Z h0 a1 "com/example/tfre/tfre/history/Codes" "limit" "I" (.int (0 : Int32))) :
    Ct l Z [] (⟨"com/example/tfre/tfre/history/Codes", "<init>", "()V"⟩ : MethodName) prog_2_method_1_code 1 none ({ frames := 1, cells := 1, slots := 8, locals := 12 } : Room) #[(.ref a1)] h0 (rmCQ Z a1 h0 n0) := by
  refine own_enter (plainFor_of_name pn_0) ?_
  intro p e s m below meth c T0 X0 hx hby hml hZ hown hnm hret hlk e0
  have hown : s.vm.findClass "com/example/tfre/tfre/history/Codes" = some m.cls := hown
  have N0 := Fr.nil n0
  have K0 := Keep.refl h0 [a1]
  refine own_st (fun wt wk => castTop (g' := mkF m 0 #[.val (.ref a1)] []) (by first | (simp [entryFrame, mkF, argsToLocals, Value.category]; done) | rfl) wk) ?_
  show Fin1 p e below s (rmCQ Z a1 h0 n0) ({ frames := 1, cells := 1, slots := 8, locals := 12 } : Room).cells ({ frames := 1, cells := 1, slots := 8, locals := 12 } : Room).slots (T0.setTop (mkF m 0 #[.val (.ref a1)] []))
  refine own_st (fun wt wk => XS.aloadN X0.here hx rfl (hb hby d1_0) rfl rfl wk) ?_
  show Fin1 p e below s (rmCQ Z a1 h0 n0) ({ frames := 1, cells := 1, slots := 8, locals := 12 } : Room).cells ({ frames := 1, cells := 1, slots := 8, locals := 12 } : Room).slots (T0.setTop (mkF m 1 #[.val (.ref a1)] [(.ref a1)]))
  obtain ⟨T1, X1, e1, st1⟩ := initO X0 hx hZ hown (hw _ (List.mem_of_getElem? (i := 7) rfl)) (hw _ (List.mem_of_getElem? (i := 8) rfl)) (hw _ (List.mem_of_getElem? (i := 9) rfl)) e0 (g := (mkF m 1 #[.val (.ref a1)] [(.ref a1)])) rfl (by rw [hml]; rfl) rfl (hb hby d1_1) (by decide) (W := 0) (by show 2 * 0 + _ ≤ _; exact Nat.le_of_eq rfl) (by decide)
  refine own_st st1 ?_
  show Fin1 p e below s (rmCQ Z a1 h0 n0) ({ frames := 1, cells := 1, slots := 8, locals := 12 } : Room).cells ({ frames := 1, cells := 1, slots := 8, locals := 12 } : Room).slots (T1.setTop (mkF m 4 #[.val (.ref a1)] []))
  refine own_st (fun wt wk => XS.aloadN X1.here hx rfl (hb hby d1_4) rfl rfl wk) ?_
  show Fin1 p e below s (rmCQ Z a1 h0 n0) ({ frames := 1, cells := 1, slots := 8, locals := 12 } : Room).cells ({ frames := 1, cells := 1, slots := 8, locals := 12 } : Room).slots (T1.setTop (mkF m 5 #[.val (.ref a1)] [(.ref a1)]))
  refine own_st (fun wt wk => XS.bipush X1.here hx rfl (hb hby d1_5) wk) ?_
  show Fin1 p e below s (rmCQ Z a1 h0 n0) ({ frames := 1, cells := 1, slots := 8, locals := 12 } : Room).cells ({ frames := 1, cells := 1, slots := 8, locals := 12 } : Room).slots (T1.setTop (mkF m 7 #[.val (.ref a1)] [(.int (8 : Int32)), (.ref a1)]))
  obtain ⟨T2, h2, kc2, X2, e2, E2, A2, st2⟩ := newP X1 hx hZ (hw _ (List.mem_of_getElem? (i := 10) rfl)) e1 (g := (mkF m 7 #[.val (.ref a1)] [(.int (8 : Int32)), (.ref a1)])) rfl (hb hby d1_7) rfl (by decide) (cap := 8) (by decide) (by decide) (by decide) (by decide)
  obtain ⟨b2, gz_b2⟩ : ∃ z, z = h0.size := ⟨_, rfl⟩
  rw [← gz_b2] at A2 st2
  have ne_a1_b2 : a1 ≠ b2 := Nat.ne_of_lt (Nat.lt_of_lt_of_le E_a1.lt (Nat.le_of_eq gz_b2.symm))
  have sz_b2 : h0.size ≤ b2 := Nat.le_trans K0.1 (Nat.le_of_eq gz_b2.symm)
  have g_b2 : n0 ≤ b2 := Nat.le_trans Z0 (Nat.le_of_eq gz_b2.symm)
  have Z0 := Nat.le_trans Z0 E2.1
  have K0 := K0.ext E2
  have E_a1 := E_a1.ext E2
  have Fg := Fg.ext E2
  have Fc := Fc.ext E2
  have Fl := Fl.ext E2
  refine own_st st2 ?_
  have V_b2 : Arv Z h2 b2 kc2 .int (8 : Int32) [(.int (0 : Int32)), (.int (0 : Int32)), (.int (0 : Int32)), (.int (0 : Int32)), (.int (0 : Int32)), (.int (0 : Int32)), (.int (0 : Int32)), (.int (0 : Int32))] (.int (0 : Int32)) := (Arv.new A2 (by decide)).pad (pad_rep [] (.int (0 : Int32)) 8)
  show Fin1 p e below s (rmCQ Z a1 h0 n0) ({ frames := 1, cells := 1, slots := 8, locals := 12 } : Room).cells ({ frames := 1, cells := 1, slots := 8, locals := 12 } : Room).slots (T2.setTop (mkF m 9 #[.val (.ref a1)] [(.ref b2), (.ref a1)]))
  obtain ⟨T3, h3, X3, e3, W3, st3⟩ := putF X2 hx hZ hown (host := "") (Or.inl (hw _ (List.mem_of_getElem? (i := 11) rfl))) Via.refl e2 Fg E_a1 (Or.inl (hw _ (List.mem_of_getElem? (i := 12) rfl))) (hw _ (List.mem_of_getElem? (i := 2) rfl)) (ty := (.array .int)) (by decide) rfl rfl (g := (mkF m 9 #[.val (.ref a1)] [(.ref b2), (.ref a1)])) rfl rfl (hb hby d1_9)
  refine own_st st3 ?_
  have N3 := Fr.snoc X3 N0 g_a1
  have Z0 := Nat.le_trans Z0 (Nat.le_of_eq W3.size.symm)
  have K0 := K0.wr W3 (Or.inl (List.mem_of_getElem? (i := 0) rfl))
  have E_a1 := E_a1.wr W3
  have Fg := Fg.same W3
  have Fc := Fc.other W3 (Or.inr (slot_ne (Or.inl (hw _ (List.mem_of_getElem? (i := 19) rfl))) (Or.inl (hw _ (List.mem_of_getElem? (i := 12) rfl))) (by decide) (t := .int) (t' := (.array .int)) (by decide) (by decide)))
  have Fl := Fl.other W3 (Or.inr (slot_ne (Or.inl (hw _ (List.mem_of_getElem? (i := 21) rfl))) (Or.inl (hw _ (List.mem_of_getElem? (i := 12) rfl))) (by decide) (t := .int) (t' := (.array .int)) (by decide) (by decide)))
  have V_b2 := V_b2.other W3 (Ne.symm ne_a1_b2)
  show Fin1 p e below s (rmCQ Z a1 h0 n0) ({ frames := 1, cells := 1, slots := 8, locals := 12 } : Room).cells ({ frames := 1, cells := 1, slots := 8, locals := 12 } : Room).slots (T3.setTop (mkF m 12 #[.val (.ref a1)] []))
  exact own_retV X3 hx hlk hret (hb hby d1_12) (by rw [e3]; exact ⟨rfl, N3, b2, kc2, sz_b2, K0, Fg, Fc, Fl, V_b2⟩) (by decide) (by decide)
theorem d3_0 : decode prog_2_method_2_code 0 = .ok (.aload_n 0, 1) := by decide +kernel
theorem d3_1 : decode prog_2_method_2_code 1 = .ok (.getfield 13, 3) := by decide +kernel
theorem d3_4 : decode prog_2_method_2_code 4 = .ok (.ifCond .le 26, 3) := by decide +kernel
theorem d3_7 : decode prog_2_method_2_code 7 = .ok (.aload_n 0, 1) := by decide +kernel
theorem d3_8 : decode prog_2_method_2_code 8 = .ok (.dup, 1) := by decide +kernel
theorem d3_9 : decode prog_2_method_2_code 9 = .ok (.getfield 13, 3) := by decide +kernel
theorem d3_12 : decode prog_2_method_2_code 12 = .ok (.iconst 1, 1) := by decide +kernel
theorem d3_13 : decode prog_2_method_2_code 13 = .ok (.isub, 1) := by decide +kernel
theorem d3_14 : decode prog_2_method_2_code 14 = .ok (.putfield 13, 3) := by decide +kernel
theorem d3_17 : decode prog_2_method_2_code 17 = .ok (.aload_n 0, 1) := by decide +kernel
theorem d3_18 : decode prog_2_method_2_code 18 = .ok (.getfield 7, 3) := by decide +kernel
theorem d3_21 : decode prog_2_method_2_code 21 = .ok (.aload_n 0, 1) := by decide +kernel
theorem d3_22 : decode prog_2_method_2_code 22 = .ok (.getfield 13, 3) := by decide +kernel
theorem d3_25 : decode prog_2_method_2_code 25 = .ok (.iaload, 1) := by decide +kernel
theorem d3_26 : decode prog_2_method_2_code 26 = .ok (.istore_n 1, 1) := by decide +kernel
theorem d3_27 : decode prog_2_method_2_code 27 = .ok (.goto 18, 3) := by decide +kernel
theorem d3_30 : decode prog_2_method_2_code 30 = .ok (.aload_n 0, 1) := by decide +kernel
theorem d3_31 : decode prog_2_method_2_code 31 = .ok (.getfield 17, 3) := by decide +kernel
theorem d3_34 : decode prog_2_method_2_code 34 = .ok (.istore_n 1, 1) := by decide +kernel
theorem d3_35 : decode prog_2_method_2_code 35 = .ok (.aload_n 0, 1) := by decide +kernel
theorem d3_36 : decode prog_2_method_2_code 36 = .ok (.dup, 1) := by decide +kernel
theorem d3_37 : decode prog_2_method_2_code 37 = .ok (.getfield 17, 3) := by decide +kernel
theorem d3_40 : decode prog_2_method_2_code 40 = .ok (.iconst 1, 1) := by decide +kernel
theorem d3_41 : decode prog_2_method_2_code 41 = .ok (.iadd, 1) := by decide +kernel
theorem d3_42 : decode prog_2_method_2_code 42 = .ok (.putfield 17, 3) := by decide +kernel
theorem d3_45 : decode prog_2_method_2_code 45 = .ok (.iload_n 1, 1) := by decide +kernel
theorem d3_46 : decode prog_2_method_2_code 46 = .ok (.ireturn, 1) := by decide +kernel
def rmT0Q (Z : State) (a1 : Addr) (l1 : Int32) (l2 : Int32) (t : Addr) (h0 : Heap) (n0 : Nat) (v : Option Value) (h : Heap) (L : List Loc) : Prop := v = some (.int l1) ∧ Fr n0 L ∧ Keep h0 h [a1] ∧ Fld Z h a1 "com/example/tfre/tfre/history/Codes" "givenBack" "[I" (.ref t) ∧ Fld Z h a1 "com/example/tfre/tfre/history/Codes" "givenBackCount" "I" (.int (0 : Int32)) ∧ Fld Z h a1 "com/example/tfre/tfre/history/Codes" "limit" "I" (.int l2)
set_option maxRecDepth 65536 in
set_option maxHeartbeats 40000000 in
theorem rmT0 (l : Launch) (Z : State) (a0 : Array Value) (hw : ∀ d ∈ tables_1, d.before a0 Z = true) (a1 : Addr) (l1 : Int32) (l2 : Int32) (t : Addr) (h0 : Heap) (n0 : Nat) (Z0 : n0 ≤ h0.size) (g_a1 : n0 ≤ a1) (E_a1 : Exa Z h0 a1 "com/example/tfre/tfre/history/Codes") (Fg : Fld Z h0 a1 "com/example/tfre/tfre/history/Codes" "givenBack" "[I" (.ref t)) (Fc : Fld Z h0 a1 "com/example/tfre/tfre/history/Codes" "givenBackCount" "I" (.int (0 : Int32))) (Fl : Fld Z h0 a1 "com/example/tfre/tfre/history/Codes" "limit" "I" (.int l1)) (hl : l1 + (1 : Int32) = l2) :
    Ct l Z [] (⟨"com/example/tfre/tfre/history/Codes", "take", "()I"⟩ : MethodName) prog_2_method_2_code 2 (some .int) ({ frames := 0, cells := 0, slots := 0, locals := 0 } : Room) #[(.ref a1)] h0 (rmT0Q Z a1 l1 l2 t h0 n0) := by
  refine own_enter (plainFor_of_name pn_0) ?_
  intro p e s m below meth c T0 X0 hx hby hml hZ hown hnm hret hlk e0
  have hown : s.vm.findClass "com/example/tfre/tfre/history/Codes" = some m.cls := hown
  have N0 := Fr.nil n0
  have K0 := Keep.refl h0 [a1]
  refine own_st (fun wt wk => castTop (g' := mkF m 0 #[.val (.ref a1), .unset] []) (by first | (simp [entryFrame, mkF, argsToLocals, Value.category]; done) | rfl) wk) ?_
  show Fin1 p e below s (rmT0Q Z a1 l1 l2 t h0 n0) ({ frames := 0, cells := 0, slots := 0, locals := 0 } : Room).cells ({ frames := 0, cells := 0, slots := 0, locals := 0 } : Room).slots (T0.setTop (mkF m 0 #[.val (.ref a1), .unset] []))
  refine own_st (fun wt wk => XS.aloadN X0.here hx rfl (hb hby d3_0) rfl rfl wk) ?_
  show Fin1 p e below s (rmT0Q Z a1 l1 l2 t h0 n0) ({ frames := 0, cells := 0, slots := 0, locals := 0 } : Room).cells ({ frames := 0, cells := 0, slots := 0, locals := 0 } : Room).slots (T0.setTop (mkF m 1 #[.val (.ref a1), .unset] [(.ref a1)]))
  obtain ⟨T1, X1, e1, st1⟩ := getF X0 hx hZ hown (host := "") (Or.inl (hw _ (List.mem_of_getElem? (i := 18) rfl))) Via.refl e0 Fc (g := (mkF m 1 #[.val (.ref a1), .unset] [(.ref a1)])) rfl rfl (hb hby d3_1)
  refine own_st st1 ?_
  show Fin1 p e below s (rmT0Q Z a1 l1 l2 t h0 n0) ({ frames := 0, cells := 0, slots := 0, locals := 0 } : Room).cells ({ frames := 0, cells := 0, slots := 0, locals := 0 } : Room).slots (T1.setTop (mkF m 4 #[.val (.ref a1), .unset] [(.int (0 : Int32))]))
  refine own_st (fun wt wk => XS.ifYes X1.here hx rfl (pc0 := 4) (pc' := 30) rfl (hb hby d3_4) rfl ((if0 _ _).trans (flt (by decide)).2.2.2) (by decide) (by decide) wk) ?_
  show Fin1 p e below s (rmT0Q Z a1 l1 l2 t h0 n0) ({ frames := 0, cells := 0, slots := 0, locals := 0 } : Room).cells ({ frames := 0, cells := 0, slots := 0, locals := 0 } : Room).slots (T1.setTop (mkF m 30 #[.val (.ref a1), .unset] []))
  refine own_st (fun wt wk => XS.aloadN X1.here hx rfl (hb hby d3_30) rfl rfl wk) ?_
  show Fin1 p e below s (rmT0Q Z a1 l1 l2 t h0 n0) ({ frames := 0, cells := 0, slots := 0, locals := 0 } : Room).cells ({ frames := 0, cells := 0, slots := 0, locals := 0 } : Room).slots (T1.setTop (mkF m 31 #[.val (.ref a1), .unset] [(.ref a1)]))
  obtain ⟨T2, X2, e2, st2⟩ := getF X1 hx hZ hown (host := "") (Or.inl (hw _ (List.mem_of_getElem? (i := 20) rfl))) Via.refl e1 Fl (g := (mkF m 31 #[.val (.ref a1), .unset] [(.ref a1)])) rfl rfl (hb hby d3_31)
  refine own_st st2 ?_
  show Fin1 p e below s (rmT0Q Z a1 l1 l2 t h0 n0) ({ frames := 0, cells := 0, slots := 0, locals := 0 } : Room).cells ({ frames := 0, cells := 0, slots := 0, locals := 0 } : Room).slots (T2.setTop (mkF m 34 #[.val (.ref a1), .unset] [(.int l1)]))
  refine own_st (fun wt wk => XS.istoreN X2.here hx rfl (hb hby d3_34) rfl (l' := #[.val (.ref a1), .val (.int l1)]) rfl wk) ?_
  show Fin1 p e below s (rmT0Q Z a1 l1 l2 t h0 n0) ({ frames := 0, cells := 0, slots := 0, locals := 0 } : Room).cells ({ frames := 0, cells := 0, slots := 0, locals := 0 } : Room).slots (T2.setTop (mkF m 35 #[.val (.ref a1), .val (.int l1)] []))
  refine own_st (fun wt wk => XS.aloadN X2.here hx rfl (hb hby d3_35) rfl rfl wk) ?_
  show Fin1 p e below s (rmT0Q Z a1 l1 l2 t h0 n0) ({ frames := 0, cells := 0, slots := 0, locals := 0 } : Room).cells ({ frames := 0, cells := 0, slots := 0, locals := 0 } : Room).slots (T2.setTop (mkF m 36 #[.val (.ref a1), .val (.int l1)] [(.ref a1)]))
  refine own_st (fun wt wk => XS.dup X2.here hx rfl (hb hby d3_36) rfl rfl wk) ?_
  show Fin1 p e below s (rmT0Q Z a1 l1 l2 t h0 n0) ({ frames := 0, cells := 0, slots := 0, locals := 0 } : Room).cells ({ frames := 0, cells := 0, slots := 0, locals := 0 } : Room).slots (T2.setTop (mkF m 37 #[.val (.ref a1), .val (.int l1)] [(.ref a1), (.ref a1)]))
  obtain ⟨T3, X3, e3, st3⟩ := getF X2 hx hZ hown (host := "") (Or.inl (hw _ (List.mem_of_getElem? (i := 20) rfl))) Via.refl e2 Fl (g := (mkF m 37 #[.val (.ref a1), .val (.int l1)] [(.ref a1), (.ref a1)])) rfl rfl (hb hby d3_37)
  refine own_st st3 ?_
  show Fin1 p e below s (rmT0Q Z a1 l1 l2 t h0 n0) ({ frames := 0, cells := 0, slots := 0, locals := 0 } : Room).cells ({ frames := 0, cells := 0, slots := 0, locals := 0 } : Room).slots (T3.setTop (mkF m 40 #[.val (.ref a1), .val (.int l1)] [(.int l1), (.ref a1)]))
  refine own_st (fun wt wk => XS.iconst X3.here hx rfl (hb hby d3_40) wk) ?_
  show Fin1 p e below s (rmT0Q Z a1 l1 l2 t h0 n0) ({ frames := 0, cells := 0, slots := 0, locals := 0 } : Room).cells ({ frames := 0, cells := 0, slots := 0, locals := 0 } : Room).slots (T3.setTop (mkF m 41 #[.val (.ref a1), .val (.int l1)] [(.int (1 : Int32)), (.int l1), (.ref a1)]))
  refine own_st (fun wt wk => XS.iadd X3.here hx rfl (hb hby d3_41) rfl wk) ?_
  show Fin1 p e below s (rmT0Q Z a1 l1 l2 t h0 n0) ({ frames := 0, cells := 0, slots := 0, locals := 0 } : Room).cells ({ frames := 0, cells := 0, slots := 0, locals := 0 } : Room).slots (T3.setTop (mkF m 42 #[.val (.ref a1), .val (.int l1)] [(.int (l1 + (1 : Int32))), (.ref a1)]))
  obtain ⟨T4, h4, X4, e4, W4, st4⟩ := putF X3 hx hZ hown (host := "") (Or.inl (hw _ (List.mem_of_getElem? (i := 20) rfl))) Via.refl e3 Fl E_a1 (Or.inl (hw _ (List.mem_of_getElem? (i := 21) rfl))) (hw _ (List.mem_of_getElem? (i := 2) rfl)) (ty := .int) (by decide) rfl rfl (g := (mkF m 42 #[.val (.ref a1), .val (.int l1)] [(.int (l1 + (1 : Int32))), (.ref a1)])) rfl rfl (hb hby d3_42)
  refine own_st st4 ?_
  have N4 := Fr.snoc X4 N0 g_a1
  have Z0 := Nat.le_trans Z0 (Nat.le_of_eq W4.size.symm)
  have K0 := K0.wr W4 (Or.inl (List.mem_of_getElem? (i := 0) rfl))
  have E_a1 := E_a1.wr W4
  have Fg := Fg.other W4 (Or.inr (slot_ne (Or.inl (hw _ (List.mem_of_getElem? (i := 12) rfl))) (Or.inl (hw _ (List.mem_of_getElem? (i := 21) rfl))) (by decide) (t := (.array .int)) (t' := .int) (by decide) (by decide)))
  have Fc := Fc.other W4 (Or.inr (slot_ne (Or.inl (hw _ (List.mem_of_getElem? (i := 19) rfl))) (Or.inl (hw _ (List.mem_of_getElem? (i := 21) rfl))) (by decide) (t := .int) (t' := .int) (by decide) (by decide)))
  have Fl := Fl.same W4
  show Fin1 p e below s (rmT0Q Z a1 l1 l2 t h0 n0) ({ frames := 0, cells := 0, slots := 0, locals := 0 } : Room).cells ({ frames := 0, cells := 0, slots := 0, locals := 0 } : Room).slots (T4.setTop (mkF m 45 #[.val (.ref a1), .val (.int l1)] []))
  refine own_st (fun wt wk => XS.iloadN X4.here hx rfl (hb hby d3_45) rfl wk) ?_
  show Fin1 p e below s (rmT0Q Z a1 l1 l2 t h0 n0) ({ frames := 0, cells := 0, slots := 0, locals := 0 } : Room).cells ({ frames := 0, cells := 0, slots := 0, locals := 0 } : Room).slots (T4.setTop (mkF m 46 #[.val (.ref a1), .val (.int l1)] [(.int l1)]))
  exact own_retI X4 hx hlk hret (hb hby d3_46) (by rw [e4]; exact ⟨rfl, N4, K0, Fg, Fc, hl ▸ Fl⟩) (by decide) (by decide)
def rmT1Q (Z : State) (a1 : Addr) (l1 : Int32) (c1 : Int32) (c2 : Int32) (x : Int32) (vs : List Value) (t : Addr) (kt : ClassId) (h0 : Heap) (n0 : Nat) (v : Option Value) (h : Heap) (L : List Loc) : Prop := v = some (.int x) ∧ Fr n0 L ∧ Keep h0 h [a1] ∧ Fld Z h a1 "com/example/tfre/tfre/history/Codes" "givenBack" "[I" (.ref t) ∧ Fld Z h a1 "com/example/tfre/tfre/history/Codes" "givenBackCount" "I" (.int c2) ∧ Fld Z h a1 "com/example/tfre/tfre/history/Codes" "limit" "I" (.int l1)
set_option maxRecDepth 65536 in
set_option maxHeartbeats 40000000 in
theorem rmT1 (l : Launch) (Z : State) (a0 : Array Value) (hw : ∀ d ∈ tables_1, d.before a0 Z = true) (a1 : Addr) (l1 : Int32) (c1 : Int32) (c2 : Int32) (x : Int32) (vs : List Value) (t : Addr) (kt : ClassId) (h0 : Heap) (n0 : Nat) (Z0 : n0 ≤ h0.size) (g_a1 : n0 ≤ a1) (E_a1 : Exa Z h0 a1 "com/example/tfre/tfre/history/Codes") (Fg : Fld Z h0 a1 "com/example/tfre/tfre/history/Codes" "givenBack" "[I" (.ref t)) (Fc : Fld Z h0 a1 "com/example/tfre/tfre/history/Codes" "givenBackCount" "I" (.int c1)) (Fl : Fld Z h0 a1 "com/example/tfre/tfre/history/Codes" "limit" "I" (.int l1)) (V_t : Arv Z h0 t kt .int (8 : Int32) vs (.int (0 : Int32))) (ne_a1_t : a1 ≠ t) (hc : c1 - (1 : Int32) = c2) (hp : (0 : Int32) < c1) (hin : ¬ c2 < 0 ∧ c2 < (8 : Int32)) (hv : vs.getD c2.toNatClampNeg (.int (0 : Int32)) = .int x) :
    Ct l Z [] (⟨"com/example/tfre/tfre/history/Codes", "take", "()I"⟩ : MethodName) prog_2_method_2_code 2 (some .int) ({ frames := 0, cells := 0, slots := 0, locals := 0 } : Room) #[(.ref a1)] h0 (rmT1Q Z a1 l1 c1 c2 x vs t kt h0 n0) := by
  refine own_enter (plainFor_of_name pn_0) ?_
  intro p e s m below meth c T0 X0 hx hby hml hZ hown hnm hret hlk e0
  have hown : s.vm.findClass "com/example/tfre/tfre/history/Codes" = some m.cls := hown
  have N0 := Fr.nil n0
  have K0 := Keep.refl h0 [a1]
  refine own_st (fun wt wk => castTop (g' := mkF m 0 #[.val (.ref a1), .unset] []) (by first | (simp [entryFrame, mkF, argsToLocals, Value.category]; done) | rfl) wk) ?_
  show Fin1 p e below s (rmT1Q Z a1 l1 c1 c2 x vs t kt h0 n0) ({ frames := 0, cells := 0, slots := 0, locals := 0 } : Room).cells ({ frames := 0, cells := 0, slots := 0, locals := 0 } : Room).slots (T0.setTop (mkF m 0 #[.val (.ref a1), .unset] []))
  refine own_st (fun wt wk => XS.aloadN X0.here hx rfl (hb hby d3_0) rfl rfl wk) ?_
  show Fin1 p e below s (rmT1Q Z a1 l1 c1 c2 x vs t kt h0 n0) ({ frames := 0, cells := 0, slots := 0, locals := 0 } : Room).cells ({ frames := 0, cells := 0, slots := 0, locals := 0 } : Room).slots (T0.setTop (mkF m 1 #[.val (.ref a1), .unset] [(.ref a1)]))
  obtain ⟨T1, X1, e1, st1⟩ := getF X0 hx hZ hown (host := "") (Or.inl (hw _ (List.mem_of_getElem? (i := 18) rfl))) Via.refl e0 Fc (g := (mkF m 1 #[.val (.ref a1), .unset] [(.ref a1)])) rfl rfl (hb hby d3_1)
  refine own_st st1 ?_
  show Fin1 p e below s (rmT1Q Z a1 l1 c1 c2 x vs t kt h0 n0) ({ frames := 0, cells := 0, slots := 0, locals := 0 } : Room).cells ({ frames := 0, cells := 0, slots := 0, locals := 0 } : Room).slots (T1.setTop (mkF m 4 #[.val (.ref a1), .unset] [(.int c1)]))
  refine own_st (fun wt wk => XS.ifNo X1.here hx rfl (hb hby d3_4) rfl ((if0 _ _).trans (tlt hp).2.2.2) wk) ?_
  show Fin1 p e below s (rmT1Q Z a1 l1 c1 c2 x vs t kt h0 n0) ({ frames := 0, cells := 0, slots := 0, locals := 0 } : Room).cells ({ frames := 0, cells := 0, slots := 0, locals := 0 } : Room).slots (T1.setTop (mkF m 7 #[.val (.ref a1), .unset] []))
  refine own_st (fun wt wk => XS.aloadN X1.here hx rfl (hb hby d3_7) rfl rfl wk) ?_
  show Fin1 p e below s (rmT1Q Z a1 l1 c1 c2 x vs t kt h0 n0) ({ frames := 0, cells := 0, slots := 0, locals := 0 } : Room).cells ({ frames := 0, cells := 0, slots := 0, locals := 0 } : Room).slots (T1.setTop (mkF m 8 #[.val (.ref a1), .unset] [(.ref a1)]))
  refine own_st (fun wt wk => XS.dup X1.here hx rfl (hb hby d3_8) rfl rfl wk) ?_
  show Fin1 p e below s (rmT1Q Z a1 l1 c1 c2 x vs t kt h0 n0) ({ frames := 0, cells := 0, slots := 0, locals := 0 } : Room).cells ({ frames := 0, cells := 0, slots := 0, locals := 0 } : Room).slots (T1.setTop (mkF m 9 #[.val (.ref a1), .unset] [(.ref a1), (.ref a1)]))
  obtain ⟨T2, X2, e2, st2⟩ := getF X1 hx hZ hown (host := "") (Or.inl (hw _ (List.mem_of_getElem? (i := 18) rfl))) Via.refl e1 Fc (g := (mkF m 9 #[.val (.ref a1), .unset] [(.ref a1), (.ref a1)])) rfl rfl (hb hby d3_9)
  refine own_st st2 ?_
  show Fin1 p e below s (rmT1Q Z a1 l1 c1 c2 x vs t kt h0 n0) ({ frames := 0, cells := 0, slots := 0, locals := 0 } : Room).cells ({ frames := 0, cells := 0, slots := 0, locals := 0 } : Room).slots (T2.setTop (mkF m 12 #[.val (.ref a1), .unset] [(.int c1), (.ref a1)]))
  refine own_st (fun wt wk => XS.iconst X2.here hx rfl (hb hby d3_12) wk) ?_
  show Fin1 p e below s (rmT1Q Z a1 l1 c1 c2 x vs t kt h0 n0) ({ frames := 0, cells := 0, slots := 0, locals := 0 } : Room).cells ({ frames := 0, cells := 0, slots := 0, locals := 0 } : Room).slots (T2.setTop (mkF m 13 #[.val (.ref a1), .unset] [(.int (1 : Int32)), (.int c1), (.ref a1)]))
  refine own_st (fun wt wk => XS.isub X2.here hx rfl (hb hby d3_13) rfl wk) ?_
  show Fin1 p e below s (rmT1Q Z a1 l1 c1 c2 x vs t kt h0 n0) ({ frames := 0, cells := 0, slots := 0, locals := 0 } : Room).cells ({ frames := 0, cells := 0, slots := 0, locals := 0 } : Room).slots (T2.setTop (mkF m 14 #[.val (.ref a1), .unset] [(.int (c1 - (1 : Int32))), (.ref a1)]))
  obtain ⟨T3, h3, X3, e3, W3, st3⟩ := putF X2 hx hZ hown (host := "") (Or.inl (hw _ (List.mem_of_getElem? (i := 18) rfl))) Via.refl e2 Fc E_a1 (Or.inl (hw _ (List.mem_of_getElem? (i := 19) rfl))) (hw _ (List.mem_of_getElem? (i := 2) rfl)) (ty := .int) (by decide) rfl rfl (g := (mkF m 14 #[.val (.ref a1), .unset] [(.int (c1 - (1 : Int32))), (.ref a1)])) rfl rfl (hb hby d3_14)
  refine own_st st3 ?_
  have N3 := Fr.snoc X3 N0 g_a1
  have Z0 := Nat.le_trans Z0 (Nat.le_of_eq W3.size.symm)
  have K0 := K0.wr W3 (Or.inl (List.mem_of_getElem? (i := 0) rfl))
  have E_a1 := E_a1.wr W3
  have Fg := Fg.other W3 (Or.inr (slot_ne (Or.inl (hw _ (List.mem_of_getElem? (i := 12) rfl))) (Or.inl (hw _ (List.mem_of_getElem? (i := 19) rfl))) (by decide) (t := (.array .int)) (t' := .int) (by decide) (by decide)))
  have Fc := Fc.same W3
  have Fl := Fl.other W3 (Or.inr (slot_ne (Or.inl (hw _ (List.mem_of_getElem? (i := 21) rfl))) (Or.inl (hw _ (List.mem_of_getElem? (i := 19) rfl))) (by decide) (t := .int) (t' := .int) (by decide) (by decide)))
  have V_t := V_t.other W3 (Ne.symm ne_a1_t)
  show Fin1 p e below s (rmT1Q Z a1 l1 c1 c2 x vs t kt h0 n0) ({ frames := 0, cells := 0, slots := 0, locals := 0 } : Room).cells ({ frames := 0, cells := 0, slots := 0, locals := 0 } : Room).slots (T3.setTop (mkF m 17 #[.val (.ref a1), .unset] []))
  rw [hc] at Fc
  refine own_st (fun wt wk => XS.aloadN X3.here hx rfl (hb hby d3_17) rfl rfl wk) ?_
  show Fin1 p e below s (rmT1Q Z a1 l1 c1 c2 x vs t kt h0 n0) ({ frames := 0, cells := 0, slots := 0, locals := 0 } : Room).cells ({ frames := 0, cells := 0, slots := 0, locals := 0 } : Room).slots (T3.setTop (mkF m 18 #[.val (.ref a1), .unset] [(.ref a1)]))
  obtain ⟨T4, X4, e4, st4⟩ := getF X3 hx hZ hown (host := "") (Or.inl (hw _ (List.mem_of_getElem? (i := 11) rfl))) Via.refl e3 Fg (g := (mkF m 18 #[.val (.ref a1), .unset] [(.ref a1)])) rfl rfl (hb hby d3_18)
  refine own_st st4 ?_
  show Fin1 p e below s (rmT1Q Z a1 l1 c1 c2 x vs t kt h0 n0) ({ frames := 0, cells := 0, slots := 0, locals := 0 } : Room).cells ({ frames := 0, cells := 0, slots := 0, locals := 0 } : Room).slots (T4.setTop (mkF m 21 #[.val (.ref a1), .unset] [(.ref t)]))
  refine own_st (fun wt wk => XS.aloadN X4.here hx rfl (hb hby d3_21) rfl rfl wk) ?_
  show Fin1 p e below s (rmT1Q Z a1 l1 c1 c2 x vs t kt h0 n0) ({ frames := 0, cells := 0, slots := 0, locals := 0 } : Room).cells ({ frames := 0, cells := 0, slots := 0, locals := 0 } : Room).slots (T4.setTop (mkF m 22 #[.val (.ref a1), .unset] [(.ref a1), (.ref t)]))
  obtain ⟨T5, X5, e5, st5⟩ := getF X4 hx hZ hown (host := "") (Or.inl (hw _ (List.mem_of_getElem? (i := 18) rfl))) Via.refl e4 Fc (g := (mkF m 22 #[.val (.ref a1), .unset] [(.ref a1), (.ref t)])) rfl rfl (hb hby d3_22)
  refine own_st st5 ?_
  show Fin1 p e below s (rmT1Q Z a1 l1 c1 c2 x vs t kt h0 n0) ({ frames := 0, cells := 0, slots := 0, locals := 0 } : Room).cells ({ frames := 0, cells := 0, slots := 0, locals := 0 } : Room).slots (T5.setTop (mkF m 25 #[.val (.ref a1), .unset] [(.int c2), (.ref t)]))
  refine own_st (own_ld (j := c2) (v := (.int x)) X5 hx hZ e5 V_t hin hv (g := (mkF m 25 #[.val (.ref a1), .unset] [(.int c2), (.ref t)])) rfl rfl (Or.inl ⟨rfl, rfl⟩) (hb hby d3_25)) ?_
  show Fin1 p e below s (rmT1Q Z a1 l1 c1 c2 x vs t kt h0 n0) ({ frames := 0, cells := 0, slots := 0, locals := 0 } : Room).cells ({ frames := 0, cells := 0, slots := 0, locals := 0 } : Room).slots (T5.setTop (mkF m 26 #[.val (.ref a1), .unset] [(.int x)]))
  refine own_st (fun wt wk => XS.istoreN X5.here hx rfl (hb hby d3_26) rfl (l' := #[.val (.ref a1), .val (.int x)]) rfl wk) ?_
  show Fin1 p e below s (rmT1Q Z a1 l1 c1 c2 x vs t kt h0 n0) ({ frames := 0, cells := 0, slots := 0, locals := 0 } : Room).cells ({ frames := 0, cells := 0, slots := 0, locals := 0 } : Room).slots (T5.setTop (mkF m 27 #[.val (.ref a1), .val (.int x)] []))
  refine own_st (fun wt wk => XS.goto X5.here hx rfl (pc0 := 27) (pc' := 45) rfl (hb hby d3_27) (by decide) (by decide) wk) ?_
  show Fin1 p e below s (rmT1Q Z a1 l1 c1 c2 x vs t kt h0 n0) ({ frames := 0, cells := 0, slots := 0, locals := 0 } : Room).cells ({ frames := 0, cells := 0, slots := 0, locals := 0 } : Room).slots (T5.setTop (mkF m 45 #[.val (.ref a1), .val (.int x)] []))
  refine own_st (fun wt wk => XS.iloadN X5.here hx rfl (hb hby d3_45) rfl wk) ?_
  show Fin1 p e below s (rmT1Q Z a1 l1 c1 c2 x vs t kt h0 n0) ({ frames := 0, cells := 0, slots := 0, locals := 0 } : Room).cells ({ frames := 0, cells := 0, slots := 0, locals := 0 } : Room).slots (T5.setTop (mkF m 46 #[.val (.ref a1), .val (.int x)] [(.int x)]))
  exact own_retI X5 hx hlk hret (hb hby d3_46) (by rw [e5]; exact ⟨rfl, N3, K0, Fg, Fc, Fl⟩) (by decide) (by decide)
theorem d4_0 : decode prog_2_method_3_code 0 = .ok (.aload_n 0, 1) := by decide +kernel
theorem d4_1 : decode prog_2_method_3_code 1 = .ok (.getfield 13, 3) := by decide +kernel
theorem d4_4 : decode prog_2_method_3_code 4 = .ok (.aload_n 0, 1) := by decide +kernel
theorem d4_5 : decode prog_2_method_3_code 5 = .ok (.getfield 7, 3) := by decide +kernel
theorem d4_8 : decode prog_2_method_3_code 8 = .ok (.arraylength, 1) := by decide +kernel
theorem d4_9 : decode prog_2_method_3_code 9 = .ok (.if_icmp .ne 21, 3) := by decide +kernel
theorem d4_12 : decode prog_2_method_3_code 12 = .ok (.aload_n 0, 1) := by decide +kernel
theorem d4_13 : decode prog_2_method_3_code 13 = .ok (.aload_n 0, 1) := by decide +kernel
theorem d4_14 : decode prog_2_method_3_code 14 = .ok (.getfield 7, 3) := by decide +kernel
theorem d4_17 : decode prog_2_method_3_code 17 = .ok (.aload_n 0, 1) := by decide +kernel
theorem d4_18 : decode prog_2_method_3_code 18 = .ok (.getfield 7, 3) := by decide +kernel
theorem d4_21 : decode prog_2_method_3_code 21 = .ok (.arraylength, 1) := by decide +kernel
theorem d4_22 : decode prog_2_method_3_code 22 = .ok (.iconst 2, 1) := by decide +kernel
theorem d4_23 : decode prog_2_method_3_code 23 = .ok (.imul, 1) := by decide +kernel
theorem d4_24 : decode prog_2_method_3_code 24 = .ok (.invokestatic 20, 3) := by decide +kernel
theorem d4_27 : decode prog_2_method_3_code 27 = .ok (.putfield 7, 3) := by decide +kernel
theorem d4_30 : decode prog_2_method_3_code 30 = .ok (.aload_n 0, 1) := by decide +kernel
theorem d4_31 : decode prog_2_method_3_code 31 = .ok (.getfield 7, 3) := by decide +kernel
theorem d4_34 : decode prog_2_method_3_code 34 = .ok (.aload_n 0, 1) := by decide +kernel
theorem d4_35 : decode prog_2_method_3_code 35 = .ok (.getfield 13, 3) := by decide +kernel
theorem d4_38 : decode prog_2_method_3_code 38 = .ok (.iload_n 1, 1) := by decide +kernel
theorem d4_39 : decode prog_2_method_3_code 39 = .ok (.iastore, 1) := by decide +kernel
theorem d4_40 : decode prog_2_method_3_code 40 = .ok (.aload_n 0, 1) := by decide +kernel
theorem d4_41 : decode prog_2_method_3_code 41 = .ok (.dup, 1) := by decide +kernel
theorem d4_42 : decode prog_2_method_3_code 42 = .ok (.getfield 13, 3) := by decide +kernel
theorem d4_45 : decode prog_2_method_3_code 45 = .ok (.iconst 1, 1) := by decide +kernel
theorem d4_46 : decode prog_2_method_3_code 46 = .ok (.iadd, 1) := by decide +kernel
theorem d4_47 : decode prog_2_method_3_code 47 = .ok (.putfield 13, 3) := by decide +kernel
theorem d4_50 : decode prog_2_method_3_code 50 = .ok (.return_, 1) := by decide +kernel
def rmGQ (Z : State) (a1 : Addr) (x : Int32) (l1 : Int32) (c1 : Int32) (c2 : Int32) (i : Nat) (vs : List Value) (t : Addr) (kt : ClassId) (h0 : Heap) (n0 : Nat) (v : Option Value) (h : Heap) (L : List Loc) : Prop := v = none ∧ Fr n0 L ∧ Keep h0 h [a1, t] ∧ Fld Z h a1 "com/example/tfre/tfre/history/Codes" "givenBack" "[I" (.ref t) ∧ Fld Z h a1 "com/example/tfre/tfre/history/Codes" "givenBackCount" "I" (.int c2) ∧ Fld Z h a1 "com/example/tfre/tfre/history/Codes" "limit" "I" (.int l1) ∧ Arv Z h t kt .int (8 : Int32) (vs.set i (.int x)) (.int (0 : Int32))
set_option maxRecDepth 65536 in
set_option maxHeartbeats 40000000 in
theorem rmG (l : Launch) (Z : State) (a0 : Array Value) (hw : ∀ d ∈ tables_1, d.before a0 Z = true) (a1 : Addr) (x : Int32) (l1 : Int32) (c1 : Int32) (c2 : Int32) (i : Nat) (vs : List Value) (t : Addr) (kt : ClassId) (h0 : Heap) (n0 : Nat) (Z0 : n0 ≤ h0.size) (g_a1 : n0 ≤ a1) (g_t : n0 ≤ t) (E_a1 : Exa Z h0 a1 "com/example/tfre/tfre/history/Codes") (Fg : Fld Z h0 a1 "com/example/tfre/tfre/history/Codes" "givenBack" "[I" (.ref t)) (Fc : Fld Z h0 a1 "com/example/tfre/tfre/history/Codes" "givenBackCount" "I" (.int c1)) (Fl : Fld Z h0 a1 "com/example/tfre/tfre/history/Codes" "limit" "I" (.int l1)) (V_t : Arv Z h0 t kt .int (8 : Int32) vs (.int (0 : Int32))) (ne_a1_t : a1 ≠ t) (hc : c1 + (1 : Int32) = c2) (hin : ¬ c1 < 0 ∧ c1 < (8 : Int32)) (hi : c1.toNatClampNeg = i) (hl : i < vs.length) (hne8 : ¬ c1 = (8 : Int32)) :
    Ct l Z [] (⟨"com/example/tfre/tfre/history/Codes", "giveBack", "(I)V"⟩ : MethodName) prog_2_method_3_code 2 none ({ frames := 0, cells := 0, slots := 0, locals := 0 } : Room) #[(.ref a1), (.int x)] h0 (rmGQ Z a1 x l1 c1 c2 i vs t kt h0 n0) := by
  refine own_enter (plainFor_of_name pn_0) ?_
  intro p e s m below meth c T0 X0 hx hby hml hZ hown hnm hret hlk e0
  have hown : s.vm.findClass "com/example/tfre/tfre/history/Codes" = some m.cls := hown
  have N0 := Fr.nil n0
  have K0 := Keep.refl h0 [a1, t]
  refine own_st (fun wt wk => castTop (g' := mkF m 0 #[.val (.ref a1), .val (.int x)] []) (by first | (simp [entryFrame, mkF, argsToLocals, Value.category]; done) | rfl) wk) ?_
  show Fin1 p e below s (rmGQ Z a1 x l1 c1 c2 i vs t kt h0 n0) ({ frames := 0, cells := 0, slots := 0, locals := 0 } : Room).cells ({ frames := 0, cells := 0, slots := 0, locals := 0 } : Room).slots (T0.setTop (mkF m 0 #[.val (.ref a1), .val (.int x)] []))
  refine own_st (fun wt wk => XS.aloadN X0.here hx rfl (hb hby d4_0) rfl rfl wk) ?_
  show Fin1 p e below s (rmGQ Z a1 x l1 c1 c2 i vs t kt h0 n0) ({ frames := 0, cells := 0, slots := 0, locals := 0 } : Room).cells ({ frames := 0, cells := 0, slots := 0, locals := 0 } : Room).slots (T0.setTop (mkF m 1 #[.val (.ref a1), .val (.int x)] [(.ref a1)]))
  obtain ⟨T1, X1, e1, st1⟩ := getF X0 hx hZ hown (host := "") (Or.inl (hw _ (List.mem_of_getElem? (i := 18) rfl))) Via.refl e0 Fc (g := (mkF m 1 #[.val (.ref a1), .val (.int x)] [(.ref a1)])) rfl rfl (hb hby d4_1)
  refine own_st st1 ?_
  show Fin1 p e below s (rmGQ Z a1 x l1 c1 c2 i vs t kt h0 n0) ({ frames := 0, cells := 0, slots := 0, locals := 0 } : Room).cells ({ frames := 0, cells := 0, slots := 0, locals := 0 } : Room).slots (T1.setTop (mkF m 4 #[.val (.ref a1), .val (.int x)] [(.int c1)]))
  refine own_st (fun wt wk => XS.aloadN X1.here hx rfl (hb hby d4_4) rfl rfl wk) ?_
  show Fin1 p e below s (rmGQ Z a1 x l1 c1 c2 i vs t kt h0 n0) ({ frames := 0, cells := 0, slots := 0, locals := 0 } : Room).cells ({ frames := 0, cells := 0, slots := 0, locals := 0 } : Room).slots (T1.setTop (mkF m 5 #[.val (.ref a1), .val (.int x)] [(.ref a1), (.int c1)]))
  obtain ⟨T2, X2, e2, st2⟩ := getF X1 hx hZ hown (host := "") (Or.inl (hw _ (List.mem_of_getElem? (i := 11) rfl))) Via.refl e1 Fg (g := (mkF m 5 #[.val (.ref a1), .val (.int x)] [(.ref a1), (.int c1)])) rfl rfl (hb hby d4_5)
  refine own_st st2 ?_
  show Fin1 p e below s (rmGQ Z a1 x l1 c1 c2 i vs t kt h0 n0) ({ frames := 0, cells := 0, slots := 0, locals := 0 } : Room).cells ({ frames := 0, cells := 0, slots := 0, locals := 0 } : Room).slots (T2.setTop (mkF m 8 #[.val (.ref a1), .val (.int x)] [(.ref t), (.int c1)]))
  refine own_st (own_len X2 hx hZ e2 V_t (g := (mkF m 8 #[.val (.ref a1), .val (.int x)] [(.ref t), (.int c1)])) rfl rfl (hb hby d4_8)) ?_
  show Fin1 p e below s (rmGQ Z a1 x l1 c1 c2 i vs t kt h0 n0) ({ frames := 0, cells := 0, slots := 0, locals := 0 } : Room).cells ({ frames := 0, cells := 0, slots := 0, locals := 0 } : Room).slots (T2.setTop (mkF m 9 #[.val (.ref a1), .val (.int x)] [(.int (8 : Int32)), (.int c1)]))
  refine own_st (fun wt wk => XS.icmpYes X2.here hx rfl (pc0 := 9) (pc' := 30) rfl (hb hby d4_9) rfl (feq hne8).2 (by decide) (by decide) wk) ?_
  show Fin1 p e below s (rmGQ Z a1 x l1 c1 c2 i vs t kt h0 n0) ({ frames := 0, cells := 0, slots := 0, locals := 0 } : Room).cells ({ frames := 0, cells := 0, slots := 0, locals := 0 } : Room).slots (T2.setTop (mkF m 30 #[.val (.ref a1), .val (.int x)] []))
  refine own_st (fun wt wk => XS.aloadN X2.here hx rfl (hb hby d4_30) rfl rfl wk) ?_
  show Fin1 p e below s (rmGQ Z a1 x l1 c1 c2 i vs t kt h0 n0) ({ frames := 0, cells := 0, slots := 0, locals := 0 } : Room).cells ({ frames := 0, cells := 0, slots := 0, locals := 0 } : Room).slots (T2.setTop (mkF m 31 #[.val (.ref a1), .val (.int x)] [(.ref a1)]))
  obtain ⟨T3, X3, e3, st3⟩ := getF X2 hx hZ hown (host := "") (Or.inl (hw _ (List.mem_of_getElem? (i := 11) rfl))) Via.refl e2 Fg (g := (mkF m 31 #[.val (.ref a1), .val (.int x)] [(.ref a1)])) rfl rfl (hb hby d4_31)
  refine own_st st3 ?_
  show Fin1 p e below s (rmGQ Z a1 x l1 c1 c2 i vs t kt h0 n0) ({ frames := 0, cells := 0, slots := 0, locals := 0 } : Room).cells ({ frames := 0, cells := 0, slots := 0, locals := 0 } : Room).slots (T3.setTop (mkF m 34 #[.val (.ref a1), .val (.int x)] [(.ref t)]))
  refine own_st (fun wt wk => XS.aloadN X3.here hx rfl (hb hby d4_34) rfl rfl wk) ?_
  show Fin1 p e below s (rmGQ Z a1 x l1 c1 c2 i vs t kt h0 n0) ({ frames := 0, cells := 0, slots := 0, locals := 0 } : Room).cells ({ frames := 0, cells := 0, slots := 0, locals := 0 } : Room).slots (T3.setTop (mkF m 35 #[.val (.ref a1), .val (.int x)] [(.ref a1), (.ref t)]))
  obtain ⟨T4, X4, e4, st4⟩ := getF X3 hx hZ hown (host := "") (Or.inl (hw _ (List.mem_of_getElem? (i := 18) rfl))) Via.refl e3 Fc (g := (mkF m 35 #[.val (.ref a1), .val (.int x)] [(.ref a1), (.ref t)])) rfl rfl (hb hby d4_35)
  refine own_st st4 ?_
  show Fin1 p e below s (rmGQ Z a1 x l1 c1 c2 i vs t kt h0 n0) ({ frames := 0, cells := 0, slots := 0, locals := 0 } : Room).cells ({ frames := 0, cells := 0, slots := 0, locals := 0 } : Room).slots (T4.setTop (mkF m 38 #[.val (.ref a1), .val (.int x)] [(.int c1), (.ref t)]))
  refine own_st (fun wt wk => XS.iloadN X4.here hx rfl (hb hby d4_38) rfl wk) ?_
  show Fin1 p e below s (rmGQ Z a1 x l1 c1 c2 i vs t kt h0 n0) ({ frames := 0, cells := 0, slots := 0, locals := 0 } : Room).cells ({ frames := 0, cells := 0, slots := 0, locals := 0 } : Room).slots (T4.setTop (mkF m 39 #[.val (.ref a1), .val (.int x)] [(.int x), (.int c1), (.ref t)]))
  obtain ⟨T5, h5, X5, e5, W5, U5, st5⟩ := own_stI (j := c1) X4 hx hZ e4 V_t hin i hi hl (g := (mkF m 39 #[.val (.ref a1), .val (.int x)] [(.int x), (.int c1), (.ref t)])) rfl rfl (hb hby d4_39)
  have N5 := Fr.snoc X5 N0 g_t
  have Z0 := Nat.le_trans Z0 (Nat.le_of_eq W5.size.symm)
  have K0 := K0.wr W5 (Or.inl (List.mem_of_getElem? (i := 1) rfl))
  have E_a1 := E_a1.wr W5
  have Fg := Fg.other W5 (Or.inl ne_a1_t)
  have Fc := Fc.other W5 (Or.inl ne_a1_t)
  have Fl := Fl.other W5 (Or.inl ne_a1_t)
  have V_t := U5
  refine own_st st5 ?_
  show Fin1 p e below s (rmGQ Z a1 x l1 c1 c2 i vs t kt h0 n0) ({ frames := 0, cells := 0, slots := 0, locals := 0 } : Room).cells ({ frames := 0, cells := 0, slots := 0, locals := 0 } : Room).slots (T5.setTop (mkF m 40 #[.val (.ref a1), .val (.int x)] []))
  refine own_st (fun wt wk => XS.aloadN X5.here hx rfl (hb hby d4_40) rfl rfl wk) ?_
  show Fin1 p e below s (rmGQ Z a1 x l1 c1 c2 i vs t kt h0 n0) ({ frames := 0, cells := 0, slots := 0, locals := 0 } : Room).cells ({ frames := 0, cells := 0, slots := 0, locals := 0 } : Room).slots (T5.setTop (mkF m 41 #[.val (.ref a1), .val (.int x)] [(.ref a1)]))
  refine own_st (fun wt wk => XS.dup X5.here hx rfl (hb hby d4_41) rfl rfl wk) ?_
  show Fin1 p e below s (rmGQ Z a1 x l1 c1 c2 i vs t kt h0 n0) ({ frames := 0, cells := 0, slots := 0, locals := 0 } : Room).cells ({ frames := 0, cells := 0, slots := 0, locals := 0 } : Room).slots (T5.setTop (mkF m 42 #[.val (.ref a1), .val (.int x)] [(.ref a1), (.ref a1)]))
  obtain ⟨T6, X6, e6, st6⟩ := getF X5 hx hZ hown (host := "") (Or.inl (hw _ (List.mem_of_getElem? (i := 18) rfl))) Via.refl e5 Fc (g := (mkF m 42 #[.val (.ref a1), .val (.int x)] [(.ref a1), (.ref a1)])) rfl rfl (hb hby d4_42)
  refine own_st st6 ?_
  show Fin1 p e below s (rmGQ Z a1 x l1 c1 c2 i vs t kt h0 n0) ({ frames := 0, cells := 0, slots := 0, locals := 0 } : Room).cells ({ frames := 0, cells := 0, slots := 0, locals := 0 } : Room).slots (T6.setTop (mkF m 45 #[.val (.ref a1), .val (.int x)] [(.int c1), (.ref a1)]))
  refine own_st (fun wt wk => XS.iconst X6.here hx rfl (hb hby d4_45) wk) ?_
  show Fin1 p e below s (rmGQ Z a1 x l1 c1 c2 i vs t kt h0 n0) ({ frames := 0, cells := 0, slots := 0, locals := 0 } : Room).cells ({ frames := 0, cells := 0, slots := 0, locals := 0 } : Room).slots (T6.setTop (mkF m 46 #[.val (.ref a1), .val (.int x)] [(.int (1 : Int32)), (.int c1), (.ref a1)]))
  refine own_st (fun wt wk => XS.iadd X6.here hx rfl (hb hby d4_46) rfl wk) ?_
  show Fin1 p e below s (rmGQ Z a1 x l1 c1 c2 i vs t kt h0 n0) ({ frames := 0, cells := 0, slots := 0, locals := 0 } : Room).cells ({ frames := 0, cells := 0, slots := 0, locals := 0 } : Room).slots (T6.setTop (mkF m 47 #[.val (.ref a1), .val (.int x)] [(.int (c1 + (1 : Int32))), (.ref a1)]))
  obtain ⟨T7, h7, X7, e7, W7, st7⟩ := putF X6 hx hZ hown (host := "") (Or.inl (hw _ (List.mem_of_getElem? (i := 18) rfl))) Via.refl e6 Fc E_a1 (Or.inl (hw _ (List.mem_of_getElem? (i := 19) rfl))) (hw _ (List.mem_of_getElem? (i := 2) rfl)) (ty := .int) (by decide) rfl rfl (g := (mkF m 47 #[.val (.ref a1), .val (.int x)] [(.int (c1 + (1 : Int32))), (.ref a1)])) rfl rfl (hb hby d4_47)
  refine own_st st7 ?_
  have N7 := Fr.snoc X7 N5 g_a1
  have Z0 := Nat.le_trans Z0 (Nat.le_of_eq W7.size.symm)
  have K0 := K0.wr W7 (Or.inl (List.mem_of_getElem? (i := 0) rfl))
  have E_a1 := E_a1.wr W7
  have Fg := Fg.other W7 (Or.inr (slot_ne (Or.inl (hw _ (List.mem_of_getElem? (i := 12) rfl))) (Or.inl (hw _ (List.mem_of_getElem? (i := 19) rfl))) (by decide) (t := (.array .int)) (t' := .int) (by decide) (by decide)))
  have Fc := Fc.same W7
  have Fl := Fl.other W7 (Or.inr (slot_ne (Or.inl (hw _ (List.mem_of_getElem? (i := 21) rfl))) (Or.inl (hw _ (List.mem_of_getElem? (i := 19) rfl))) (by decide) (t := .int) (t' := .int) (by decide) (by decide)))
  have V_t := V_t.other W7 (Ne.symm ne_a1_t)
  show Fin1 p e below s (rmGQ Z a1 x l1 c1 c2 i vs t kt h0 n0) ({ frames := 0, cells := 0, slots := 0, locals := 0 } : Room).cells ({ frames := 0, cells := 0, slots := 0, locals := 0 } : Room).slots (T7.setTop (mkF m 50 #[.val (.ref a1), .val (.int x)] []))
  exact own_retV X7 hx hlk hret (hb hby d4_50) (by rw [e7]; exact ⟨rfl, N7, K0, Fg, hc ▸ Fc, Fl, V_t⟩) (by decide) (by decide)
theorem d5_0 : decode prog_2_method_4_code 0 = .ok (.aload_n 0, 1) := by decide +kernel
theorem d5_1 : decode prog_2_method_4_code 1 = .ok (.getfield 17, 3) := by decide +kernel
theorem d5_4 : decode prog_2_method_4_code 4 = .ok (.aload_n 0, 1) := by decide +kernel
theorem d5_5 : decode prog_2_method_4_code 5 = .ok (.getfield 13, 3) := by decide +kernel
theorem d5_8 : decode prog_2_method_4_code 8 = .ok (.isub, 1) := by decide +kernel
theorem d5_9 : decode prog_2_method_4_code 9 = .ok (.ireturn, 1) := by decide +kernel
def rmHQ (Z : State) (a1 : Addr) (l1 : Int32) (c1 : Int32) (h0 : Heap) (n0 : Nat) (v : Option Value) (h : Heap) (L : List Loc) : Prop := v = some (.int (l1 - c1)) ∧ Fr n0 L ∧ h = h0
set_option maxRecDepth 65536 in
set_option maxHeartbeats 40000000 in
theorem rmH (l : Launch) (Z : State) (a0 : Array Value) (hw : ∀ d ∈ tables_1, d.before a0 Z = true) (a1 : Addr) (l1 : Int32) (c1 : Int32) (h0 : Heap) (n0 : Nat) (Z0 : n0 ≤ h0.size) (Fc : Fld Z h0 a1 "com/example/tfre/tfre/history/Codes" "givenBackCount" "I" (.int c1)) (Fl : Fld Z h0 a1 "com/example/tfre/tfre/history/Codes" "limit" "I" (.int l1)) :
    Ct l Z [] (⟨"com/example/tfre/tfre/history/Codes", "held", "()I"⟩ : MethodName) prog_2_method_4_code 1 (some .int) ({ frames := 0, cells := 0, slots := 0, locals := 0 } : Room) #[(.ref a1)] h0 (rmHQ Z a1 l1 c1 h0 n0) := by
  refine own_enter (plainFor_of_name pn_0) ?_
  intro p e s m below meth c T0 X0 hx hby hml hZ hown hnm hret hlk e0
  have hown : s.vm.findClass "com/example/tfre/tfre/history/Codes" = some m.cls := hown
  have N0 := Fr.nil n0
  have K0 := Keep.refl h0 []
  refine own_st (fun wt wk => castTop (g' := mkF m 0 #[.val (.ref a1)] []) (by first | (simp [entryFrame, mkF, argsToLocals, Value.category]; done) | rfl) wk) ?_
  show Fin1 p e below s (rmHQ Z a1 l1 c1 h0 n0) ({ frames := 0, cells := 0, slots := 0, locals := 0 } : Room).cells ({ frames := 0, cells := 0, slots := 0, locals := 0 } : Room).slots (T0.setTop (mkF m 0 #[.val (.ref a1)] []))
  refine own_st (fun wt wk => XS.aloadN X0.here hx rfl (hb hby d5_0) rfl rfl wk) ?_
  show Fin1 p e below s (rmHQ Z a1 l1 c1 h0 n0) ({ frames := 0, cells := 0, slots := 0, locals := 0 } : Room).cells ({ frames := 0, cells := 0, slots := 0, locals := 0 } : Room).slots (T0.setTop (mkF m 1 #[.val (.ref a1)] [(.ref a1)]))
  obtain ⟨T1, X1, e1, st1⟩ := getF X0 hx hZ hown (host := "") (Or.inl (hw _ (List.mem_of_getElem? (i := 20) rfl))) Via.refl e0 Fl (g := (mkF m 1 #[.val (.ref a1)] [(.ref a1)])) rfl rfl (hb hby d5_1)
  refine own_st st1 ?_
  show Fin1 p e below s (rmHQ Z a1 l1 c1 h0 n0) ({ frames := 0, cells := 0, slots := 0, locals := 0 } : Room).cells ({ frames := 0, cells := 0, slots := 0, locals := 0 } : Room).slots (T1.setTop (mkF m 4 #[.val (.ref a1)] [(.int l1)]))
  refine own_st (fun wt wk => XS.aloadN X1.here hx rfl (hb hby d5_4) rfl rfl wk) ?_
  show Fin1 p e below s (rmHQ Z a1 l1 c1 h0 n0) ({ frames := 0, cells := 0, slots := 0, locals := 0 } : Room).cells ({ frames := 0, cells := 0, slots := 0, locals := 0 } : Room).slots (T1.setTop (mkF m 5 #[.val (.ref a1)] [(.ref a1), (.int l1)]))
  obtain ⟨T2, X2, e2, st2⟩ := getF X1 hx hZ hown (host := "") (Or.inl (hw _ (List.mem_of_getElem? (i := 18) rfl))) Via.refl e1 Fc (g := (mkF m 5 #[.val (.ref a1)] [(.ref a1), (.int l1)])) rfl rfl (hb hby d5_5)
  refine own_st st2 ?_
  show Fin1 p e below s (rmHQ Z a1 l1 c1 h0 n0) ({ frames := 0, cells := 0, slots := 0, locals := 0 } : Room).cells ({ frames := 0, cells := 0, slots := 0, locals := 0 } : Room).slots (T2.setTop (mkF m 8 #[.val (.ref a1)] [(.int c1), (.int l1)]))
  refine own_st (fun wt wk => XS.isub X2.here hx rfl (hb hby d5_8) rfl wk) ?_
  show Fin1 p e below s (rmHQ Z a1 l1 c1 h0 n0) ({ frames := 0, cells := 0, slots := 0, locals := 0 } : Room).cells ({ frames := 0, cells := 0, slots := 0, locals := 0 } : Room).slots (T2.setTop (mkF m 9 #[.val (.ref a1)] [(.int (l1 - c1))]))
  exact own_retI X2 hx hlk hret (hb hby d5_9) (by rw [e2]; exact ⟨rfl, N0, rfl⟩) (by decide) (by decide)
theorem pn_1 : plainName "com/example/tfre/tfre/history/CodesTakePinLaw" = true := by first | (simp [plainName, overriddenIn]; done) | decide +kernel
theorem pd_2 : parseMethodDescriptor "()V" = some ⟨[], none⟩ := by decide +kernel
theorem pd_3 : parseMethodDescriptor "()I" = some ⟨[], some .int⟩ := by decide +kernel
theorem pd_4 : parseMethodDescriptor "(I)V" = some ⟨[.int], none⟩ := by decide +kernel
def rm0Q (Z : State) (i0 : Int32) (i1 : Int32) (i2 : Int32) (h0 : Heap) (n0 : Nat) (v : Option Value) (h : Heap) (L : List Loc) : Prop := v = some (.int (1 : Int32)) ∧ Fr n0 L
set_option maxRecDepth 65536 in
set_option maxHeartbeats 40000000 in
theorem rm0 (l : Launch) (Z : State) (a0 : Array Value) (hw : ∀ d ∈ tables_1, d.before a0 Z = true) (i0 : Int32) (i1 : Int32) (i2 : Int32) (h0 : Heap) (n0 : Nat) (Z0 : n0 ≤ h0.size) :
    Ct l Z tables_1 x code maxLocals ret room_1 #[(.int i0), (.int i1), (.int i2)] h0 (rm0Q Z i0 i1 i2 h0 n0) := by
  refine own_enter (plainFor_of_name pn_1) ?_
  intro p e s m below meth c T0 X0 hx hby hml hZ hown hnm hret hlk e0
  have hown : s.vm.findClass "com/example/tfre/tfre/history/CodesTakePinLaw" = some m.cls := hown
  have N0 := Fr.nil n0
  have K0 := Keep.refl h0 []
  refine own_st (fun wt wk => castTop (g' := mkF m 0 #[.val (.int i0), .val (.int i1), .val (.int i2), .unset, .unset, .unset, .unset, .unset, .unset, .unset, .unset, .unset, .unset, .unset, .unset, .unset, .unset] []) (by first | (simp [entryFrame, mkF, argsToLocals, Value.category, maxLocals]; done) | rfl) wk) ?_
  show Fin1 p e below s (rm0Q Z i0 i1 i2 h0 n0) room_1.cells room_1.slots (T0.setTop (mkF m 0 #[.val (.int i0), .val (.int i1), .val (.int i2), .unset, .unset, .unset, .unset, .unset, .unset, .unset, .unset, .unset, .unset, .unset, .unset, .unset, .unset] []))
  refine own_st (fun wt wk => XS.iloadN X0.here hx rfl (hb hby at_0) rfl wk) ?_
  show Fin1 p e below s (rm0Q Z i0 i1 i2 h0 n0) room_1.cells room_1.slots (T0.setTop (mkF m 1 #[.val (.int i0), .val (.int i1), .val (.int i2), .unset, .unset, .unset, .unset, .unset, .unset, .unset, .unset, .unset, .unset, .unset, .unset, .unset, .unset] [(.int i2)]))
  refine own_st (X0.ldcInt hx hown (mvT hZ (hw _ (List.mem_of_getElem? (i := 0) rfl))) (g := (mkF m 1 #[.val (.int i0), .val (.int i1), .val (.int i2), .unset, .unset, .unset, .unset, .unset, .unset, .unset, .unset, .unset, .unset, .unset, .unset, .unset, .unset] [(.int i2)])) rfl (hb hby at_1)) ?_
  show Fin1 p e below s (rm0Q Z i0 i1 i2 h0 n0) room_1.cells room_1.slots (T0.setTop (mkF m 3 #[.val (.int i0), .val (.int i1), .val (.int i2), .unset, .unset, .unset, .unset, .unset, .unset, .unset, .unset, .unset, .unset, .unset, .unset, .unset, .unset] [(.int (2147483647 : Int32)), (.int i2)]))
  refine own_st (fun wt wk => XS.iand X0.here hx rfl (hb hby at_3) rfl wk) ?_
  show Fin1 p e below s (rm0Q Z i0 i1 i2 h0 n0) room_1.cells room_1.slots (T0.setTop (mkF m 4 #[.val (.int i0), .val (.int i1), .val (.int i2), .unset, .unset, .unset, .unset, .unset, .unset, .unset, .unset, .unset, .unset, .unset, .unset, .unset, .unset] [(.int (i2 &&& (2147483647 : Int32)))]))
  refine own_st (fun wt wk => XS.iconst X0.here hx rfl (hb hby at_4) wk) ?_
  show Fin1 p e below s (rm0Q Z i0 i1 i2 h0 n0) room_1.cells room_1.slots (T0.setTop (mkF m 5 #[.val (.int i0), .val (.int i1), .val (.int i2), .unset, .unset, .unset, .unset, .unset, .unset, .unset, .unset, .unset, .unset, .unset, .unset, .unset, .unset] [(.int (3 : Int32)), (.int (i2 &&& (2147483647 : Int32)))]))
  refine own_st (fun wt wk => iremM X0 hx rfl (hb hby at_5) rfl (by decide) wk) ?_
  show Fin1 p e below s (rm0Q Z i0 i1 i2 h0 n0) room_1.cells room_1.slots (T0.setTop (mkF m 6 #[.val (.int i0), .val (.int i1), .val (.int i2), .unset, .unset, .unset, .unset, .unset, .unset, .unset, .unset, .unset, .unset, .unset, .unset, .unset, .unset] [(.int ((i2 &&& (2147483647 : Int32)) % (3 : Int32)))]))
  refine own_st (fun wt wk => XS.istoreN X0.here hx rfl (hb hby at_6) rfl (l' := #[.val (.int i0), .val (.int i1), .val (.int i2), .val (.int ((i2 &&& (2147483647 : Int32)) % (3 : Int32))), .unset, .unset, .unset, .unset, .unset, .unset, .unset, .unset, .unset, .unset, .unset, .unset, .unset]) rfl wk) ?_
  show Fin1 p e below s (rm0Q Z i0 i1 i2 h0 n0) room_1.cells room_1.slots (T0.setTop (mkF m 7 #[.val (.int i0), .val (.int i1), .val (.int i2), .val (.int ((i2 &&& (2147483647 : Int32)) % (3 : Int32))), .unset, .unset, .unset, .unset, .unset, .unset, .unset, .unset, .unset, .unset, .unset, .unset, .unset] []))
  refine own_st (fun wt wk => XS.iloadN X0.here hx rfl (hb hby at_7) rfl wk) ?_
  show Fin1 p e below s (rm0Q Z i0 i1 i2 h0 n0) room_1.cells room_1.slots (T0.setTop (mkF m 8 #[.val (.int i0), .val (.int i1), .val (.int i2), .val (.int ((i2 &&& (2147483647 : Int32)) % (3 : Int32))), .unset, .unset, .unset, .unset, .unset, .unset, .unset, .unset, .unset, .unset, .unset, .unset, .unset] [(.int i0)]))
  refine own_st (X0.ldcInt hx hown (mvT hZ (hw _ (List.mem_of_getElem? (i := 0) rfl))) (g := (mkF m 8 #[.val (.int i0), .val (.int i1), .val (.int i2), .val (.int ((i2 &&& (2147483647 : Int32)) % (3 : Int32))), .unset, .unset, .unset, .unset, .unset, .unset, .unset, .unset, .unset, .unset, .unset, .unset, .unset] [(.int i0)])) rfl (hb hby at_8)) ?_
  show Fin1 p e below s (rm0Q Z i0 i1 i2 h0 n0) room_1.cells room_1.slots (T0.setTop (mkF m 10 #[.val (.int i0), .val (.int i1), .val (.int i2), .val (.int ((i2 &&& (2147483647 : Int32)) % (3 : Int32))), .unset, .unset, .unset, .unset, .unset, .unset, .unset, .unset, .unset, .unset, .unset, .unset, .unset] [(.int (2147483647 : Int32)), (.int i0)]))
  refine own_st (fun wt wk => XS.iand X0.here hx rfl (hb hby at_10) rfl wk) ?_
  show Fin1 p e below s (rm0Q Z i0 i1 i2 h0 n0) room_1.cells room_1.slots (T0.setTop (mkF m 11 #[.val (.int i0), .val (.int i1), .val (.int i2), .val (.int ((i2 &&& (2147483647 : Int32)) % (3 : Int32))), .unset, .unset, .unset, .unset, .unset, .unset, .unset, .unset, .unset, .unset, .unset, .unset, .unset] [(.int (i0 &&& (2147483647 : Int32)))]))
  refine own_st (fun wt wk => XS.iconst X0.here hx rfl (hb hby at_11) wk) ?_
  show Fin1 p e below s (rm0Q Z i0 i1 i2 h0 n0) room_1.cells room_1.slots (T0.setTop (mkF m 12 #[.val (.int i0), .val (.int i1), .val (.int i2), .val (.int ((i2 &&& (2147483647 : Int32)) % (3 : Int32))), .unset, .unset, .unset, .unset, .unset, .unset, .unset, .unset, .unset, .unset, .unset, .unset, .unset] [(.int (3 : Int32)), (.int (i0 &&& (2147483647 : Int32)))]))
  refine own_st (fun wt wk => iremM X0 hx rfl (hb hby at_12) rfl (by decide) wk) ?_
  show Fin1 p e below s (rm0Q Z i0 i1 i2 h0 n0) room_1.cells room_1.slots (T0.setTop (mkF m 13 #[.val (.int i0), .val (.int i1), .val (.int i2), .val (.int ((i2 &&& (2147483647 : Int32)) % (3 : Int32))), .unset, .unset, .unset, .unset, .unset, .unset, .unset, .unset, .unset, .unset, .unset, .unset, .unset] [(.int ((i0 &&& (2147483647 : Int32)) % (3 : Int32)))]))
  refine own_st (fun wt wk => XS.istore X0.here hx rfl (hb hby at_13) rfl (l' := #[.val (.int i0), .val (.int i1), .val (.int i2), .val (.int ((i2 &&& (2147483647 : Int32)) % (3 : Int32))), .val (.int ((i0 &&& (2147483647 : Int32)) % (3 : Int32))), .unset, .unset, .unset, .unset, .unset, .unset, .unset, .unset, .unset, .unset, .unset, .unset]) rfl wk) ?_
  show Fin1 p e below s (rm0Q Z i0 i1 i2 h0 n0) room_1.cells room_1.slots (T0.setTop (mkF m 15 #[.val (.int i0), .val (.int i1), .val (.int i2), .val (.int ((i2 &&& (2147483647 : Int32)) % (3 : Int32))), .val (.int ((i0 &&& (2147483647 : Int32)) % (3 : Int32))), .unset, .unset, .unset, .unset, .unset, .unset, .unset, .unset, .unset, .unset, .unset, .unset] []))
  refine own_st (fun wt wk => XS.iload X0.here hx rfl (hb hby at_15) rfl wk) ?_
  show Fin1 p e below s (rm0Q Z i0 i1 i2 h0 n0) room_1.cells room_1.slots (T0.setTop (mkF m 17 #[.val (.int i0), .val (.int i1), .val (.int i2), .val (.int ((i2 &&& (2147483647 : Int32)) % (3 : Int32))), .val (.int ((i0 &&& (2147483647 : Int32)) % (3 : Int32))), .unset, .unset, .unset, .unset, .unset, .unset, .unset, .unset, .unset, .unset, .unset, .unset] [(.int ((i0 &&& (2147483647 : Int32)) % (3 : Int32)))]))
  refine own_st (fun wt wk => XS.iconst X0.here hx rfl (hb hby at_17) wk) ?_
  show Fin1 p e below s (rm0Q Z i0 i1 i2 h0 n0) room_1.cells room_1.slots (T0.setTop (mkF m 18 #[.val (.int i0), .val (.int i1), .val (.int i2), .val (.int ((i2 &&& (2147483647 : Int32)) % (3 : Int32))), .val (.int ((i0 &&& (2147483647 : Int32)) % (3 : Int32))), .unset, .unset, .unset, .unset, .unset, .unset, .unset, .unset, .unset, .unset, .unset, .unset] [(.int (1 : Int32)), (.int ((i0 &&& (2147483647 : Int32)) % (3 : Int32)))]))
  refine own_st (fun wt wk => XS.iadd X0.here hx rfl (hb hby at_18) rfl wk) ?_
  show Fin1 p e below s (rm0Q Z i0 i1 i2 h0 n0) room_1.cells room_1.slots (T0.setTop (mkF m 19 #[.val (.int i0), .val (.int i1), .val (.int i2), .val (.int ((i2 &&& (2147483647 : Int32)) % (3 : Int32))), .val (.int ((i0 &&& (2147483647 : Int32)) % (3 : Int32))), .unset, .unset, .unset, .unset, .unset, .unset, .unset, .unset, .unset, .unset, .unset, .unset] [(.int (((i0 &&& (2147483647 : Int32)) % (3 : Int32)) + (1 : Int32)))]))
  refine own_st (fun wt wk => XS.iloadN X0.here hx rfl (hb hby at_19) rfl wk) ?_
  show Fin1 p e below s (rm0Q Z i0 i1 i2 h0 n0) room_1.cells room_1.slots (T0.setTop (mkF m 20 #[.val (.int i0), .val (.int i1), .val (.int i2), .val (.int ((i2 &&& (2147483647 : Int32)) % (3 : Int32))), .val (.int ((i0 &&& (2147483647 : Int32)) % (3 : Int32))), .unset, .unset, .unset, .unset, .unset, .unset, .unset, .unset, .unset, .unset, .unset, .unset] [(.int i1), (.int (((i0 &&& (2147483647 : Int32)) % (3 : Int32)) + (1 : Int32)))]))
  refine own_st (fun wt wk => XS.iconst X0.here hx rfl (hb hby at_20) wk) ?_
  show Fin1 p e below s (rm0Q Z i0 i1 i2 h0 n0) room_1.cells room_1.slots (T0.setTop (mkF m 21 #[.val (.int i0), .val (.int i1), .val (.int i2), .val (.int ((i2 &&& (2147483647 : Int32)) % (3 : Int32))), .val (.int ((i0 &&& (2147483647 : Int32)) % (3 : Int32))), .unset, .unset, .unset, .unset, .unset, .unset, .unset, .unset, .unset, .unset, .unset, .unset] [(.int (1 : Int32)), (.int i1), (.int (((i0 &&& (2147483647 : Int32)) % (3 : Int32)) + (1 : Int32)))]))
  refine own_st (fun wt wk => XS.iand X0.here hx rfl (hb hby at_21) rfl wk) ?_
  show Fin1 p e below s (rm0Q Z i0 i1 i2 h0 n0) room_1.cells room_1.slots (T0.setTop (mkF m 22 #[.val (.int i0), .val (.int i1), .val (.int i2), .val (.int ((i2 &&& (2147483647 : Int32)) % (3 : Int32))), .val (.int ((i0 &&& (2147483647 : Int32)) % (3 : Int32))), .unset, .unset, .unset, .unset, .unset, .unset, .unset, .unset, .unset, .unset, .unset, .unset] [(.int (i1 &&& (1 : Int32))), (.int (((i0 &&& (2147483647 : Int32)) % (3 : Int32)) + (1 : Int32)))]))
  refine own_st (fun wt wk => XS.iadd X0.here hx rfl (hb hby at_22) rfl wk) ?_
  show Fin1 p e below s (rm0Q Z i0 i1 i2 h0 n0) room_1.cells room_1.slots (T0.setTop (mkF m 23 #[.val (.int i0), .val (.int i1), .val (.int i2), .val (.int ((i2 &&& (2147483647 : Int32)) % (3 : Int32))), .val (.int ((i0 &&& (2147483647 : Int32)) % (3 : Int32))), .unset, .unset, .unset, .unset, .unset, .unset, .unset, .unset, .unset, .unset, .unset, .unset] [(.int ((((i0 &&& (2147483647 : Int32)) % (3 : Int32)) + (1 : Int32)) + (i1 &&& (1 : Int32))))]))
  refine own_st (fun wt wk => XS.iconst X0.here hx rfl (hb hby at_23) wk) ?_
  show Fin1 p e below s (rm0Q Z i0 i1 i2 h0 n0) room_1.cells room_1.slots (T0.setTop (mkF m 24 #[.val (.int i0), .val (.int i1), .val (.int i2), .val (.int ((i2 &&& (2147483647 : Int32)) % (3 : Int32))), .val (.int ((i0 &&& (2147483647 : Int32)) % (3 : Int32))), .unset, .unset, .unset, .unset, .unset, .unset, .unset, .unset, .unset, .unset, .unset, .unset] [(.int (3 : Int32)), (.int ((((i0 &&& (2147483647 : Int32)) % (3 : Int32)) + (1 : Int32)) + (i1 &&& (1 : Int32))))]))
  refine own_st (fun wt wk => iremM X0 hx rfl (hb hby at_24) rfl (by decide) wk) ?_
  show Fin1 p e below s (rm0Q Z i0 i1 i2 h0 n0) room_1.cells room_1.slots (T0.setTop (mkF m 25 #[.val (.int i0), .val (.int i1), .val (.int i2), .val (.int ((i2 &&& (2147483647 : Int32)) % (3 : Int32))), .val (.int ((i0 &&& (2147483647 : Int32)) % (3 : Int32))), .unset, .unset, .unset, .unset, .unset, .unset, .unset, .unset, .unset, .unset, .unset, .unset] [(.int (((((i0 &&& (2147483647 : Int32)) % (3 : Int32)) + (1 : Int32)) + (i1 &&& (1 : Int32))) % (3 : Int32)))]))
  refine own_st (fun wt wk => XS.istore X0.here hx rfl (hb hby at_25) rfl (l' := #[.val (.int i0), .val (.int i1), .val (.int i2), .val (.int ((i2 &&& (2147483647 : Int32)) % (3 : Int32))), .val (.int ((i0 &&& (2147483647 : Int32)) % (3 : Int32))), .val (.int (((((i0 &&& (2147483647 : Int32)) % (3 : Int32)) + (1 : Int32)) + (i1 &&& (1 : Int32))) % (3 : Int32))), .unset, .unset, .unset, .unset, .unset, .unset, .unset, .unset, .unset, .unset, .unset]) rfl wk) ?_
  show Fin1 p e below s (rm0Q Z i0 i1 i2 h0 n0) room_1.cells room_1.slots (T0.setTop (mkF m 27 #[.val (.int i0), .val (.int i1), .val (.int i2), .val (.int ((i2 &&& (2147483647 : Int32)) % (3 : Int32))), .val (.int ((i0 &&& (2147483647 : Int32)) % (3 : Int32))), .val (.int (((((i0 &&& (2147483647 : Int32)) % (3 : Int32)) + (1 : Int32)) + (i1 &&& (1 : Int32))) % (3 : Int32))), .unset, .unset, .unset, .unset, .unset, .unset, .unset, .unset, .unset, .unset, .unset] []))
  suffices K27 : ∀ (g : Int32) (fi : Int32) (se : Int32), (g = 0 ∨ g = 1 ∨ g = 2) → Fin1 p e below s (rm0Q Z i0 i1 i2 h0 n0) room_1.cells room_1.slots (T0.setTop (mkF m 27 #[.val (.int i0), .val (.int i1), .val (.int i2), .val (.int g), .val (.int fi), .val (.int se), .unset, .unset, .unset, .unset, .unset, .unset, .unset, .unset, .unset, .unset, .unset] [])) by
    exact K27 _ _ _ (own_three _)
  intro g fi se hgg
  obtain ⟨T1, h1, X1, e1, E1, A1, D1, -, st1⟩ := newO X0 hx hZ hown (hw _ (List.mem_of_getElem? (i := 1) rfl)) (hw _ (List.mem_of_getElem? (i := 2) rfl)) (hw _ (List.mem_of_getElem? (i := 3) rfl)) e0 (g := (mkF m 27 #[.val (.int i0), .val (.int i1), .val (.int i2), .val (.int g), .val (.int fi), .val (.int se), .unset, .unset, .unset, .unset, .unset, .unset, .unset, .unset, .unset, .unset, .unset] [])) rfl (hb hby at_27) (by decide) (by decide)
  obtain ⟨b1, gz_b1⟩ : ∃ z, z = h0.size := ⟨_, rfl⟩
  rw [← gz_b1] at A1 D1 st1
  have g_b1 : n0 ≤ b1 := Nat.le_trans Z0 (Nat.le_of_eq gz_b1.symm)
  have Z0 := Nat.le_trans Z0 E1.1
  refine own_st st1 ?_
  have E_b1 := A1
  have F_givenBack_b1 : Fld Z h1 b1 "com/example/tfre/tfre/history/Codes" "givenBack" "[I" .null := D1 (Or.inl (hw _ (List.mem_of_getElem? (i := 12) rfl))) (ty := (.array .int)) (by decide)
  have F_givenBackCount_b1 : Fld Z h1 b1 "com/example/tfre/tfre/history/Codes" "givenBackCount" "I" (.int (0 : Int32)) := D1 (Or.inl (hw _ (List.mem_of_getElem? (i := 19) rfl))) (ty := .int) (by decide)
  have F_limit_b1 : Fld Z h1 b1 "com/example/tfre/tfre/history/Codes" "limit" "I" (.int (0 : Int32)) := D1 (Or.inl (hw _ (List.mem_of_getElem? (i := 21) rfl))) (ty := .int) (by decide)
  show Fin1 p e below s (rm0Q Z i0 i1 i2 h0 n0) room_1.cells room_1.slots (T1.setTop (mkF m 30 #[.val (.int i0), .val (.int i1), .val (.int i2), .val (.int g), .val (.int fi), .val (.int se), .unset, .unset, .unset, .unset, .unset, .unset, .unset, .unset, .unset, .unset, .unset] [(.ref b1)]))
  refine own_st (fun wt wk => XS.dup X1.here hx rfl (hb hby at_30) rfl rfl wk) ?_
  show Fin1 p e below s (rm0Q Z i0 i1 i2 h0 n0) room_1.cells room_1.slots (T1.setTop (mkF m 31 #[.val (.int i0), .val (.int i1), .val (.int i2), .val (.int g), .val (.int fi), .val (.int se), .unset, .unset, .unset, .unset, .unset, .unset, .unset, .unset, .unset, .unset, .unset] [(.ref b1), (.ref b1)]))
  obtain ⟨v2, T2, h2, L2, X2, e2, hQ2, st2⟩ := own_special X1 hx hZ hown rfl (hw _ (List.mem_of_getElem? (i := 4) rfl)) (hw _ (List.mem_of_getElem? (i := 5) rfl)) (hw _ (List.mem_of_getElem? (i := 6) rfl)) (hw _ (List.mem_of_getElem? (i := 3) rfl)) (by decide) (a := b1) (rmC l Z a0 hw b1 h1 n0 Z0 g_b1 E_b1 F_givenBack_b1 F_givenBackCount_b1 F_limit_b1) e1 (g := (mkF m 31 #[.val (.int i0), .val (.int i1), .val (.int i2), .val (.int g), .val (.int fi), .val (.int se), .unset, .unset, .unset, .unset, .unset, .unset, .unset, .unset, .unset, .unset, .unset] [(.ref b1), (.ref b1)])) rfl (by rw [hml]; rfl) (argsL := []) (rest := [(.ref b1)]) (lenOf pd_2 rfl) rfl (W := 1) (by show 2 * 0 + _ ≤ _; exact Nat.le_of_eq rfl) (hb hby at_31) (by decide) (by decide) (by decide) (by decide)
  obtain ⟨rfl, N2q, t, kt, szt, K2, Fg, Fc, Fl, V_t⟩ := hQ2
  have N2 := Fr.app N0 N2q
  have ne_b1_t : b1 ≠ t := Nat.ne_of_lt (Nat.lt_of_lt_of_le E_b1.lt szt)
  have g_t : n0 ≤ t := Nat.le_trans Z0 szt
  have Z0 := Nat.le_trans Z0 K2.1
  have E_b1 := E_b1.keep K2
  refine own_st st2 ?_
  show Fin1 p e below s (rm0Q Z i0 i1 i2 h0 n0) room_1.cells room_1.slots (T2.setTop (mkF m 34 #[.val (.int i0), .val (.int i1), .val (.int i2), .val (.int g), .val (.int fi), .val (.int se), .unset, .unset, .unset, .unset, .unset, .unset, .unset, .unset, .unset, .unset, .unset] [(.ref b1)]))
  refine own_st (fun wt wk => XS.astore X2.here hx rfl (hb hby at_34) rfl rfl (l' := #[.val (.int i0), .val (.int i1), .val (.int i2), .val (.int g), .val (.int fi), .val (.int se), .val (.ref b1), .unset, .unset, .unset, .unset, .unset, .unset, .unset, .unset, .unset, .unset]) rfl wk) ?_
  show Fin1 p e below s (rm0Q Z i0 i1 i2 h0 n0) room_1.cells room_1.slots (T2.setTop (mkF m 36 #[.val (.int i0), .val (.int i1), .val (.int i2), .val (.int g), .val (.int fi), .val (.int se), .val (.ref b1), .unset, .unset, .unset, .unset, .unset, .unset, .unset, .unset, .unset, .unset] []))
  refine own_st (fun wt wk => XS.aload X2.here hx rfl (hb hby at_36) rfl rfl wk) ?_
  show Fin1 p e below s (rm0Q Z i0 i1 i2 h0 n0) room_1.cells room_1.slots (T2.setTop (mkF m 38 #[.val (.int i0), .val (.int i1), .val (.int i2), .val (.int g), .val (.int fi), .val (.int se), .val (.ref b1), .unset, .unset, .unset, .unset, .unset, .unset, .unset, .unset, .unset, .unset] [(.ref b1)]))
  obtain ⟨v3, T3, h3, L3, X3, e3, hQ3, st3⟩ := own_virtual X2 hx hZ hown (hw _ (List.mem_of_getElem? (i := 13) rfl)) (hw _ (List.mem_of_getElem? (i := 14) rfl)) (hw _ (List.mem_of_getElem? (i := 16) rfl)) (hw _ (List.mem_of_getElem? (i := 15) rfl)) (hw _ (List.mem_of_getElem? (i := 17) rfl)) (hw _ (List.mem_of_getElem? (i := 3) rfl)) (by decide) (a := b1) E_b1 (rmT0 l Z a0 hw b1 (0 : Int32) (1 : Int32) t h2 n0 Z0 g_b1 E_b1 Fg Fc Fl (by decide)) e2 (g := (mkF m 38 #[.val (.int i0), .val (.int i1), .val (.int i2), .val (.int g), .val (.int fi), .val (.int se), .val (.ref b1), .unset, .unset, .unset, .unset, .unset, .unset, .unset, .unset, .unset, .unset] [(.ref b1)])) rfl (by rw [hml]; rfl) (argsL := []) (rest := []) (lenOf pd_3 rfl) rfl (W := 0) (by show 2 * 0 + _ ≤ _; exact Nat.le_of_eq rfl) (hb hby at_38) (by decide) (by decide) (by decide) (by decide)
  obtain ⟨rfl, N3q, K3, Fg, Fc, Fl⟩ := hQ3
  have N3 := Fr.app N2 N3q
  have Z0 := Nat.le_trans Z0 K3.1
  have E_b1 := E_b1.keep K3
  have V_t := V_t.keep K3 (ninS (Ne.symm ne_b1_t) nin0)
  refine own_st st3 ?_
  show Fin1 p e below s (rm0Q Z i0 i1 i2 h0 n0) room_1.cells room_1.slots (T3.setTop (mkF m 41 #[.val (.int i0), .val (.int i1), .val (.int i2), .val (.int g), .val (.int fi), .val (.int se), .val (.ref b1), .unset, .unset, .unset, .unset, .unset, .unset, .unset, .unset, .unset, .unset] [(.int (0 : Int32))]))
  refine own_st (fun wt wk => XS.istore X3.here hx rfl (hb hby at_41) rfl (l' := #[.val (.int i0), .val (.int i1), .val (.int i2), .val (.int g), .val (.int fi), .val (.int se), .val (.ref b1), .val (.int (0 : Int32)), .unset, .unset, .unset, .unset, .unset, .unset, .unset, .unset, .unset]) rfl wk) ?_
  show Fin1 p e below s (rm0Q Z i0 i1 i2 h0 n0) room_1.cells room_1.slots (T3.setTop (mkF m 43 #[.val (.int i0), .val (.int i1), .val (.int i2), .val (.int g), .val (.int fi), .val (.int se), .val (.ref b1), .val (.int (0 : Int32)), .unset, .unset, .unset, .unset, .unset, .unset, .unset, .unset, .unset] []))
  refine own_st (fun wt wk => XS.aload X3.here hx rfl (hb hby at_43) rfl rfl wk) ?_
  show Fin1 p e below s (rm0Q Z i0 i1 i2 h0 n0) room_1.cells room_1.slots (T3.setTop (mkF m 45 #[.val (.int i0), .val (.int i1), .val (.int i2), .val (.int g), .val (.int fi), .val (.int se), .val (.ref b1), .val (.int (0 : Int32)), .unset, .unset, .unset, .unset, .unset, .unset, .unset, .unset, .unset] [(.ref b1)]))
  obtain ⟨v4, T4, h4, L4, X4, e4, hQ4, st4⟩ := own_virtual X3 hx hZ hown (hw _ (List.mem_of_getElem? (i := 13) rfl)) (hw _ (List.mem_of_getElem? (i := 14) rfl)) (hw _ (List.mem_of_getElem? (i := 16) rfl)) (hw _ (List.mem_of_getElem? (i := 15) rfl)) (hw _ (List.mem_of_getElem? (i := 17) rfl)) (hw _ (List.mem_of_getElem? (i := 3) rfl)) (by decide) (a := b1) E_b1 (rmT0 l Z a0 hw b1 (1 : Int32) (2 : Int32) t h3 n0 Z0 g_b1 E_b1 Fg Fc Fl (by decide)) e3 (g := (mkF m 45 #[.val (.int i0), .val (.int i1), .val (.int i2), .val (.int g), .val (.int fi), .val (.int se), .val (.ref b1), .val (.int (0 : Int32)), .unset, .unset, .unset, .unset, .unset, .unset, .unset, .unset, .unset] [(.ref b1)])) rfl (by rw [hml]; rfl) (argsL := []) (rest := []) (lenOf pd_3 rfl) rfl (W := 0) (by show 2 * 0 + _ ≤ _; exact Nat.le_of_eq rfl) (hb hby at_45) (by decide) (by decide) (by decide) (by decide)
  obtain ⟨rfl, N4q, K4, Fg, Fc, Fl⟩ := hQ4
  have N4 := Fr.app N3 N4q
  have Z0 := Nat.le_trans Z0 K4.1
  have E_b1 := E_b1.keep K4
  have V_t := V_t.keep K4 (ninS (Ne.symm ne_b1_t) nin0)
  refine own_st st4 ?_
  show Fin1 p e below s (rm0Q Z i0 i1 i2 h0 n0) room_1.cells room_1.slots (T4.setTop (mkF m 48 #[.val (.int i0), .val (.int i1), .val (.int i2), .val (.int g), .val (.int fi), .val (.int se), .val (.ref b1), .val (.int (0 : Int32)), .unset, .unset, .unset, .unset, .unset, .unset, .unset, .unset, .unset] [(.int (1 : Int32))]))
  refine own_st (fun wt wk => XS.istore X4.here hx rfl (hb hby at_48) rfl (l' := #[.val (.int i0), .val (.int i1), .val (.int i2), .val (.int g), .val (.int fi), .val (.int se), .val (.ref b1), .val (.int (0 : Int32)), .val (.int (1 : Int32)), .unset, .unset, .unset, .unset, .unset, .unset, .unset, .unset]) rfl wk) ?_
  show Fin1 p e below s (rm0Q Z i0 i1 i2 h0 n0) room_1.cells room_1.slots (T4.setTop (mkF m 50 #[.val (.int i0), .val (.int i1), .val (.int i2), .val (.int g), .val (.int fi), .val (.int se), .val (.ref b1), .val (.int (0 : Int32)), .val (.int (1 : Int32)), .unset, .unset, .unset, .unset, .unset, .unset, .unset, .unset] []))
  refine own_st (fun wt wk => XS.aload X4.here hx rfl (hb hby at_50) rfl rfl wk) ?_
  show Fin1 p e below s (rm0Q Z i0 i1 i2 h0 n0) room_1.cells room_1.slots (T4.setTop (mkF m 52 #[.val (.int i0), .val (.int i1), .val (.int i2), .val (.int g), .val (.int fi), .val (.int se), .val (.ref b1), .val (.int (0 : Int32)), .val (.int (1 : Int32)), .unset, .unset, .unset, .unset, .unset, .unset, .unset, .unset] [(.ref b1)]))
  obtain ⟨v5, T5, h5, L5, X5, e5, hQ5, st5⟩ := own_virtual X4 hx hZ hown (hw _ (List.mem_of_getElem? (i := 13) rfl)) (hw _ (List.mem_of_getElem? (i := 14) rfl)) (hw _ (List.mem_of_getElem? (i := 16) rfl)) (hw _ (List.mem_of_getElem? (i := 15) rfl)) (hw _ (List.mem_of_getElem? (i := 17) rfl)) (hw _ (List.mem_of_getElem? (i := 3) rfl)) (by decide) (a := b1) E_b1 (rmT0 l Z a0 hw b1 (2 : Int32) (3 : Int32) t h4 n0 Z0 g_b1 E_b1 Fg Fc Fl (by decide)) e4 (g := (mkF m 52 #[.val (.int i0), .val (.int i1), .val (.int i2), .val (.int g), .val (.int fi), .val (.int se), .val (.ref b1), .val (.int (0 : Int32)), .val (.int (1 : Int32)), .unset, .unset, .unset, .unset, .unset, .unset, .unset, .unset] [(.ref b1)])) rfl (by rw [hml]; rfl) (argsL := []) (rest := []) (lenOf pd_3 rfl) rfl (W := 0) (by show 2 * 0 + _ ≤ _; exact Nat.le_of_eq rfl) (hb hby at_52) (by decide) (by decide) (by decide) (by decide)
  obtain ⟨rfl, N5q, K5, Fg, Fc, Fl⟩ := hQ5
  have N5 := Fr.app N4 N5q
  have Z0 := Nat.le_trans Z0 K5.1
  have E_b1 := E_b1.keep K5
  have V_t := V_t.keep K5 (ninS (Ne.symm ne_b1_t) nin0)
  refine own_st st5 ?_
  show Fin1 p e below s (rm0Q Z i0 i1 i2 h0 n0) room_1.cells room_1.slots (T5.setTop (mkF m 55 #[.val (.int i0), .val (.int i1), .val (.int i2), .val (.int g), .val (.int fi), .val (.int se), .val (.ref b1), .val (.int (0 : Int32)), .val (.int (1 : Int32)), .unset, .unset, .unset, .unset, .unset, .unset, .unset, .unset] [(.int (2 : Int32))]))
  refine own_st (fun wt wk => XS.istore X5.here hx rfl (hb hby at_55) rfl (l' := #[.val (.int i0), .val (.int i1), .val (.int i2), .val (.int g), .val (.int fi), .val (.int se), .val (.ref b1), .val (.int (0 : Int32)), .val (.int (1 : Int32)), .val (.int (2 : Int32)), .unset, .unset, .unset, .unset, .unset, .unset, .unset]) rfl wk) ?_
  show Fin1 p e below s (rm0Q Z i0 i1 i2 h0 n0) room_1.cells room_1.slots (T5.setTop (mkF m 57 #[.val (.int i0), .val (.int i1), .val (.int i2), .val (.int g), .val (.int fi), .val (.int se), .val (.ref b1), .val (.int (0 : Int32)), .val (.int (1 : Int32)), .val (.int (2 : Int32)), .unset, .unset, .unset, .unset, .unset, .unset, .unset] []))
  refine own_st (fun wt wk => XS.iload X5.here hx rfl (hb hby at_57) rfl wk) ?_
  show Fin1 p e below s (rm0Q Z i0 i1 i2 h0 n0) room_1.cells room_1.slots (T5.setTop (mkF m 59 #[.val (.int i0), .val (.int i1), .val (.int i2), .val (.int g), .val (.int fi), .val (.int se), .val (.ref b1), .val (.int (0 : Int32)), .val (.int (1 : Int32)), .val (.int (2 : Int32)), .unset, .unset, .unset, .unset, .unset, .unset, .unset] [(.int (0 : Int32))]))
  refine own_st (fun wt wk => XS.ifNo X5.here hx rfl (hb hby at_59) rfl ((if0 _ _).trans (teq (by decide)).2) wk) ?_
  show Fin1 p e below s (rm0Q Z i0 i1 i2 h0 n0) room_1.cells room_1.slots (T5.setTop (mkF m 62 #[.val (.int i0), .val (.int i1), .val (.int i2), .val (.int g), .val (.int fi), .val (.int se), .val (.ref b1), .val (.int (0 : Int32)), .val (.int (1 : Int32)), .val (.int (2 : Int32)), .unset, .unset, .unset, .unset, .unset, .unset, .unset] []))
  refine own_st (fun wt wk => XS.iload X5.here hx rfl (hb hby at_62) rfl wk) ?_
  show Fin1 p e below s (rm0Q Z i0 i1 i2 h0 n0) room_1.cells room_1.slots (T5.setTop (mkF m 64 #[.val (.int i0), .val (.int i1), .val (.int i2), .val (.int g), .val (.int fi), .val (.int se), .val (.ref b1), .val (.int (0 : Int32)), .val (.int (1 : Int32)), .val (.int (2 : Int32)), .unset, .unset, .unset, .unset, .unset, .unset, .unset] [(.int (1 : Int32))]))
  refine own_st (fun wt wk => XS.iconst X5.here hx rfl (hb hby at_64) wk) ?_
  show Fin1 p e below s (rm0Q Z i0 i1 i2 h0 n0) room_1.cells room_1.slots (T5.setTop (mkF m 65 #[.val (.int i0), .val (.int i1), .val (.int i2), .val (.int g), .val (.int fi), .val (.int se), .val (.ref b1), .val (.int (0 : Int32)), .val (.int (1 : Int32)), .val (.int (2 : Int32)), .unset, .unset, .unset, .unset, .unset, .unset, .unset] [(.int (1 : Int32)), (.int (1 : Int32))]))
  refine own_st (fun wt wk => XS.icmpNo X5.here hx rfl (hb hby at_65) rfl (teq (by decide)).2 wk) ?_
  show Fin1 p e below s (rm0Q Z i0 i1 i2 h0 n0) room_1.cells room_1.slots (T5.setTop (mkF m 68 #[.val (.int i0), .val (.int i1), .val (.int i2), .val (.int g), .val (.int fi), .val (.int se), .val (.ref b1), .val (.int (0 : Int32)), .val (.int (1 : Int32)), .val (.int (2 : Int32)), .unset, .unset, .unset, .unset, .unset, .unset, .unset] []))
  refine own_st (fun wt wk => XS.iload X5.here hx rfl (hb hby at_68) rfl wk) ?_
  show Fin1 p e below s (rm0Q Z i0 i1 i2 h0 n0) room_1.cells room_1.slots (T5.setTop (mkF m 70 #[.val (.int i0), .val (.int i1), .val (.int i2), .val (.int g), .val (.int fi), .val (.int se), .val (.ref b1), .val (.int (0 : Int32)), .val (.int (1 : Int32)), .val (.int (2 : Int32)), .unset, .unset, .unset, .unset, .unset, .unset, .unset] [(.int (2 : Int32))]))
  refine own_st (fun wt wk => XS.iconst X5.here hx rfl (hb hby at_70) wk) ?_
  show Fin1 p e below s (rm0Q Z i0 i1 i2 h0 n0) room_1.cells room_1.slots (T5.setTop (mkF m 71 #[.val (.int i0), .val (.int i1), .val (.int i2), .val (.int g), .val (.int fi), .val (.int se), .val (.ref b1), .val (.int (0 : Int32)), .val (.int (1 : Int32)), .val (.int (2 : Int32)), .unset, .unset, .unset, .unset, .unset, .unset, .unset] [(.int (2 : Int32)), (.int (2 : Int32))]))
  refine own_st (fun wt wk => XS.icmpNo X5.here hx rfl (hb hby at_71) rfl (teq (by decide)).2 wk) ?_
  show Fin1 p e below s (rm0Q Z i0 i1 i2 h0 n0) room_1.cells room_1.slots (T5.setTop (mkF m 74 #[.val (.int i0), .val (.int i1), .val (.int i2), .val (.int g), .val (.int fi), .val (.int se), .val (.ref b1), .val (.int (0 : Int32)), .val (.int (1 : Int32)), .val (.int (2 : Int32)), .unset, .unset, .unset, .unset, .unset, .unset, .unset] []))
  refine own_st (fun wt wk => XS.iconst X5.here hx rfl (hb hby at_74) wk) ?_
  show Fin1 p e below s (rm0Q Z i0 i1 i2 h0 n0) room_1.cells room_1.slots (T5.setTop (mkF m 75 #[.val (.int i0), .val (.int i1), .val (.int i2), .val (.int g), .val (.int fi), .val (.int se), .val (.ref b1), .val (.int (0 : Int32)), .val (.int (1 : Int32)), .val (.int (2 : Int32)), .unset, .unset, .unset, .unset, .unset, .unset, .unset] [(.int (1 : Int32))]))
  refine own_st (fun wt wk => XS.goto X5.here hx rfl (pc0 := 75) (pc' := 79) rfl (hb hby at_75) (by decide) (by decide) wk) ?_
  show Fin1 p e below s (rm0Q Z i0 i1 i2 h0 n0) room_1.cells room_1.slots (T5.setTop (mkF m 79 #[.val (.int i0), .val (.int i1), .val (.int i2), .val (.int g), .val (.int fi), .val (.int se), .val (.ref b1), .val (.int (0 : Int32)), .val (.int (1 : Int32)), .val (.int (2 : Int32)), .unset, .unset, .unset, .unset, .unset, .unset, .unset] [(.int (1 : Int32))]))
  refine own_st (fun wt wk => XS.istore X5.here hx rfl (hb hby at_79) rfl (l' := #[.val (.int i0), .val (.int i1), .val (.int i2), .val (.int g), .val (.int fi), .val (.int se), .val (.ref b1), .val (.int (0 : Int32)), .val (.int (1 : Int32)), .val (.int (2 : Int32)), .val (.int (1 : Int32)), .unset, .unset, .unset, .unset, .unset, .unset]) rfl wk) ?_
  show Fin1 p e below s (rm0Q Z i0 i1 i2 h0 n0) room_1.cells room_1.slots (T5.setTop (mkF m 81 #[.val (.int i0), .val (.int i1), .val (.int i2), .val (.int g), .val (.int fi), .val (.int se), .val (.ref b1), .val (.int (0 : Int32)), .val (.int (1 : Int32)), .val (.int (2 : Int32)), .val (.int (1 : Int32)), .unset, .unset, .unset, .unset, .unset, .unset] []))
  refine own_st (fun wt wk => XS.iloadN X5.here hx rfl (hb hby at_81) rfl wk) ?_
  show Fin1 p e below s (rm0Q Z i0 i1 i2 h0 n0) room_1.cells room_1.slots (T5.setTop (mkF m 82 #[.val (.int i0), .val (.int i1), .val (.int i2), .val (.int g), .val (.int fi), .val (.int se), .val (.ref b1), .val (.int (0 : Int32)), .val (.int (1 : Int32)), .val (.int (2 : Int32)), .val (.int (1 : Int32)), .unset, .unset, .unset, .unset, .unset, .unset] [(.int g)]))
  refine own_st (fun wt wk => XS.iconst X5.here hx rfl (hb hby at_82) wk) ?_
  show Fin1 p e below s (rm0Q Z i0 i1 i2 h0 n0) room_1.cells room_1.slots (T5.setTop (mkF m 83 #[.val (.int i0), .val (.int i1), .val (.int i2), .val (.int g), .val (.int fi), .val (.int se), .val (.ref b1), .val (.int (0 : Int32)), .val (.int (1 : Int32)), .val (.int (2 : Int32)), .val (.int (1 : Int32)), .unset, .unset, .unset, .unset, .unset, .unset] [(.int (1 : Int32)), (.int g)]))
  rcases hgg with rfl | rfl | rfl
  · show Fin1 p e below s (rm0Q Z i0 i1 i2 h0 n0) room_1.cells room_1.slots (T5.setTop (mkF m 83 #[.val (.int i0), .val (.int i1), .val (.int i2), .val (.int (0 : Int32)), .val (.int fi), .val (.int se), .val (.ref b1), .val (.int (0 : Int32)), .val (.int (1 : Int32)), .val (.int (2 : Int32)), .val (.int (1 : Int32)), .unset, .unset, .unset, .unset, .unset, .unset] [(.int (1 : Int32)), (.int (0 : Int32))]))
    refine own_st (fun wt wk => XS.icmpYes X5.here hx rfl (pc0 := 83) (pc' := 93) rfl (hb hby at_83) rfl (tlt (by decide)).1 (by decide) (by decide) wk) ?_
    show Fin1 p e below s (rm0Q Z i0 i1 i2 h0 n0) room_1.cells room_1.slots (T5.setTop (mkF m 93 #[.val (.int i0), .val (.int i1), .val (.int i2), .val (.int (0 : Int32)), .val (.int fi), .val (.int se), .val (.ref b1), .val (.int (0 : Int32)), .val (.int (1 : Int32)), .val (.int (2 : Int32)), .val (.int (1 : Int32)), .unset, .unset, .unset, .unset, .unset, .unset] []))
    refine own_st (fun wt wk => XS.iloadN X5.here hx rfl (hb hby at_93) rfl wk) ?_
    show Fin1 p e below s (rm0Q Z i0 i1 i2 h0 n0) room_1.cells room_1.slots (T5.setTop (mkF m 94 #[.val (.int i0), .val (.int i1), .val (.int i2), .val (.int (0 : Int32)), .val (.int fi), .val (.int se), .val (.ref b1), .val (.int (0 : Int32)), .val (.int (1 : Int32)), .val (.int (2 : Int32)), .val (.int (1 : Int32)), .unset, .unset, .unset, .unset, .unset, .unset] [(.int (0 : Int32))]))
    refine own_st (fun wt wk => XS.iconst X5.here hx rfl (hb hby at_94) wk) ?_
    show Fin1 p e below s (rm0Q Z i0 i1 i2 h0 n0) room_1.cells room_1.slots (T5.setTop (mkF m 95 #[.val (.int i0), .val (.int i1), .val (.int i2), .val (.int (0 : Int32)), .val (.int fi), .val (.int se), .val (.ref b1), .val (.int (0 : Int32)), .val (.int (1 : Int32)), .val (.int (2 : Int32)), .val (.int (1 : Int32)), .unset, .unset, .unset, .unset, .unset, .unset] [(.int (2 : Int32)), (.int (0 : Int32))]))
    refine own_st (fun wt wk => XS.icmpYes X5.here hx rfl (pc0 := 95) (pc' := 105) rfl (hb hby at_95) rfl (tlt (by decide)).1 (by decide) (by decide) wk) ?_
    show Fin1 p e below s (rm0Q Z i0 i1 i2 h0 n0) room_1.cells room_1.slots (T5.setTop (mkF m 105 #[.val (.int i0), .val (.int i1), .val (.int i2), .val (.int (0 : Int32)), .val (.int fi), .val (.int se), .val (.ref b1), .val (.int (0 : Int32)), .val (.int (1 : Int32)), .val (.int (2 : Int32)), .val (.int (1 : Int32)), .unset, .unset, .unset, .unset, .unset, .unset] []))
    refine own_st (fun wt wk => XS.aload X5.here hx rfl (hb hby at_105) rfl rfl wk) ?_
    show Fin1 p e below s (rm0Q Z i0 i1 i2 h0 n0) room_1.cells room_1.slots (T5.setTop (mkF m 107 #[.val (.int i0), .val (.int i1), .val (.int i2), .val (.int (0 : Int32)), .val (.int fi), .val (.int se), .val (.ref b1), .val (.int (0 : Int32)), .val (.int (1 : Int32)), .val (.int (2 : Int32)), .val (.int (1 : Int32)), .unset, .unset, .unset, .unset, .unset, .unset] [(.ref b1)]))
    obtain ⟨v6, T6, h6, L6, X6, e6, hQ6, st6⟩ := own_virtual X5 hx hZ hown (hw _ (List.mem_of_getElem? (i := 13) rfl)) (hw _ (List.mem_of_getElem? (i := 14) rfl)) (hw _ (List.mem_of_getElem? (i := 16) rfl)) (hw _ (List.mem_of_getElem? (i := 15) rfl)) (hw _ (List.mem_of_getElem? (i := 17) rfl)) (hw _ (List.mem_of_getElem? (i := 3) rfl)) (by decide) (a := b1) E_b1 (rmT0 l Z a0 hw b1 (3 : Int32) (4 : Int32) t h5 n0 Z0 g_b1 E_b1 Fg Fc Fl (by decide)) e5 (g := (mkF m 107 #[.val (.int i0), .val (.int i1), .val (.int i2), .val (.int (0 : Int32)), .val (.int fi), .val (.int se), .val (.ref b1), .val (.int (0 : Int32)), .val (.int (1 : Int32)), .val (.int (2 : Int32)), .val (.int (1 : Int32)), .unset, .unset, .unset, .unset, .unset, .unset] [(.ref b1)])) rfl (by rw [hml]; rfl) (argsL := []) (rest := []) (lenOf pd_3 rfl) rfl (W := 0) (by show 2 * 0 + _ ≤ _; exact Nat.le_of_eq rfl) (hb hby at_107) (by decide) (by decide) (by decide) (by decide)
    obtain ⟨rfl, N6q, K6, Fg, Fc, Fl⟩ := hQ6
    have N6 := Fr.app N5 N6q
    have Z0 := Nat.le_trans Z0 K6.1
    have E_b1 := E_b1.keep K6
    have V_t := V_t.keep K6 (ninS (Ne.symm ne_b1_t) nin0)
    refine own_st st6 ?_
    show Fin1 p e below s (rm0Q Z i0 i1 i2 h0 n0) room_1.cells room_1.slots (T6.setTop (mkF m 110 #[.val (.int i0), .val (.int i1), .val (.int i2), .val (.int (0 : Int32)), .val (.int fi), .val (.int se), .val (.ref b1), .val (.int (0 : Int32)), .val (.int (1 : Int32)), .val (.int (2 : Int32)), .val (.int (1 : Int32)), .unset, .unset, .unset, .unset, .unset, .unset] [(.int (3 : Int32))]))
    refine own_st (fun wt wk => XS.istore X6.here hx rfl (hb hby at_110) rfl (l' := #[.val (.int i0), .val (.int i1), .val (.int i2), .val (.int (0 : Int32)), .val (.int fi), .val (.int se), .val (.ref b1), .val (.int (0 : Int32)), .val (.int (1 : Int32)), .val (.int (2 : Int32)), .val (.int (1 : Int32)), .val (.int (3 : Int32)), .unset, .unset, .unset, .unset, .unset]) rfl wk) ?_
    show Fin1 p e below s (rm0Q Z i0 i1 i2 h0 n0) room_1.cells room_1.slots (T6.setTop (mkF m 112 #[.val (.int i0), .val (.int i1), .val (.int i2), .val (.int (0 : Int32)), .val (.int fi), .val (.int se), .val (.ref b1), .val (.int (0 : Int32)), .val (.int (1 : Int32)), .val (.int (2 : Int32)), .val (.int (1 : Int32)), .val (.int (3 : Int32)), .unset, .unset, .unset, .unset, .unset] []))
    refine own_st (fun wt wk => XS.aload X6.here hx rfl (hb hby at_112) rfl rfl wk) ?_
    show Fin1 p e below s (rm0Q Z i0 i1 i2 h0 n0) room_1.cells room_1.slots (T6.setTop (mkF m 114 #[.val (.int i0), .val (.int i1), .val (.int i2), .val (.int (0 : Int32)), .val (.int fi), .val (.int se), .val (.ref b1), .val (.int (0 : Int32)), .val (.int (1 : Int32)), .val (.int (2 : Int32)), .val (.int (1 : Int32)), .val (.int (3 : Int32)), .unset, .unset, .unset, .unset, .unset] [(.ref b1)]))
    obtain ⟨v7, T7, h7, L7, X7, e7, hQ7, st7⟩ := own_virtual X6 hx hZ hown (hw _ (List.mem_of_getElem? (i := 13) rfl)) (hw _ (List.mem_of_getElem? (i := 14) rfl)) (hw _ (List.mem_of_getElem? (i := 16) rfl)) (hw _ (List.mem_of_getElem? (i := 15) rfl)) (hw _ (List.mem_of_getElem? (i := 17) rfl)) (hw _ (List.mem_of_getElem? (i := 3) rfl)) (by decide) (a := b1) E_b1 (rmT0 l Z a0 hw b1 (4 : Int32) (5 : Int32) t h6 n0 Z0 g_b1 E_b1 Fg Fc Fl (by decide)) e6 (g := (mkF m 114 #[.val (.int i0), .val (.int i1), .val (.int i2), .val (.int (0 : Int32)), .val (.int fi), .val (.int se), .val (.ref b1), .val (.int (0 : Int32)), .val (.int (1 : Int32)), .val (.int (2 : Int32)), .val (.int (1 : Int32)), .val (.int (3 : Int32)), .unset, .unset, .unset, .unset, .unset] [(.ref b1)])) rfl (by rw [hml]; rfl) (argsL := []) (rest := []) (lenOf pd_3 rfl) rfl (W := 0) (by show 2 * 0 + _ ≤ _; exact Nat.le_of_eq rfl) (hb hby at_114) (by decide) (by decide) (by decide) (by decide)
    obtain ⟨rfl, N7q, K7, Fg, Fc, Fl⟩ := hQ7
    have N7 := Fr.app N6 N7q
    have Z0 := Nat.le_trans Z0 K7.1
    have E_b1 := E_b1.keep K7
    have V_t := V_t.keep K7 (ninS (Ne.symm ne_b1_t) nin0)
    refine own_st st7 ?_
    show Fin1 p e below s (rm0Q Z i0 i1 i2 h0 n0) room_1.cells room_1.slots (T7.setTop (mkF m 117 #[.val (.int i0), .val (.int i1), .val (.int i2), .val (.int (0 : Int32)), .val (.int fi), .val (.int se), .val (.ref b1), .val (.int (0 : Int32)), .val (.int (1 : Int32)), .val (.int (2 : Int32)), .val (.int (1 : Int32)), .val (.int (3 : Int32)), .unset, .unset, .unset, .unset, .unset] [(.int (4 : Int32))]))
    refine own_st (fun wt wk => XS.istore X7.here hx rfl (hb hby at_117) rfl (l' := #[.val (.int i0), .val (.int i1), .val (.int i2), .val (.int (0 : Int32)), .val (.int fi), .val (.int se), .val (.ref b1), .val (.int (0 : Int32)), .val (.int (1 : Int32)), .val (.int (2 : Int32)), .val (.int (1 : Int32)), .val (.int (3 : Int32)), .val (.int (4 : Int32)), .unset, .unset, .unset, .unset]) rfl wk) ?_
    show Fin1 p e below s (rm0Q Z i0 i1 i2 h0 n0) room_1.cells room_1.slots (T7.setTop (mkF m 119 #[.val (.int i0), .val (.int i1), .val (.int i2), .val (.int (0 : Int32)), .val (.int fi), .val (.int se), .val (.ref b1), .val (.int (0 : Int32)), .val (.int (1 : Int32)), .val (.int (2 : Int32)), .val (.int (1 : Int32)), .val (.int (3 : Int32)), .val (.int (4 : Int32)), .unset, .unset, .unset, .unset] []))
    refine own_st (fun wt wk => XS.aload X7.here hx rfl (hb hby at_119) rfl rfl wk) ?_
    show Fin1 p e below s (rm0Q Z i0 i1 i2 h0 n0) room_1.cells room_1.slots (T7.setTop (mkF m 121 #[.val (.int i0), .val (.int i1), .val (.int i2), .val (.int (0 : Int32)), .val (.int fi), .val (.int se), .val (.ref b1), .val (.int (0 : Int32)), .val (.int (1 : Int32)), .val (.int (2 : Int32)), .val (.int (1 : Int32)), .val (.int (3 : Int32)), .val (.int (4 : Int32)), .unset, .unset, .unset, .unset] [(.ref b1)]))
    obtain ⟨v8, T8, h8, L8, X8, e8, hQ8, st8⟩ := own_virtual X7 hx hZ hown (hw _ (List.mem_of_getElem? (i := 13) rfl)) (hw _ (List.mem_of_getElem? (i := 14) rfl)) (hw _ (List.mem_of_getElem? (i := 16) rfl)) (hw _ (List.mem_of_getElem? (i := 15) rfl)) (hw _ (List.mem_of_getElem? (i := 17) rfl)) (hw _ (List.mem_of_getElem? (i := 3) rfl)) (by decide) (a := b1) E_b1 (rmT0 l Z a0 hw b1 (5 : Int32) (6 : Int32) t h7 n0 Z0 g_b1 E_b1 Fg Fc Fl (by decide)) e7 (g := (mkF m 121 #[.val (.int i0), .val (.int i1), .val (.int i2), .val (.int (0 : Int32)), .val (.int fi), .val (.int se), .val (.ref b1), .val (.int (0 : Int32)), .val (.int (1 : Int32)), .val (.int (2 : Int32)), .val (.int (1 : Int32)), .val (.int (3 : Int32)), .val (.int (4 : Int32)), .unset, .unset, .unset, .unset] [(.ref b1)])) rfl (by rw [hml]; rfl) (argsL := []) (rest := []) (lenOf pd_3 rfl) rfl (W := 0) (by show 2 * 0 + _ ≤ _; exact Nat.le_of_eq rfl) (hb hby at_121) (by decide) (by decide) (by decide) (by decide)
    obtain ⟨rfl, N8q, K8, Fg, Fc, Fl⟩ := hQ8
    have N8 := Fr.app N7 N8q
    have Z0 := Nat.le_trans Z0 K8.1
    have E_b1 := E_b1.keep K8
    have V_t := V_t.keep K8 (ninS (Ne.symm ne_b1_t) nin0)
    refine own_st st8 ?_
    show Fin1 p e below s (rm0Q Z i0 i1 i2 h0 n0) room_1.cells room_1.slots (T8.setTop (mkF m 124 #[.val (.int i0), .val (.int i1), .val (.int i2), .val (.int (0 : Int32)), .val (.int fi), .val (.int se), .val (.ref b1), .val (.int (0 : Int32)), .val (.int (1 : Int32)), .val (.int (2 : Int32)), .val (.int (1 : Int32)), .val (.int (3 : Int32)), .val (.int (4 : Int32)), .unset, .unset, .unset, .unset] [(.int (5 : Int32))]))
    refine own_st (fun wt wk => XS.istore X8.here hx rfl (hb hby at_124) rfl (l' := #[.val (.int i0), .val (.int i1), .val (.int i2), .val (.int (0 : Int32)), .val (.int fi), .val (.int se), .val (.ref b1), .val (.int (0 : Int32)), .val (.int (1 : Int32)), .val (.int (2 : Int32)), .val (.int (1 : Int32)), .val (.int (3 : Int32)), .val (.int (4 : Int32)), .val (.int (5 : Int32)), .unset, .unset, .unset]) rfl wk) ?_
    show Fin1 p e below s (rm0Q Z i0 i1 i2 h0 n0) room_1.cells room_1.slots (T8.setTop (mkF m 126 #[.val (.int i0), .val (.int i1), .val (.int i2), .val (.int (0 : Int32)), .val (.int fi), .val (.int se), .val (.ref b1), .val (.int (0 : Int32)), .val (.int (1 : Int32)), .val (.int (2 : Int32)), .val (.int (1 : Int32)), .val (.int (3 : Int32)), .val (.int (4 : Int32)), .val (.int (5 : Int32)), .unset, .unset, .unset] []))
    refine own_st (fun wt wk => XS.iloadN X8.here hx rfl (hb hby at_126) rfl wk) ?_
    show Fin1 p e below s (rm0Q Z i0 i1 i2 h0 n0) room_1.cells room_1.slots (T8.setTop (mkF m 127 #[.val (.int i0), .val (.int i1), .val (.int i2), .val (.int (0 : Int32)), .val (.int fi), .val (.int se), .val (.ref b1), .val (.int (0 : Int32)), .val (.int (1 : Int32)), .val (.int (2 : Int32)), .val (.int (1 : Int32)), .val (.int (3 : Int32)), .val (.int (4 : Int32)), .val (.int (5 : Int32)), .unset, .unset, .unset] [(.int (0 : Int32))]))
    refine own_st (fun wt wk => XS.iconst X8.here hx rfl (hb hby at_127) wk) ?_
    show Fin1 p e below s (rm0Q Z i0 i1 i2 h0 n0) room_1.cells room_1.slots (T8.setTop (mkF m 128 #[.val (.int i0), .val (.int i1), .val (.int i2), .val (.int (0 : Int32)), .val (.int fi), .val (.int se), .val (.ref b1), .val (.int (0 : Int32)), .val (.int (1 : Int32)), .val (.int (2 : Int32)), .val (.int (1 : Int32)), .val (.int (3 : Int32)), .val (.int (4 : Int32)), .val (.int (5 : Int32)), .unset, .unset, .unset] [(.int (2 : Int32)), (.int (0 : Int32))]))
    refine own_st (fun wt wk => XS.icmpYes X8.here hx rfl (pc0 := 128) (pc' := 145) rfl (hb hby at_128) rfl (feq (by decide)).2 (by decide) (by decide) wk) ?_
    show Fin1 p e below s (rm0Q Z i0 i1 i2 h0 n0) room_1.cells room_1.slots (T8.setTop (mkF m 145 #[.val (.int i0), .val (.int i1), .val (.int i2), .val (.int (0 : Int32)), .val (.int fi), .val (.int se), .val (.ref b1), .val (.int (0 : Int32)), .val (.int (1 : Int32)), .val (.int (2 : Int32)), .val (.int (1 : Int32)), .val (.int (3 : Int32)), .val (.int (4 : Int32)), .val (.int (5 : Int32)), .unset, .unset, .unset] []))
    refine own_st (fun wt wk => XS.iloadN X8.here hx rfl (hb hby at_145) rfl wk) ?_
    show Fin1 p e below s (rm0Q Z i0 i1 i2 h0 n0) room_1.cells room_1.slots (T8.setTop (mkF m 146 #[.val (.int i0), .val (.int i1), .val (.int i2), .val (.int (0 : Int32)), .val (.int fi), .val (.int se), .val (.ref b1), .val (.int (0 : Int32)), .val (.int (1 : Int32)), .val (.int (2 : Int32)), .val (.int (1 : Int32)), .val (.int (3 : Int32)), .val (.int (4 : Int32)), .val (.int (5 : Int32)), .unset, .unset, .unset] [(.int (0 : Int32))]))
    refine own_st (fun wt wk => XS.iconst X8.here hx rfl (hb hby at_146) wk) ?_
    show Fin1 p e below s (rm0Q Z i0 i1 i2 h0 n0) room_1.cells room_1.slots (T8.setTop (mkF m 147 #[.val (.int i0), .val (.int i1), .val (.int i2), .val (.int (0 : Int32)), .val (.int fi), .val (.int se), .val (.ref b1), .val (.int (0 : Int32)), .val (.int (1 : Int32)), .val (.int (2 : Int32)), .val (.int (1 : Int32)), .val (.int (3 : Int32)), .val (.int (4 : Int32)), .val (.int (5 : Int32)), .unset, .unset, .unset] [(.int (1 : Int32)), (.int (0 : Int32))]))
    refine own_st (fun wt wk => XS.icmpYes X8.here hx rfl (pc0 := 147) (pc' := 163) rfl (hb hby at_147) rfl (feq (by decide)).2 (by decide) (by decide) wk) ?_
    show Fin1 p e below s (rm0Q Z i0 i1 i2 h0 n0) room_1.cells room_1.slots (T8.setTop (mkF m 163 #[.val (.int i0), .val (.int i1), .val (.int i2), .val (.int (0 : Int32)), .val (.int fi), .val (.int se), .val (.ref b1), .val (.int (0 : Int32)), .val (.int (1 : Int32)), .val (.int (2 : Int32)), .val (.int (1 : Int32)), .val (.int (3 : Int32)), .val (.int (4 : Int32)), .val (.int (5 : Int32)), .unset, .unset, .unset] []))
    refine own_st (fun wt wk => XS.iconst X8.here hx rfl (hb hby at_163) wk) ?_
    show Fin1 p e below s (rm0Q Z i0 i1 i2 h0 n0) room_1.cells room_1.slots (T8.setTop (mkF m 164 #[.val (.int i0), .val (.int i1), .val (.int i2), .val (.int (0 : Int32)), .val (.int fi), .val (.int se), .val (.ref b1), .val (.int (0 : Int32)), .val (.int (1 : Int32)), .val (.int (2 : Int32)), .val (.int (1 : Int32)), .val (.int (3 : Int32)), .val (.int (4 : Int32)), .val (.int (5 : Int32)), .unset, .unset, .unset] [(.int (3 : Int32))]))
    refine own_st (fun wt wk => XS.istore X8.here hx rfl (hb hby at_164) rfl (l' := #[.val (.int i0), .val (.int i1), .val (.int i2), .val (.int (0 : Int32)), .val (.int fi), .val (.int se), .val (.ref b1), .val (.int (0 : Int32)), .val (.int (1 : Int32)), .val (.int (2 : Int32)), .val (.int (1 : Int32)), .val (.int (3 : Int32)), .val (.int (4 : Int32)), .val (.int (5 : Int32)), .val (.int (3 : Int32)), .unset, .unset]) rfl wk) ?_
    show Fin1 p e below s (rm0Q Z i0 i1 i2 h0 n0) room_1.cells room_1.slots (T8.setTop (mkF m 166 #[.val (.int i0), .val (.int i1), .val (.int i2), .val (.int (0 : Int32)), .val (.int fi), .val (.int se), .val (.ref b1), .val (.int (0 : Int32)), .val (.int (1 : Int32)), .val (.int (2 : Int32)), .val (.int (1 : Int32)), .val (.int (3 : Int32)), .val (.int (4 : Int32)), .val (.int (5 : Int32)), .val (.int (3 : Int32)), .unset, .unset] []))
    refine own_st (fun wt wk => XS.iconst X8.here hx rfl (hb hby at_166) wk) ?_
    show Fin1 p e below s (rm0Q Z i0 i1 i2 h0 n0) room_1.cells room_1.slots (T8.setTop (mkF m 167 #[.val (.int i0), .val (.int i1), .val (.int i2), .val (.int (0 : Int32)), .val (.int fi), .val (.int se), .val (.ref b1), .val (.int (0 : Int32)), .val (.int (1 : Int32)), .val (.int (2 : Int32)), .val (.int (1 : Int32)), .val (.int (3 : Int32)), .val (.int (4 : Int32)), .val (.int (5 : Int32)), .val (.int (3 : Int32)), .unset, .unset] [(.int (4 : Int32))]))
    refine own_st (fun wt wk => XS.istore X8.here hx rfl (hb hby at_167) rfl (l' := #[.val (.int i0), .val (.int i1), .val (.int i2), .val (.int (0 : Int32)), .val (.int fi), .val (.int se), .val (.ref b1), .val (.int (0 : Int32)), .val (.int (1 : Int32)), .val (.int (2 : Int32)), .val (.int (1 : Int32)), .val (.int (3 : Int32)), .val (.int (4 : Int32)), .val (.int (5 : Int32)), .val (.int (3 : Int32)), .val (.int (4 : Int32)), .unset]) rfl wk) ?_
    show Fin1 p e below s (rm0Q Z i0 i1 i2 h0 n0) room_1.cells room_1.slots (T8.setTop (mkF m 169 #[.val (.int i0), .val (.int i1), .val (.int i2), .val (.int (0 : Int32)), .val (.int fi), .val (.int se), .val (.ref b1), .val (.int (0 : Int32)), .val (.int (1 : Int32)), .val (.int (2 : Int32)), .val (.int (1 : Int32)), .val (.int (3 : Int32)), .val (.int (4 : Int32)), .val (.int (5 : Int32)), .val (.int (3 : Int32)), .val (.int (4 : Int32)), .unset] []))
    refine own_st (fun wt wk => XS.iconst X8.here hx rfl (hb hby at_169) wk) ?_
    show Fin1 p e below s (rm0Q Z i0 i1 i2 h0 n0) room_1.cells room_1.slots (T8.setTop (mkF m 170 #[.val (.int i0), .val (.int i1), .val (.int i2), .val (.int (0 : Int32)), .val (.int fi), .val (.int se), .val (.ref b1), .val (.int (0 : Int32)), .val (.int (1 : Int32)), .val (.int (2 : Int32)), .val (.int (1 : Int32)), .val (.int (3 : Int32)), .val (.int (4 : Int32)), .val (.int (5 : Int32)), .val (.int (3 : Int32)), .val (.int (4 : Int32)), .unset] [(.int (5 : Int32))]))
    refine own_st (fun wt wk => XS.istore X8.here hx rfl (hb hby at_170) rfl (l' := #[.val (.int i0), .val (.int i1), .val (.int i2), .val (.int (0 : Int32)), .val (.int fi), .val (.int se), .val (.ref b1), .val (.int (0 : Int32)), .val (.int (1 : Int32)), .val (.int (2 : Int32)), .val (.int (1 : Int32)), .val (.int (3 : Int32)), .val (.int (4 : Int32)), .val (.int (5 : Int32)), .val (.int (3 : Int32)), .val (.int (4 : Int32)), .val (.int (5 : Int32))]) rfl wk) ?_
    show Fin1 p e below s (rm0Q Z i0 i1 i2 h0 n0) room_1.cells room_1.slots (T8.setTop (mkF m 172 #[.val (.int i0), .val (.int i1), .val (.int i2), .val (.int (0 : Int32)), .val (.int fi), .val (.int se), .val (.ref b1), .val (.int (0 : Int32)), .val (.int (1 : Int32)), .val (.int (2 : Int32)), .val (.int (1 : Int32)), .val (.int (3 : Int32)), .val (.int (4 : Int32)), .val (.int (5 : Int32)), .val (.int (3 : Int32)), .val (.int (4 : Int32)), .val (.int (5 : Int32))] []))
    refine own_st (fun wt wk => XS.iload X8.here hx rfl (hb hby at_172) rfl wk) ?_
    show Fin1 p e below s (rm0Q Z i0 i1 i2 h0 n0) room_1.cells room_1.slots (T8.setTop (mkF m 174 #[.val (.int i0), .val (.int i1), .val (.int i2), .val (.int (0 : Int32)), .val (.int fi), .val (.int se), .val (.ref b1), .val (.int (0 : Int32)), .val (.int (1 : Int32)), .val (.int (2 : Int32)), .val (.int (1 : Int32)), .val (.int (3 : Int32)), .val (.int (4 : Int32)), .val (.int (5 : Int32)), .val (.int (3 : Int32)), .val (.int (4 : Int32)), .val (.int (5 : Int32))] [(.int (1 : Int32))]))
    refine own_st (fun wt wk => XS.ifNo X8.here hx rfl (hb hby at_174) rfl ((if0 _ _).trans (feq (by decide)).1) wk) ?_
    show Fin1 p e below s (rm0Q Z i0 i1 i2 h0 n0) room_1.cells room_1.slots (T8.setTop (mkF m 177 #[.val (.int i0), .val (.int i1), .val (.int i2), .val (.int (0 : Int32)), .val (.int fi), .val (.int se), .val (.ref b1), .val (.int (0 : Int32)), .val (.int (1 : Int32)), .val (.int (2 : Int32)), .val (.int (1 : Int32)), .val (.int (3 : Int32)), .val (.int (4 : Int32)), .val (.int (5 : Int32)), .val (.int (3 : Int32)), .val (.int (4 : Int32)), .val (.int (5 : Int32))] []))
    refine own_st (fun wt wk => XS.iload X8.here hx rfl (hb hby at_177) rfl wk) ?_
    show Fin1 p e below s (rm0Q Z i0 i1 i2 h0 n0) room_1.cells room_1.slots (T8.setTop (mkF m 179 #[.val (.int i0), .val (.int i1), .val (.int i2), .val (.int (0 : Int32)), .val (.int fi), .val (.int se), .val (.ref b1), .val (.int (0 : Int32)), .val (.int (1 : Int32)), .val (.int (2 : Int32)), .val (.int (1 : Int32)), .val (.int (3 : Int32)), .val (.int (4 : Int32)), .val (.int (5 : Int32)), .val (.int (3 : Int32)), .val (.int (4 : Int32)), .val (.int (5 : Int32))] [(.int (3 : Int32))]))
    refine own_st (fun wt wk => XS.iload X8.here hx rfl (hb hby at_179) rfl wk) ?_
    show Fin1 p e below s (rm0Q Z i0 i1 i2 h0 n0) room_1.cells room_1.slots (T8.setTop (mkF m 181 #[.val (.int i0), .val (.int i1), .val (.int i2), .val (.int (0 : Int32)), .val (.int fi), .val (.int se), .val (.ref b1), .val (.int (0 : Int32)), .val (.int (1 : Int32)), .val (.int (2 : Int32)), .val (.int (1 : Int32)), .val (.int (3 : Int32)), .val (.int (4 : Int32)), .val (.int (5 : Int32)), .val (.int (3 : Int32)), .val (.int (4 : Int32)), .val (.int (5 : Int32))] [(.int (3 : Int32)), (.int (3 : Int32))]))
    refine own_st (fun wt wk => XS.icmpNo X8.here hx rfl (hb hby at_181) rfl (teq (by decide)).2 wk) ?_
    show Fin1 p e below s (rm0Q Z i0 i1 i2 h0 n0) room_1.cells room_1.slots (T8.setTop (mkF m 184 #[.val (.int i0), .val (.int i1), .val (.int i2), .val (.int (0 : Int32)), .val (.int fi), .val (.int se), .val (.ref b1), .val (.int (0 : Int32)), .val (.int (1 : Int32)), .val (.int (2 : Int32)), .val (.int (1 : Int32)), .val (.int (3 : Int32)), .val (.int (4 : Int32)), .val (.int (5 : Int32)), .val (.int (3 : Int32)), .val (.int (4 : Int32)), .val (.int (5 : Int32))] []))
    refine own_st (fun wt wk => XS.iload X8.here hx rfl (hb hby at_184) rfl wk) ?_
    show Fin1 p e below s (rm0Q Z i0 i1 i2 h0 n0) room_1.cells room_1.slots (T8.setTop (mkF m 186 #[.val (.int i0), .val (.int i1), .val (.int i2), .val (.int (0 : Int32)), .val (.int fi), .val (.int se), .val (.ref b1), .val (.int (0 : Int32)), .val (.int (1 : Int32)), .val (.int (2 : Int32)), .val (.int (1 : Int32)), .val (.int (3 : Int32)), .val (.int (4 : Int32)), .val (.int (5 : Int32)), .val (.int (3 : Int32)), .val (.int (4 : Int32)), .val (.int (5 : Int32))] [(.int (4 : Int32))]))
    refine own_st (fun wt wk => XS.iload X8.here hx rfl (hb hby at_186) rfl wk) ?_
    show Fin1 p e below s (rm0Q Z i0 i1 i2 h0 n0) room_1.cells room_1.slots (T8.setTop (mkF m 188 #[.val (.int i0), .val (.int i1), .val (.int i2), .val (.int (0 : Int32)), .val (.int fi), .val (.int se), .val (.ref b1), .val (.int (0 : Int32)), .val (.int (1 : Int32)), .val (.int (2 : Int32)), .val (.int (1 : Int32)), .val (.int (3 : Int32)), .val (.int (4 : Int32)), .val (.int (5 : Int32)), .val (.int (3 : Int32)), .val (.int (4 : Int32)), .val (.int (5 : Int32))] [(.int (4 : Int32)), (.int (4 : Int32))]))
    refine own_st (fun wt wk => XS.icmpNo X8.here hx rfl (hb hby at_188) rfl (teq (by decide)).2 wk) ?_
    show Fin1 p e below s (rm0Q Z i0 i1 i2 h0 n0) room_1.cells room_1.slots (T8.setTop (mkF m 191 #[.val (.int i0), .val (.int i1), .val (.int i2), .val (.int (0 : Int32)), .val (.int fi), .val (.int se), .val (.ref b1), .val (.int (0 : Int32)), .val (.int (1 : Int32)), .val (.int (2 : Int32)), .val (.int (1 : Int32)), .val (.int (3 : Int32)), .val (.int (4 : Int32)), .val (.int (5 : Int32)), .val (.int (3 : Int32)), .val (.int (4 : Int32)), .val (.int (5 : Int32))] []))
    refine own_st (fun wt wk => XS.iload X8.here hx rfl (hb hby at_191) rfl wk) ?_
    show Fin1 p e below s (rm0Q Z i0 i1 i2 h0 n0) room_1.cells room_1.slots (T8.setTop (mkF m 193 #[.val (.int i0), .val (.int i1), .val (.int i2), .val (.int (0 : Int32)), .val (.int fi), .val (.int se), .val (.ref b1), .val (.int (0 : Int32)), .val (.int (1 : Int32)), .val (.int (2 : Int32)), .val (.int (1 : Int32)), .val (.int (3 : Int32)), .val (.int (4 : Int32)), .val (.int (5 : Int32)), .val (.int (3 : Int32)), .val (.int (4 : Int32)), .val (.int (5 : Int32))] [(.int (5 : Int32))]))
    refine own_st (fun wt wk => XS.iload X8.here hx rfl (hb hby at_193) rfl wk) ?_
    show Fin1 p e below s (rm0Q Z i0 i1 i2 h0 n0) room_1.cells room_1.slots (T8.setTop (mkF m 195 #[.val (.int i0), .val (.int i1), .val (.int i2), .val (.int (0 : Int32)), .val (.int fi), .val (.int se), .val (.ref b1), .val (.int (0 : Int32)), .val (.int (1 : Int32)), .val (.int (2 : Int32)), .val (.int (1 : Int32)), .val (.int (3 : Int32)), .val (.int (4 : Int32)), .val (.int (5 : Int32)), .val (.int (3 : Int32)), .val (.int (4 : Int32)), .val (.int (5 : Int32))] [(.int (5 : Int32)), (.int (5 : Int32))]))
    refine own_st (fun wt wk => XS.icmpNo X8.here hx rfl (hb hby at_195) rfl (teq (by decide)).2 wk) ?_
    show Fin1 p e below s (rm0Q Z i0 i1 i2 h0 n0) room_1.cells room_1.slots (T8.setTop (mkF m 198 #[.val (.int i0), .val (.int i1), .val (.int i2), .val (.int (0 : Int32)), .val (.int fi), .val (.int se), .val (.ref b1), .val (.int (0 : Int32)), .val (.int (1 : Int32)), .val (.int (2 : Int32)), .val (.int (1 : Int32)), .val (.int (3 : Int32)), .val (.int (4 : Int32)), .val (.int (5 : Int32)), .val (.int (3 : Int32)), .val (.int (4 : Int32)), .val (.int (5 : Int32))] []))
    refine own_st (fun wt wk => XS.aload X8.here hx rfl (hb hby at_198) rfl rfl wk) ?_
    show Fin1 p e below s (rm0Q Z i0 i1 i2 h0 n0) room_1.cells room_1.slots (T8.setTop (mkF m 200 #[.val (.int i0), .val (.int i1), .val (.int i2), .val (.int (0 : Int32)), .val (.int fi), .val (.int se), .val (.ref b1), .val (.int (0 : Int32)), .val (.int (1 : Int32)), .val (.int (2 : Int32)), .val (.int (1 : Int32)), .val (.int (3 : Int32)), .val (.int (4 : Int32)), .val (.int (5 : Int32)), .val (.int (3 : Int32)), .val (.int (4 : Int32)), .val (.int (5 : Int32))] [(.ref b1)]))
    obtain ⟨v9, T9, h9, L9, X9, e9, hQ9, st9⟩ := own_virtual X8 hx hZ hown (hw _ (List.mem_of_getElem? (i := 27) rfl)) (hw _ (List.mem_of_getElem? (i := 28) rfl)) (hw _ (List.mem_of_getElem? (i := 30) rfl)) (hw _ (List.mem_of_getElem? (i := 29) rfl)) (hw _ (List.mem_of_getElem? (i := 31) rfl)) (hw _ (List.mem_of_getElem? (i := 3) rfl)) (by decide) (a := b1) E_b1 (rmH l Z a0 hw b1 (6 : Int32) (0 : Int32) h8 n0 Z0 Fc Fl) e8 (g := (mkF m 200 #[.val (.int i0), .val (.int i1), .val (.int i2), .val (.int (0 : Int32)), .val (.int fi), .val (.int se), .val (.ref b1), .val (.int (0 : Int32)), .val (.int (1 : Int32)), .val (.int (2 : Int32)), .val (.int (1 : Int32)), .val (.int (3 : Int32)), .val (.int (4 : Int32)), .val (.int (5 : Int32)), .val (.int (3 : Int32)), .val (.int (4 : Int32)), .val (.int (5 : Int32))] [(.ref b1)])) rfl (by rw [hml]; rfl) (argsL := []) (rest := []) (lenOf pd_3 rfl) rfl (W := 0) (by show 2 * 0 + _ ≤ _; exact Nat.le_of_eq rfl) (hb hby at_200) (by decide) (by decide) (by decide) (by decide)
    obtain ⟨rfl, N9q, hh9⟩ := hQ9
    have N9 := Fr.app N8 N9q
    rw [hh9] at e9
    refine own_st st9 ?_
    show Fin1 p e below s (rm0Q Z i0 i1 i2 h0 n0) room_1.cells room_1.slots (T9.setTop (mkF m 203 #[.val (.int i0), .val (.int i1), .val (.int i2), .val (.int (0 : Int32)), .val (.int fi), .val (.int se), .val (.ref b1), .val (.int (0 : Int32)), .val (.int (1 : Int32)), .val (.int (2 : Int32)), .val (.int (1 : Int32)), .val (.int (3 : Int32)), .val (.int (4 : Int32)), .val (.int (5 : Int32)), .val (.int (3 : Int32)), .val (.int (4 : Int32)), .val (.int (5 : Int32))] [(.int ((6 : Int32) - (0 : Int32)))]))
    refine own_st (fun wt wk => XS.bipush X9.here hx rfl (hb hby at_203) wk) ?_
    show Fin1 p e below s (rm0Q Z i0 i1 i2 h0 n0) room_1.cells room_1.slots (T9.setTop (mkF m 205 #[.val (.int i0), .val (.int i1), .val (.int i2), .val (.int (0 : Int32)), .val (.int fi), .val (.int se), .val (.ref b1), .val (.int (0 : Int32)), .val (.int (1 : Int32)), .val (.int (2 : Int32)), .val (.int (1 : Int32)), .val (.int (3 : Int32)), .val (.int (4 : Int32)), .val (.int (5 : Int32)), .val (.int (3 : Int32)), .val (.int (4 : Int32)), .val (.int (5 : Int32))] [(.int (6 : Int32)), (.int ((6 : Int32) - (0 : Int32)))]))
    refine own_st (fun wt wk => XS.iloadN X9.here hx rfl (hb hby at_205) rfl wk) ?_
    show Fin1 p e below s (rm0Q Z i0 i1 i2 h0 n0) room_1.cells room_1.slots (T9.setTop (mkF m 206 #[.val (.int i0), .val (.int i1), .val (.int i2), .val (.int (0 : Int32)), .val (.int fi), .val (.int se), .val (.ref b1), .val (.int (0 : Int32)), .val (.int (1 : Int32)), .val (.int (2 : Int32)), .val (.int (1 : Int32)), .val (.int (3 : Int32)), .val (.int (4 : Int32)), .val (.int (5 : Int32)), .val (.int (3 : Int32)), .val (.int (4 : Int32)), .val (.int (5 : Int32))] [(.int (0 : Int32)), (.int (6 : Int32)), (.int ((6 : Int32) - (0 : Int32)))]))
    refine own_st (fun wt wk => XS.isub X9.here hx rfl (hb hby at_206) rfl wk) ?_
    show Fin1 p e below s (rm0Q Z i0 i1 i2 h0 n0) room_1.cells room_1.slots (T9.setTop (mkF m 207 #[.val (.int i0), .val (.int i1), .val (.int i2), .val (.int (0 : Int32)), .val (.int fi), .val (.int se), .val (.ref b1), .val (.int (0 : Int32)), .val (.int (1 : Int32)), .val (.int (2 : Int32)), .val (.int (1 : Int32)), .val (.int (3 : Int32)), .val (.int (4 : Int32)), .val (.int (5 : Int32)), .val (.int (3 : Int32)), .val (.int (4 : Int32)), .val (.int (5 : Int32))] [(.int ((6 : Int32) - (0 : Int32))), (.int ((6 : Int32) - (0 : Int32)))]))
    refine own_st (fun wt wk => XS.icmpNo X9.here hx rfl (hb hby at_207) rfl (teq (rfl : ((6 : Int32) - (0 : Int32)) = ((6 : Int32) - (0 : Int32)))).2 wk) ?_
    show Fin1 p e below s (rm0Q Z i0 i1 i2 h0 n0) room_1.cells room_1.slots (T9.setTop (mkF m 210 #[.val (.int i0), .val (.int i1), .val (.int i2), .val (.int (0 : Int32)), .val (.int fi), .val (.int se), .val (.ref b1), .val (.int (0 : Int32)), .val (.int (1 : Int32)), .val (.int (2 : Int32)), .val (.int (1 : Int32)), .val (.int (3 : Int32)), .val (.int (4 : Int32)), .val (.int (5 : Int32)), .val (.int (3 : Int32)), .val (.int (4 : Int32)), .val (.int (5 : Int32))] []))
    refine own_st (fun wt wk => XS.iconst X9.here hx rfl (hb hby at_210) wk) ?_
    show Fin1 p e below s (rm0Q Z i0 i1 i2 h0 n0) room_1.cells room_1.slots (T9.setTop (mkF m 211 #[.val (.int i0), .val (.int i1), .val (.int i2), .val (.int (0 : Int32)), .val (.int fi), .val (.int se), .val (.ref b1), .val (.int (0 : Int32)), .val (.int (1 : Int32)), .val (.int (2 : Int32)), .val (.int (1 : Int32)), .val (.int (3 : Int32)), .val (.int (4 : Int32)), .val (.int (5 : Int32)), .val (.int (3 : Int32)), .val (.int (4 : Int32)), .val (.int (5 : Int32))] [(.int (1 : Int32))]))
    refine own_st (fun wt wk => XS.goto X9.here hx rfl (pc0 := 211) (pc' := 215) rfl (hb hby at_211) (by decide) (by decide) wk) ?_
    show Fin1 p e below s (rm0Q Z i0 i1 i2 h0 n0) room_1.cells room_1.slots (T9.setTop (mkF m 215 #[.val (.int i0), .val (.int i1), .val (.int i2), .val (.int (0 : Int32)), .val (.int fi), .val (.int se), .val (.ref b1), .val (.int (0 : Int32)), .val (.int (1 : Int32)), .val (.int (2 : Int32)), .val (.int (1 : Int32)), .val (.int (3 : Int32)), .val (.int (4 : Int32)), .val (.int (5 : Int32)), .val (.int (3 : Int32)), .val (.int (4 : Int32)), .val (.int (5 : Int32))] [(.int (1 : Int32))]))
    show Fin1 p e below s (rm0Q Z i0 i1 i2 h0 n0) room_1.cells room_1.slots (T9.setTop (mkF m 215 #[.val (.int i0), .val (.int i1), .val (.int i2), .val (.int (0 : Int32)), .val (.int fi), .val (.int se), .val (.ref b1), .val (.int (0 : Int32)), .val (.int (1 : Int32)), .val (.int (2 : Int32)), .val (.int (1 : Int32)), .val (.int (3 : Int32)), .val (.int (4 : Int32)), .val (.int (5 : Int32)), .val (.int (3 : Int32)), .val (.int (4 : Int32)), .val (.int (5 : Int32))] [(.int (1 : Int32))]))
    exact own_retZ X9 hx hlk hret (hb hby at_215) (z := (1 : Int32)) (by decide) (by rw [e9]; exact ⟨rfl, N9⟩) (by decide) (by decide)
  · show Fin1 p e below s (rm0Q Z i0 i1 i2 h0 n0) room_1.cells room_1.slots (T5.setTop (mkF m 83 #[.val (.int i0), .val (.int i1), .val (.int i2), .val (.int (1 : Int32)), .val (.int fi), .val (.int se), .val (.ref b1), .val (.int (0 : Int32)), .val (.int (1 : Int32)), .val (.int (2 : Int32)), .val (.int (1 : Int32)), .unset, .unset, .unset, .unset, .unset, .unset] [(.int (1 : Int32)), (.int (1 : Int32))]))
    refine own_st (fun wt wk => XS.icmpNo X5.here hx rfl (hb hby at_83) rfl (flt (by decide)).1 wk) ?_
    show Fin1 p e below s (rm0Q Z i0 i1 i2 h0 n0) room_1.cells room_1.slots (T5.setTop (mkF m 86 #[.val (.int i0), .val (.int i1), .val (.int i2), .val (.int (1 : Int32)), .val (.int fi), .val (.int se), .val (.ref b1), .val (.int (0 : Int32)), .val (.int (1 : Int32)), .val (.int (2 : Int32)), .val (.int (1 : Int32)), .unset, .unset, .unset, .unset, .unset, .unset] []))
    refine own_st (fun wt wk => XS.aload X5.here hx rfl (hb hby at_86) rfl rfl wk) ?_
    show Fin1 p e below s (rm0Q Z i0 i1 i2 h0 n0) room_1.cells room_1.slots (T5.setTop (mkF m 88 #[.val (.int i0), .val (.int i1), .val (.int i2), .val (.int (1 : Int32)), .val (.int fi), .val (.int se), .val (.ref b1), .val (.int (0 : Int32)), .val (.int (1 : Int32)), .val (.int (2 : Int32)), .val (.int (1 : Int32)), .unset, .unset, .unset, .unset, .unset, .unset] [(.ref b1)]))
    refine own_st (fun wt wk => XS.iload X5.here hx rfl (hb hby at_88) rfl wk) ?_
    show Fin1 p e below s (rm0Q Z i0 i1 i2 h0 n0) room_1.cells room_1.slots (T5.setTop (mkF m 90 #[.val (.int i0), .val (.int i1), .val (.int i2), .val (.int (1 : Int32)), .val (.int fi), .val (.int se), .val (.ref b1), .val (.int (0 : Int32)), .val (.int (1 : Int32)), .val (.int (2 : Int32)), .val (.int (1 : Int32)), .unset, .unset, .unset, .unset, .unset, .unset] [(.int fi), (.ref b1)]))
    obtain ⟨v10, T10, h10, L10, X10, e10, hQ10, st10⟩ := own_virtual X5 hx hZ hown (hw _ (List.mem_of_getElem? (i := 22) rfl)) (hw _ (List.mem_of_getElem? (i := 23) rfl)) (hw _ (List.mem_of_getElem? (i := 25) rfl)) (hw _ (List.mem_of_getElem? (i := 24) rfl)) (hw _ (List.mem_of_getElem? (i := 26) rfl)) (hw _ (List.mem_of_getElem? (i := 3) rfl)) (by decide) (a := b1) E_b1 (rmG l Z a0 hw b1 fi (3 : Int32) (0 : Int32) (1 : Int32) 0 [(.int (0 : Int32)), (.int (0 : Int32)), (.int (0 : Int32)), (.int (0 : Int32)), (.int (0 : Int32)), (.int (0 : Int32)), (.int (0 : Int32)), (.int (0 : Int32))] t kt h5 n0 Z0 g_b1 g_t E_b1 Fg Fc Fl V_t ne_b1_t (by decide) (by decide) rfl (by simp) (by decide)) e5 (g := (mkF m 90 #[.val (.int i0), .val (.int i1), .val (.int i2), .val (.int (1 : Int32)), .val (.int fi), .val (.int se), .val (.ref b1), .val (.int (0 : Int32)), .val (.int (1 : Int32)), .val (.int (2 : Int32)), .val (.int (1 : Int32)), .unset, .unset, .unset, .unset, .unset, .unset] [(.int fi), (.ref b1)])) rfl (by rw [hml]; rfl) (argsL := [(.int fi)]) (rest := []) (lenOf pd_4 rfl) rfl (W := 0) (by show 2 * 0 + _ ≤ _; exact Nat.le_of_eq rfl) (hb hby at_90) (by decide) (by decide) (by decide) (by decide)
    obtain ⟨rfl, N10q, K10, Fg, Fc, Fl, V_t⟩ := hQ10
    have N10 := Fr.app N5 N10q
    have Z0 := Nat.le_trans Z0 K10.1
    have E_b1 := E_b1.keep K10
    refine own_st st10 ?_
    show Fin1 p e below s (rm0Q Z i0 i1 i2 h0 n0) room_1.cells room_1.slots (T10.setTop (mkF m 93 #[.val (.int i0), .val (.int i1), .val (.int i2), .val (.int (1 : Int32)), .val (.int fi), .val (.int se), .val (.ref b1), .val (.int (0 : Int32)), .val (.int (1 : Int32)), .val (.int (2 : Int32)), .val (.int (1 : Int32)), .unset, .unset, .unset, .unset, .unset, .unset] []))
    refine own_st (fun wt wk => XS.iloadN X10.here hx rfl (hb hby at_93) rfl wk) ?_
    show Fin1 p e below s (rm0Q Z i0 i1 i2 h0 n0) room_1.cells room_1.slots (T10.setTop (mkF m 94 #[.val (.int i0), .val (.int i1), .val (.int i2), .val (.int (1 : Int32)), .val (.int fi), .val (.int se), .val (.ref b1), .val (.int (0 : Int32)), .val (.int (1 : Int32)), .val (.int (2 : Int32)), .val (.int (1 : Int32)), .unset, .unset, .unset, .unset, .unset, .unset] [(.int (1 : Int32))]))
    refine own_st (fun wt wk => XS.iconst X10.here hx rfl (hb hby at_94) wk) ?_
    show Fin1 p e below s (rm0Q Z i0 i1 i2 h0 n0) room_1.cells room_1.slots (T10.setTop (mkF m 95 #[.val (.int i0), .val (.int i1), .val (.int i2), .val (.int (1 : Int32)), .val (.int fi), .val (.int se), .val (.ref b1), .val (.int (0 : Int32)), .val (.int (1 : Int32)), .val (.int (2 : Int32)), .val (.int (1 : Int32)), .unset, .unset, .unset, .unset, .unset, .unset] [(.int (2 : Int32)), (.int (1 : Int32))]))
    refine own_st (fun wt wk => XS.icmpYes X10.here hx rfl (pc0 := 95) (pc' := 105) rfl (hb hby at_95) rfl (tlt (by decide)).1 (by decide) (by decide) wk) ?_
    show Fin1 p e below s (rm0Q Z i0 i1 i2 h0 n0) room_1.cells room_1.slots (T10.setTop (mkF m 105 #[.val (.int i0), .val (.int i1), .val (.int i2), .val (.int (1 : Int32)), .val (.int fi), .val (.int se), .val (.ref b1), .val (.int (0 : Int32)), .val (.int (1 : Int32)), .val (.int (2 : Int32)), .val (.int (1 : Int32)), .unset, .unset, .unset, .unset, .unset, .unset] []))
    refine own_st (fun wt wk => XS.aload X10.here hx rfl (hb hby at_105) rfl rfl wk) ?_
    show Fin1 p e below s (rm0Q Z i0 i1 i2 h0 n0) room_1.cells room_1.slots (T10.setTop (mkF m 107 #[.val (.int i0), .val (.int i1), .val (.int i2), .val (.int (1 : Int32)), .val (.int fi), .val (.int se), .val (.ref b1), .val (.int (0 : Int32)), .val (.int (1 : Int32)), .val (.int (2 : Int32)), .val (.int (1 : Int32)), .unset, .unset, .unset, .unset, .unset, .unset] [(.ref b1)]))
    obtain ⟨v11, T11, h11, L11, X11, e11, hQ11, st11⟩ := own_virtual X10 hx hZ hown (hw _ (List.mem_of_getElem? (i := 13) rfl)) (hw _ (List.mem_of_getElem? (i := 14) rfl)) (hw _ (List.mem_of_getElem? (i := 16) rfl)) (hw _ (List.mem_of_getElem? (i := 15) rfl)) (hw _ (List.mem_of_getElem? (i := 17) rfl)) (hw _ (List.mem_of_getElem? (i := 3) rfl)) (by decide) (a := b1) E_b1 (rmT1 l Z a0 hw b1 (3 : Int32) (1 : Int32) (0 : Int32) fi [(.int fi), (.int (0 : Int32)), (.int (0 : Int32)), (.int (0 : Int32)), (.int (0 : Int32)), (.int (0 : Int32)), (.int (0 : Int32)), (.int (0 : Int32))] t kt h10 n0 Z0 g_b1 E_b1 Fg Fc Fl V_t ne_b1_t (by decide) (by decide) (by decide) rfl) e10 (g := (mkF m 107 #[.val (.int i0), .val (.int i1), .val (.int i2), .val (.int (1 : Int32)), .val (.int fi), .val (.int se), .val (.ref b1), .val (.int (0 : Int32)), .val (.int (1 : Int32)), .val (.int (2 : Int32)), .val (.int (1 : Int32)), .unset, .unset, .unset, .unset, .unset, .unset] [(.ref b1)])) rfl (by rw [hml]; rfl) (argsL := []) (rest := []) (lenOf pd_3 rfl) rfl (W := 0) (by show 2 * 0 + _ ≤ _; exact Nat.le_of_eq rfl) (hb hby at_107) (by decide) (by decide) (by decide) (by decide)
    obtain ⟨rfl, N11q, K11, Fg, Fc, Fl⟩ := hQ11
    have N11 := Fr.app N10 N11q
    have Z0 := Nat.le_trans Z0 K11.1
    have E_b1 := E_b1.keep K11
    have V_t := V_t.keep K11 (ninS (Ne.symm ne_b1_t) nin0)
    refine own_st st11 ?_
    show Fin1 p e below s (rm0Q Z i0 i1 i2 h0 n0) room_1.cells room_1.slots (T11.setTop (mkF m 110 #[.val (.int i0), .val (.int i1), .val (.int i2), .val (.int (1 : Int32)), .val (.int fi), .val (.int se), .val (.ref b1), .val (.int (0 : Int32)), .val (.int (1 : Int32)), .val (.int (2 : Int32)), .val (.int (1 : Int32)), .unset, .unset, .unset, .unset, .unset, .unset] [(.int fi)]))
    refine own_st (fun wt wk => XS.istore X11.here hx rfl (hb hby at_110) rfl (l' := #[.val (.int i0), .val (.int i1), .val (.int i2), .val (.int (1 : Int32)), .val (.int fi), .val (.int se), .val (.ref b1), .val (.int (0 : Int32)), .val (.int (1 : Int32)), .val (.int (2 : Int32)), .val (.int (1 : Int32)), .val (.int fi), .unset, .unset, .unset, .unset, .unset]) rfl wk) ?_
    show Fin1 p e below s (rm0Q Z i0 i1 i2 h0 n0) room_1.cells room_1.slots (T11.setTop (mkF m 112 #[.val (.int i0), .val (.int i1), .val (.int i2), .val (.int (1 : Int32)), .val (.int fi), .val (.int se), .val (.ref b1), .val (.int (0 : Int32)), .val (.int (1 : Int32)), .val (.int (2 : Int32)), .val (.int (1 : Int32)), .val (.int fi), .unset, .unset, .unset, .unset, .unset] []))
    refine own_st (fun wt wk => XS.aload X11.here hx rfl (hb hby at_112) rfl rfl wk) ?_
    show Fin1 p e below s (rm0Q Z i0 i1 i2 h0 n0) room_1.cells room_1.slots (T11.setTop (mkF m 114 #[.val (.int i0), .val (.int i1), .val (.int i2), .val (.int (1 : Int32)), .val (.int fi), .val (.int se), .val (.ref b1), .val (.int (0 : Int32)), .val (.int (1 : Int32)), .val (.int (2 : Int32)), .val (.int (1 : Int32)), .val (.int fi), .unset, .unset, .unset, .unset, .unset] [(.ref b1)]))
    obtain ⟨v12, T12, h12, L12, X12, e12, hQ12, st12⟩ := own_virtual X11 hx hZ hown (hw _ (List.mem_of_getElem? (i := 13) rfl)) (hw _ (List.mem_of_getElem? (i := 14) rfl)) (hw _ (List.mem_of_getElem? (i := 16) rfl)) (hw _ (List.mem_of_getElem? (i := 15) rfl)) (hw _ (List.mem_of_getElem? (i := 17) rfl)) (hw _ (List.mem_of_getElem? (i := 3) rfl)) (by decide) (a := b1) E_b1 (rmT0 l Z a0 hw b1 (3 : Int32) (4 : Int32) t h11 n0 Z0 g_b1 E_b1 Fg Fc Fl (by decide)) e11 (g := (mkF m 114 #[.val (.int i0), .val (.int i1), .val (.int i2), .val (.int (1 : Int32)), .val (.int fi), .val (.int se), .val (.ref b1), .val (.int (0 : Int32)), .val (.int (1 : Int32)), .val (.int (2 : Int32)), .val (.int (1 : Int32)), .val (.int fi), .unset, .unset, .unset, .unset, .unset] [(.ref b1)])) rfl (by rw [hml]; rfl) (argsL := []) (rest := []) (lenOf pd_3 rfl) rfl (W := 0) (by show 2 * 0 + _ ≤ _; exact Nat.le_of_eq rfl) (hb hby at_114) (by decide) (by decide) (by decide) (by decide)
    obtain ⟨rfl, N12q, K12, Fg, Fc, Fl⟩ := hQ12
    have N12 := Fr.app N11 N12q
    have Z0 := Nat.le_trans Z0 K12.1
    have E_b1 := E_b1.keep K12
    have V_t := V_t.keep K12 (ninS (Ne.symm ne_b1_t) nin0)
    refine own_st st12 ?_
    show Fin1 p e below s (rm0Q Z i0 i1 i2 h0 n0) room_1.cells room_1.slots (T12.setTop (mkF m 117 #[.val (.int i0), .val (.int i1), .val (.int i2), .val (.int (1 : Int32)), .val (.int fi), .val (.int se), .val (.ref b1), .val (.int (0 : Int32)), .val (.int (1 : Int32)), .val (.int (2 : Int32)), .val (.int (1 : Int32)), .val (.int fi), .unset, .unset, .unset, .unset, .unset] [(.int (3 : Int32))]))
    refine own_st (fun wt wk => XS.istore X12.here hx rfl (hb hby at_117) rfl (l' := #[.val (.int i0), .val (.int i1), .val (.int i2), .val (.int (1 : Int32)), .val (.int fi), .val (.int se), .val (.ref b1), .val (.int (0 : Int32)), .val (.int (1 : Int32)), .val (.int (2 : Int32)), .val (.int (1 : Int32)), .val (.int fi), .val (.int (3 : Int32)), .unset, .unset, .unset, .unset]) rfl wk) ?_
    show Fin1 p e below s (rm0Q Z i0 i1 i2 h0 n0) room_1.cells room_1.slots (T12.setTop (mkF m 119 #[.val (.int i0), .val (.int i1), .val (.int i2), .val (.int (1 : Int32)), .val (.int fi), .val (.int se), .val (.ref b1), .val (.int (0 : Int32)), .val (.int (1 : Int32)), .val (.int (2 : Int32)), .val (.int (1 : Int32)), .val (.int fi), .val (.int (3 : Int32)), .unset, .unset, .unset, .unset] []))
    refine own_st (fun wt wk => XS.aload X12.here hx rfl (hb hby at_119) rfl rfl wk) ?_
    show Fin1 p e below s (rm0Q Z i0 i1 i2 h0 n0) room_1.cells room_1.slots (T12.setTop (mkF m 121 #[.val (.int i0), .val (.int i1), .val (.int i2), .val (.int (1 : Int32)), .val (.int fi), .val (.int se), .val (.ref b1), .val (.int (0 : Int32)), .val (.int (1 : Int32)), .val (.int (2 : Int32)), .val (.int (1 : Int32)), .val (.int fi), .val (.int (3 : Int32)), .unset, .unset, .unset, .unset] [(.ref b1)]))
    obtain ⟨v13, T13, h13, L13, X13, e13, hQ13, st13⟩ := own_virtual X12 hx hZ hown (hw _ (List.mem_of_getElem? (i := 13) rfl)) (hw _ (List.mem_of_getElem? (i := 14) rfl)) (hw _ (List.mem_of_getElem? (i := 16) rfl)) (hw _ (List.mem_of_getElem? (i := 15) rfl)) (hw _ (List.mem_of_getElem? (i := 17) rfl)) (hw _ (List.mem_of_getElem? (i := 3) rfl)) (by decide) (a := b1) E_b1 (rmT0 l Z a0 hw b1 (4 : Int32) (5 : Int32) t h12 n0 Z0 g_b1 E_b1 Fg Fc Fl (by decide)) e12 (g := (mkF m 121 #[.val (.int i0), .val (.int i1), .val (.int i2), .val (.int (1 : Int32)), .val (.int fi), .val (.int se), .val (.ref b1), .val (.int (0 : Int32)), .val (.int (1 : Int32)), .val (.int (2 : Int32)), .val (.int (1 : Int32)), .val (.int fi), .val (.int (3 : Int32)), .unset, .unset, .unset, .unset] [(.ref b1)])) rfl (by rw [hml]; rfl) (argsL := []) (rest := []) (lenOf pd_3 rfl) rfl (W := 0) (by show 2 * 0 + _ ≤ _; exact Nat.le_of_eq rfl) (hb hby at_121) (by decide) (by decide) (by decide) (by decide)
    obtain ⟨rfl, N13q, K13, Fg, Fc, Fl⟩ := hQ13
    have N13 := Fr.app N12 N13q
    have Z0 := Nat.le_trans Z0 K13.1
    have E_b1 := E_b1.keep K13
    have V_t := V_t.keep K13 (ninS (Ne.symm ne_b1_t) nin0)
    refine own_st st13 ?_
    show Fin1 p e below s (rm0Q Z i0 i1 i2 h0 n0) room_1.cells room_1.slots (T13.setTop (mkF m 124 #[.val (.int i0), .val (.int i1), .val (.int i2), .val (.int (1 : Int32)), .val (.int fi), .val (.int se), .val (.ref b1), .val (.int (0 : Int32)), .val (.int (1 : Int32)), .val (.int (2 : Int32)), .val (.int (1 : Int32)), .val (.int fi), .val (.int (3 : Int32)), .unset, .unset, .unset, .unset] [(.int (4 : Int32))]))
    refine own_st (fun wt wk => XS.istore X13.here hx rfl (hb hby at_124) rfl (l' := #[.val (.int i0), .val (.int i1), .val (.int i2), .val (.int (1 : Int32)), .val (.int fi), .val (.int se), .val (.ref b1), .val (.int (0 : Int32)), .val (.int (1 : Int32)), .val (.int (2 : Int32)), .val (.int (1 : Int32)), .val (.int fi), .val (.int (3 : Int32)), .val (.int (4 : Int32)), .unset, .unset, .unset]) rfl wk) ?_
    show Fin1 p e below s (rm0Q Z i0 i1 i2 h0 n0) room_1.cells room_1.slots (T13.setTop (mkF m 126 #[.val (.int i0), .val (.int i1), .val (.int i2), .val (.int (1 : Int32)), .val (.int fi), .val (.int se), .val (.ref b1), .val (.int (0 : Int32)), .val (.int (1 : Int32)), .val (.int (2 : Int32)), .val (.int (1 : Int32)), .val (.int fi), .val (.int (3 : Int32)), .val (.int (4 : Int32)), .unset, .unset, .unset] []))
    refine own_st (fun wt wk => XS.iloadN X13.here hx rfl (hb hby at_126) rfl wk) ?_
    show Fin1 p e below s (rm0Q Z i0 i1 i2 h0 n0) room_1.cells room_1.slots (T13.setTop (mkF m 127 #[.val (.int i0), .val (.int i1), .val (.int i2), .val (.int (1 : Int32)), .val (.int fi), .val (.int se), .val (.ref b1), .val (.int (0 : Int32)), .val (.int (1 : Int32)), .val (.int (2 : Int32)), .val (.int (1 : Int32)), .val (.int fi), .val (.int (3 : Int32)), .val (.int (4 : Int32)), .unset, .unset, .unset] [(.int (1 : Int32))]))
    refine own_st (fun wt wk => XS.iconst X13.here hx rfl (hb hby at_127) wk) ?_
    show Fin1 p e below s (rm0Q Z i0 i1 i2 h0 n0) room_1.cells room_1.slots (T13.setTop (mkF m 128 #[.val (.int i0), .val (.int i1), .val (.int i2), .val (.int (1 : Int32)), .val (.int fi), .val (.int se), .val (.ref b1), .val (.int (0 : Int32)), .val (.int (1 : Int32)), .val (.int (2 : Int32)), .val (.int (1 : Int32)), .val (.int fi), .val (.int (3 : Int32)), .val (.int (4 : Int32)), .unset, .unset, .unset] [(.int (2 : Int32)), (.int (1 : Int32))]))
    refine own_st (fun wt wk => XS.icmpYes X13.here hx rfl (pc0 := 128) (pc' := 145) rfl (hb hby at_128) rfl (feq (by decide)).2 (by decide) (by decide) wk) ?_
    show Fin1 p e below s (rm0Q Z i0 i1 i2 h0 n0) room_1.cells room_1.slots (T13.setTop (mkF m 145 #[.val (.int i0), .val (.int i1), .val (.int i2), .val (.int (1 : Int32)), .val (.int fi), .val (.int se), .val (.ref b1), .val (.int (0 : Int32)), .val (.int (1 : Int32)), .val (.int (2 : Int32)), .val (.int (1 : Int32)), .val (.int fi), .val (.int (3 : Int32)), .val (.int (4 : Int32)), .unset, .unset, .unset] []))
    refine own_st (fun wt wk => XS.iloadN X13.here hx rfl (hb hby at_145) rfl wk) ?_
    show Fin1 p e below s (rm0Q Z i0 i1 i2 h0 n0) room_1.cells room_1.slots (T13.setTop (mkF m 146 #[.val (.int i0), .val (.int i1), .val (.int i2), .val (.int (1 : Int32)), .val (.int fi), .val (.int se), .val (.ref b1), .val (.int (0 : Int32)), .val (.int (1 : Int32)), .val (.int (2 : Int32)), .val (.int (1 : Int32)), .val (.int fi), .val (.int (3 : Int32)), .val (.int (4 : Int32)), .unset, .unset, .unset] [(.int (1 : Int32))]))
    refine own_st (fun wt wk => XS.iconst X13.here hx rfl (hb hby at_146) wk) ?_
    show Fin1 p e below s (rm0Q Z i0 i1 i2 h0 n0) room_1.cells room_1.slots (T13.setTop (mkF m 147 #[.val (.int i0), .val (.int i1), .val (.int i2), .val (.int (1 : Int32)), .val (.int fi), .val (.int se), .val (.ref b1), .val (.int (0 : Int32)), .val (.int (1 : Int32)), .val (.int (2 : Int32)), .val (.int (1 : Int32)), .val (.int fi), .val (.int (3 : Int32)), .val (.int (4 : Int32)), .unset, .unset, .unset] [(.int (1 : Int32)), (.int (1 : Int32))]))
    refine own_st (fun wt wk => XS.icmpNo X13.here hx rfl (hb hby at_147) rfl (teq (by decide)).2 wk) ?_
    show Fin1 p e below s (rm0Q Z i0 i1 i2 h0 n0) room_1.cells room_1.slots (T13.setTop (mkF m 150 #[.val (.int i0), .val (.int i1), .val (.int i2), .val (.int (1 : Int32)), .val (.int fi), .val (.int se), .val (.ref b1), .val (.int (0 : Int32)), .val (.int (1 : Int32)), .val (.int (2 : Int32)), .val (.int (1 : Int32)), .val (.int fi), .val (.int (3 : Int32)), .val (.int (4 : Int32)), .unset, .unset, .unset] []))
    refine own_st (fun wt wk => XS.iload X13.here hx rfl (hb hby at_150) rfl wk) ?_
    show Fin1 p e below s (rm0Q Z i0 i1 i2 h0 n0) room_1.cells room_1.slots (T13.setTop (mkF m 152 #[.val (.int i0), .val (.int i1), .val (.int i2), .val (.int (1 : Int32)), .val (.int fi), .val (.int se), .val (.ref b1), .val (.int (0 : Int32)), .val (.int (1 : Int32)), .val (.int (2 : Int32)), .val (.int (1 : Int32)), .val (.int fi), .val (.int (3 : Int32)), .val (.int (4 : Int32)), .unset, .unset, .unset] [(.int fi)]))
    refine own_st (fun wt wk => XS.istore X13.here hx rfl (hb hby at_152) rfl (l' := #[.val (.int i0), .val (.int i1), .val (.int i2), .val (.int (1 : Int32)), .val (.int fi), .val (.int se), .val (.ref b1), .val (.int (0 : Int32)), .val (.int (1 : Int32)), .val (.int (2 : Int32)), .val (.int (1 : Int32)), .val (.int fi), .val (.int (3 : Int32)), .val (.int (4 : Int32)), .val (.int fi), .unset, .unset]) rfl wk) ?_
    show Fin1 p e below s (rm0Q Z i0 i1 i2 h0 n0) room_1.cells room_1.slots (T13.setTop (mkF m 154 #[.val (.int i0), .val (.int i1), .val (.int i2), .val (.int (1 : Int32)), .val (.int fi), .val (.int se), .val (.ref b1), .val (.int (0 : Int32)), .val (.int (1 : Int32)), .val (.int (2 : Int32)), .val (.int (1 : Int32)), .val (.int fi), .val (.int (3 : Int32)), .val (.int (4 : Int32)), .val (.int fi), .unset, .unset] []))
    refine own_st (fun wt wk => XS.iconst X13.here hx rfl (hb hby at_154) wk) ?_
    show Fin1 p e below s (rm0Q Z i0 i1 i2 h0 n0) room_1.cells room_1.slots (T13.setTop (mkF m 155 #[.val (.int i0), .val (.int i1), .val (.int i2), .val (.int (1 : Int32)), .val (.int fi), .val (.int se), .val (.ref b1), .val (.int (0 : Int32)), .val (.int (1 : Int32)), .val (.int (2 : Int32)), .val (.int (1 : Int32)), .val (.int fi), .val (.int (3 : Int32)), .val (.int (4 : Int32)), .val (.int fi), .unset, .unset] [(.int (3 : Int32))]))
    refine own_st (fun wt wk => XS.istore X13.here hx rfl (hb hby at_155) rfl (l' := #[.val (.int i0), .val (.int i1), .val (.int i2), .val (.int (1 : Int32)), .val (.int fi), .val (.int se), .val (.ref b1), .val (.int (0 : Int32)), .val (.int (1 : Int32)), .val (.int (2 : Int32)), .val (.int (1 : Int32)), .val (.int fi), .val (.int (3 : Int32)), .val (.int (4 : Int32)), .val (.int fi), .val (.int (3 : Int32)), .unset]) rfl wk) ?_
    show Fin1 p e below s (rm0Q Z i0 i1 i2 h0 n0) room_1.cells room_1.slots (T13.setTop (mkF m 157 #[.val (.int i0), .val (.int i1), .val (.int i2), .val (.int (1 : Int32)), .val (.int fi), .val (.int se), .val (.ref b1), .val (.int (0 : Int32)), .val (.int (1 : Int32)), .val (.int (2 : Int32)), .val (.int (1 : Int32)), .val (.int fi), .val (.int (3 : Int32)), .val (.int (4 : Int32)), .val (.int fi), .val (.int (3 : Int32)), .unset] []))
    refine own_st (fun wt wk => XS.iconst X13.here hx rfl (hb hby at_157) wk) ?_
    show Fin1 p e below s (rm0Q Z i0 i1 i2 h0 n0) room_1.cells room_1.slots (T13.setTop (mkF m 158 #[.val (.int i0), .val (.int i1), .val (.int i2), .val (.int (1 : Int32)), .val (.int fi), .val (.int se), .val (.ref b1), .val (.int (0 : Int32)), .val (.int (1 : Int32)), .val (.int (2 : Int32)), .val (.int (1 : Int32)), .val (.int fi), .val (.int (3 : Int32)), .val (.int (4 : Int32)), .val (.int fi), .val (.int (3 : Int32)), .unset] [(.int (4 : Int32))]))
    refine own_st (fun wt wk => XS.istore X13.here hx rfl (hb hby at_158) rfl (l' := #[.val (.int i0), .val (.int i1), .val (.int i2), .val (.int (1 : Int32)), .val (.int fi), .val (.int se), .val (.ref b1), .val (.int (0 : Int32)), .val (.int (1 : Int32)), .val (.int (2 : Int32)), .val (.int (1 : Int32)), .val (.int fi), .val (.int (3 : Int32)), .val (.int (4 : Int32)), .val (.int fi), .val (.int (3 : Int32)), .val (.int (4 : Int32))]) rfl wk) ?_
    show Fin1 p e below s (rm0Q Z i0 i1 i2 h0 n0) room_1.cells room_1.slots (T13.setTop (mkF m 160 #[.val (.int i0), .val (.int i1), .val (.int i2), .val (.int (1 : Int32)), .val (.int fi), .val (.int se), .val (.ref b1), .val (.int (0 : Int32)), .val (.int (1 : Int32)), .val (.int (2 : Int32)), .val (.int (1 : Int32)), .val (.int fi), .val (.int (3 : Int32)), .val (.int (4 : Int32)), .val (.int fi), .val (.int (3 : Int32)), .val (.int (4 : Int32))] []))
    refine own_st (fun wt wk => XS.goto X13.here hx rfl (pc0 := 160) (pc' := 172) rfl (hb hby at_160) (by decide) (by decide) wk) ?_
    show Fin1 p e below s (rm0Q Z i0 i1 i2 h0 n0) room_1.cells room_1.slots (T13.setTop (mkF m 172 #[.val (.int i0), .val (.int i1), .val (.int i2), .val (.int (1 : Int32)), .val (.int fi), .val (.int se), .val (.ref b1), .val (.int (0 : Int32)), .val (.int (1 : Int32)), .val (.int (2 : Int32)), .val (.int (1 : Int32)), .val (.int fi), .val (.int (3 : Int32)), .val (.int (4 : Int32)), .val (.int fi), .val (.int (3 : Int32)), .val (.int (4 : Int32))] []))
    refine own_st (fun wt wk => XS.iload X13.here hx rfl (hb hby at_172) rfl wk) ?_
    show Fin1 p e below s (rm0Q Z i0 i1 i2 h0 n0) room_1.cells room_1.slots (T13.setTop (mkF m 174 #[.val (.int i0), .val (.int i1), .val (.int i2), .val (.int (1 : Int32)), .val (.int fi), .val (.int se), .val (.ref b1), .val (.int (0 : Int32)), .val (.int (1 : Int32)), .val (.int (2 : Int32)), .val (.int (1 : Int32)), .val (.int fi), .val (.int (3 : Int32)), .val (.int (4 : Int32)), .val (.int fi), .val (.int (3 : Int32)), .val (.int (4 : Int32))] [(.int (1 : Int32))]))
    refine own_st (fun wt wk => XS.ifNo X13.here hx rfl (hb hby at_174) rfl ((if0 _ _).trans (feq (by decide)).1) wk) ?_
    show Fin1 p e below s (rm0Q Z i0 i1 i2 h0 n0) room_1.cells room_1.slots (T13.setTop (mkF m 177 #[.val (.int i0), .val (.int i1), .val (.int i2), .val (.int (1 : Int32)), .val (.int fi), .val (.int se), .val (.ref b1), .val (.int (0 : Int32)), .val (.int (1 : Int32)), .val (.int (2 : Int32)), .val (.int (1 : Int32)), .val (.int fi), .val (.int (3 : Int32)), .val (.int (4 : Int32)), .val (.int fi), .val (.int (3 : Int32)), .val (.int (4 : Int32))] []))
    refine own_st (fun wt wk => XS.iload X13.here hx rfl (hb hby at_177) rfl wk) ?_
    show Fin1 p e below s (rm0Q Z i0 i1 i2 h0 n0) room_1.cells room_1.slots (T13.setTop (mkF m 179 #[.val (.int i0), .val (.int i1), .val (.int i2), .val (.int (1 : Int32)), .val (.int fi), .val (.int se), .val (.ref b1), .val (.int (0 : Int32)), .val (.int (1 : Int32)), .val (.int (2 : Int32)), .val (.int (1 : Int32)), .val (.int fi), .val (.int (3 : Int32)), .val (.int (4 : Int32)), .val (.int fi), .val (.int (3 : Int32)), .val (.int (4 : Int32))] [(.int fi)]))
    refine own_st (fun wt wk => XS.iload X13.here hx rfl (hb hby at_179) rfl wk) ?_
    show Fin1 p e below s (rm0Q Z i0 i1 i2 h0 n0) room_1.cells room_1.slots (T13.setTop (mkF m 181 #[.val (.int i0), .val (.int i1), .val (.int i2), .val (.int (1 : Int32)), .val (.int fi), .val (.int se), .val (.ref b1), .val (.int (0 : Int32)), .val (.int (1 : Int32)), .val (.int (2 : Int32)), .val (.int (1 : Int32)), .val (.int fi), .val (.int (3 : Int32)), .val (.int (4 : Int32)), .val (.int fi), .val (.int (3 : Int32)), .val (.int (4 : Int32))] [(.int fi), (.int fi)]))
    refine own_st (fun wt wk => XS.icmpNo X13.here hx rfl (hb hby at_181) rfl (teq (rfl : fi = fi)).2 wk) ?_
    show Fin1 p e below s (rm0Q Z i0 i1 i2 h0 n0) room_1.cells room_1.slots (T13.setTop (mkF m 184 #[.val (.int i0), .val (.int i1), .val (.int i2), .val (.int (1 : Int32)), .val (.int fi), .val (.int se), .val (.ref b1), .val (.int (0 : Int32)), .val (.int (1 : Int32)), .val (.int (2 : Int32)), .val (.int (1 : Int32)), .val (.int fi), .val (.int (3 : Int32)), .val (.int (4 : Int32)), .val (.int fi), .val (.int (3 : Int32)), .val (.int (4 : Int32))] []))
    refine own_st (fun wt wk => XS.iload X13.here hx rfl (hb hby at_184) rfl wk) ?_
    show Fin1 p e below s (rm0Q Z i0 i1 i2 h0 n0) room_1.cells room_1.slots (T13.setTop (mkF m 186 #[.val (.int i0), .val (.int i1), .val (.int i2), .val (.int (1 : Int32)), .val (.int fi), .val (.int se), .val (.ref b1), .val (.int (0 : Int32)), .val (.int (1 : Int32)), .val (.int (2 : Int32)), .val (.int (1 : Int32)), .val (.int fi), .val (.int (3 : Int32)), .val (.int (4 : Int32)), .val (.int fi), .val (.int (3 : Int32)), .val (.int (4 : Int32))] [(.int (3 : Int32))]))
    refine own_st (fun wt wk => XS.iload X13.here hx rfl (hb hby at_186) rfl wk) ?_
    show Fin1 p e below s (rm0Q Z i0 i1 i2 h0 n0) room_1.cells room_1.slots (T13.setTop (mkF m 188 #[.val (.int i0), .val (.int i1), .val (.int i2), .val (.int (1 : Int32)), .val (.int fi), .val (.int se), .val (.ref b1), .val (.int (0 : Int32)), .val (.int (1 : Int32)), .val (.int (2 : Int32)), .val (.int (1 : Int32)), .val (.int fi), .val (.int (3 : Int32)), .val (.int (4 : Int32)), .val (.int fi), .val (.int (3 : Int32)), .val (.int (4 : Int32))] [(.int (3 : Int32)), (.int (3 : Int32))]))
    refine own_st (fun wt wk => XS.icmpNo X13.here hx rfl (hb hby at_188) rfl (teq (by decide)).2 wk) ?_
    show Fin1 p e below s (rm0Q Z i0 i1 i2 h0 n0) room_1.cells room_1.slots (T13.setTop (mkF m 191 #[.val (.int i0), .val (.int i1), .val (.int i2), .val (.int (1 : Int32)), .val (.int fi), .val (.int se), .val (.ref b1), .val (.int (0 : Int32)), .val (.int (1 : Int32)), .val (.int (2 : Int32)), .val (.int (1 : Int32)), .val (.int fi), .val (.int (3 : Int32)), .val (.int (4 : Int32)), .val (.int fi), .val (.int (3 : Int32)), .val (.int (4 : Int32))] []))
    refine own_st (fun wt wk => XS.iload X13.here hx rfl (hb hby at_191) rfl wk) ?_
    show Fin1 p e below s (rm0Q Z i0 i1 i2 h0 n0) room_1.cells room_1.slots (T13.setTop (mkF m 193 #[.val (.int i0), .val (.int i1), .val (.int i2), .val (.int (1 : Int32)), .val (.int fi), .val (.int se), .val (.ref b1), .val (.int (0 : Int32)), .val (.int (1 : Int32)), .val (.int (2 : Int32)), .val (.int (1 : Int32)), .val (.int fi), .val (.int (3 : Int32)), .val (.int (4 : Int32)), .val (.int fi), .val (.int (3 : Int32)), .val (.int (4 : Int32))] [(.int (4 : Int32))]))
    refine own_st (fun wt wk => XS.iload X13.here hx rfl (hb hby at_193) rfl wk) ?_
    show Fin1 p e below s (rm0Q Z i0 i1 i2 h0 n0) room_1.cells room_1.slots (T13.setTop (mkF m 195 #[.val (.int i0), .val (.int i1), .val (.int i2), .val (.int (1 : Int32)), .val (.int fi), .val (.int se), .val (.ref b1), .val (.int (0 : Int32)), .val (.int (1 : Int32)), .val (.int (2 : Int32)), .val (.int (1 : Int32)), .val (.int fi), .val (.int (3 : Int32)), .val (.int (4 : Int32)), .val (.int fi), .val (.int (3 : Int32)), .val (.int (4 : Int32))] [(.int (4 : Int32)), (.int (4 : Int32))]))
    refine own_st (fun wt wk => XS.icmpNo X13.here hx rfl (hb hby at_195) rfl (teq (by decide)).2 wk) ?_
    show Fin1 p e below s (rm0Q Z i0 i1 i2 h0 n0) room_1.cells room_1.slots (T13.setTop (mkF m 198 #[.val (.int i0), .val (.int i1), .val (.int i2), .val (.int (1 : Int32)), .val (.int fi), .val (.int se), .val (.ref b1), .val (.int (0 : Int32)), .val (.int (1 : Int32)), .val (.int (2 : Int32)), .val (.int (1 : Int32)), .val (.int fi), .val (.int (3 : Int32)), .val (.int (4 : Int32)), .val (.int fi), .val (.int (3 : Int32)), .val (.int (4 : Int32))] []))
    refine own_st (fun wt wk => XS.aload X13.here hx rfl (hb hby at_198) rfl rfl wk) ?_
    show Fin1 p e below s (rm0Q Z i0 i1 i2 h0 n0) room_1.cells room_1.slots (T13.setTop (mkF m 200 #[.val (.int i0), .val (.int i1), .val (.int i2), .val (.int (1 : Int32)), .val (.int fi), .val (.int se), .val (.ref b1), .val (.int (0 : Int32)), .val (.int (1 : Int32)), .val (.int (2 : Int32)), .val (.int (1 : Int32)), .val (.int fi), .val (.int (3 : Int32)), .val (.int (4 : Int32)), .val (.int fi), .val (.int (3 : Int32)), .val (.int (4 : Int32))] [(.ref b1)]))
    obtain ⟨v14, T14, h14, L14, X14, e14, hQ14, st14⟩ := own_virtual X13 hx hZ hown (hw _ (List.mem_of_getElem? (i := 27) rfl)) (hw _ (List.mem_of_getElem? (i := 28) rfl)) (hw _ (List.mem_of_getElem? (i := 30) rfl)) (hw _ (List.mem_of_getElem? (i := 29) rfl)) (hw _ (List.mem_of_getElem? (i := 31) rfl)) (hw _ (List.mem_of_getElem? (i := 3) rfl)) (by decide) (a := b1) E_b1 (rmH l Z a0 hw b1 (5 : Int32) (0 : Int32) h13 n0 Z0 Fc Fl) e13 (g := (mkF m 200 #[.val (.int i0), .val (.int i1), .val (.int i2), .val (.int (1 : Int32)), .val (.int fi), .val (.int se), .val (.ref b1), .val (.int (0 : Int32)), .val (.int (1 : Int32)), .val (.int (2 : Int32)), .val (.int (1 : Int32)), .val (.int fi), .val (.int (3 : Int32)), .val (.int (4 : Int32)), .val (.int fi), .val (.int (3 : Int32)), .val (.int (4 : Int32))] [(.ref b1)])) rfl (by rw [hml]; rfl) (argsL := []) (rest := []) (lenOf pd_3 rfl) rfl (W := 0) (by show 2 * 0 + _ ≤ _; exact Nat.le_of_eq rfl) (hb hby at_200) (by decide) (by decide) (by decide) (by decide)
    obtain ⟨rfl, N14q, hh14⟩ := hQ14
    have N14 := Fr.app N13 N14q
    rw [hh14] at e14
    refine own_st st14 ?_
    show Fin1 p e below s (rm0Q Z i0 i1 i2 h0 n0) room_1.cells room_1.slots (T14.setTop (mkF m 203 #[.val (.int i0), .val (.int i1), .val (.int i2), .val (.int (1 : Int32)), .val (.int fi), .val (.int se), .val (.ref b1), .val (.int (0 : Int32)), .val (.int (1 : Int32)), .val (.int (2 : Int32)), .val (.int (1 : Int32)), .val (.int fi), .val (.int (3 : Int32)), .val (.int (4 : Int32)), .val (.int fi), .val (.int (3 : Int32)), .val (.int (4 : Int32))] [(.int ((5 : Int32) - (0 : Int32)))]))
    refine own_st (fun wt wk => XS.bipush X14.here hx rfl (hb hby at_203) wk) ?_
    show Fin1 p e below s (rm0Q Z i0 i1 i2 h0 n0) room_1.cells room_1.slots (T14.setTop (mkF m 205 #[.val (.int i0), .val (.int i1), .val (.int i2), .val (.int (1 : Int32)), .val (.int fi), .val (.int se), .val (.ref b1), .val (.int (0 : Int32)), .val (.int (1 : Int32)), .val (.int (2 : Int32)), .val (.int (1 : Int32)), .val (.int fi), .val (.int (3 : Int32)), .val (.int (4 : Int32)), .val (.int fi), .val (.int (3 : Int32)), .val (.int (4 : Int32))] [(.int (6 : Int32)), (.int ((5 : Int32) - (0 : Int32)))]))
    refine own_st (fun wt wk => XS.iloadN X14.here hx rfl (hb hby at_205) rfl wk) ?_
    show Fin1 p e below s (rm0Q Z i0 i1 i2 h0 n0) room_1.cells room_1.slots (T14.setTop (mkF m 206 #[.val (.int i0), .val (.int i1), .val (.int i2), .val (.int (1 : Int32)), .val (.int fi), .val (.int se), .val (.ref b1), .val (.int (0 : Int32)), .val (.int (1 : Int32)), .val (.int (2 : Int32)), .val (.int (1 : Int32)), .val (.int fi), .val (.int (3 : Int32)), .val (.int (4 : Int32)), .val (.int fi), .val (.int (3 : Int32)), .val (.int (4 : Int32))] [(.int (1 : Int32)), (.int (6 : Int32)), (.int ((5 : Int32) - (0 : Int32)))]))
    refine own_st (fun wt wk => XS.isub X14.here hx rfl (hb hby at_206) rfl wk) ?_
    show Fin1 p e below s (rm0Q Z i0 i1 i2 h0 n0) room_1.cells room_1.slots (T14.setTop (mkF m 207 #[.val (.int i0), .val (.int i1), .val (.int i2), .val (.int (1 : Int32)), .val (.int fi), .val (.int se), .val (.ref b1), .val (.int (0 : Int32)), .val (.int (1 : Int32)), .val (.int (2 : Int32)), .val (.int (1 : Int32)), .val (.int fi), .val (.int (3 : Int32)), .val (.int (4 : Int32)), .val (.int fi), .val (.int (3 : Int32)), .val (.int (4 : Int32))] [(.int ((6 : Int32) - (1 : Int32))), (.int ((5 : Int32) - (0 : Int32)))]))
    refine own_st (fun wt wk => XS.icmpNo X14.here hx rfl (hb hby at_207) rfl (teq (by decide)).2 wk) ?_
    show Fin1 p e below s (rm0Q Z i0 i1 i2 h0 n0) room_1.cells room_1.slots (T14.setTop (mkF m 210 #[.val (.int i0), .val (.int i1), .val (.int i2), .val (.int (1 : Int32)), .val (.int fi), .val (.int se), .val (.ref b1), .val (.int (0 : Int32)), .val (.int (1 : Int32)), .val (.int (2 : Int32)), .val (.int (1 : Int32)), .val (.int fi), .val (.int (3 : Int32)), .val (.int (4 : Int32)), .val (.int fi), .val (.int (3 : Int32)), .val (.int (4 : Int32))] []))
    refine own_st (fun wt wk => XS.iconst X14.here hx rfl (hb hby at_210) wk) ?_
    show Fin1 p e below s (rm0Q Z i0 i1 i2 h0 n0) room_1.cells room_1.slots (T14.setTop (mkF m 211 #[.val (.int i0), .val (.int i1), .val (.int i2), .val (.int (1 : Int32)), .val (.int fi), .val (.int se), .val (.ref b1), .val (.int (0 : Int32)), .val (.int (1 : Int32)), .val (.int (2 : Int32)), .val (.int (1 : Int32)), .val (.int fi), .val (.int (3 : Int32)), .val (.int (4 : Int32)), .val (.int fi), .val (.int (3 : Int32)), .val (.int (4 : Int32))] [(.int (1 : Int32))]))
    refine own_st (fun wt wk => XS.goto X14.here hx rfl (pc0 := 211) (pc' := 215) rfl (hb hby at_211) (by decide) (by decide) wk) ?_
    show Fin1 p e below s (rm0Q Z i0 i1 i2 h0 n0) room_1.cells room_1.slots (T14.setTop (mkF m 215 #[.val (.int i0), .val (.int i1), .val (.int i2), .val (.int (1 : Int32)), .val (.int fi), .val (.int se), .val (.ref b1), .val (.int (0 : Int32)), .val (.int (1 : Int32)), .val (.int (2 : Int32)), .val (.int (1 : Int32)), .val (.int fi), .val (.int (3 : Int32)), .val (.int (4 : Int32)), .val (.int fi), .val (.int (3 : Int32)), .val (.int (4 : Int32))] [(.int (1 : Int32))]))
    exact own_retZ X14 hx hlk hret (hb hby at_215) (z := (1 : Int32)) (by decide) (by rw [e14]; exact ⟨rfl, N14⟩) (by decide) (by decide)
  · show Fin1 p e below s (rm0Q Z i0 i1 i2 h0 n0) room_1.cells room_1.slots (T5.setTop (mkF m 83 #[.val (.int i0), .val (.int i1), .val (.int i2), .val (.int (2 : Int32)), .val (.int fi), .val (.int se), .val (.ref b1), .val (.int (0 : Int32)), .val (.int (1 : Int32)), .val (.int (2 : Int32)), .val (.int (1 : Int32)), .unset, .unset, .unset, .unset, .unset, .unset] [(.int (1 : Int32)), (.int (2 : Int32))]))
    refine own_st (fun wt wk => XS.icmpNo X5.here hx rfl (hb hby at_83) rfl (flt (by decide)).1 wk) ?_
    show Fin1 p e below s (rm0Q Z i0 i1 i2 h0 n0) room_1.cells room_1.slots (T5.setTop (mkF m 86 #[.val (.int i0), .val (.int i1), .val (.int i2), .val (.int (2 : Int32)), .val (.int fi), .val (.int se), .val (.ref b1), .val (.int (0 : Int32)), .val (.int (1 : Int32)), .val (.int (2 : Int32)), .val (.int (1 : Int32)), .unset, .unset, .unset, .unset, .unset, .unset] []))
    refine own_st (fun wt wk => XS.aload X5.here hx rfl (hb hby at_86) rfl rfl wk) ?_
    show Fin1 p e below s (rm0Q Z i0 i1 i2 h0 n0) room_1.cells room_1.slots (T5.setTop (mkF m 88 #[.val (.int i0), .val (.int i1), .val (.int i2), .val (.int (2 : Int32)), .val (.int fi), .val (.int se), .val (.ref b1), .val (.int (0 : Int32)), .val (.int (1 : Int32)), .val (.int (2 : Int32)), .val (.int (1 : Int32)), .unset, .unset, .unset, .unset, .unset, .unset] [(.ref b1)]))
    refine own_st (fun wt wk => XS.iload X5.here hx rfl (hb hby at_88) rfl wk) ?_
    show Fin1 p e below s (rm0Q Z i0 i1 i2 h0 n0) room_1.cells room_1.slots (T5.setTop (mkF m 90 #[.val (.int i0), .val (.int i1), .val (.int i2), .val (.int (2 : Int32)), .val (.int fi), .val (.int se), .val (.ref b1), .val (.int (0 : Int32)), .val (.int (1 : Int32)), .val (.int (2 : Int32)), .val (.int (1 : Int32)), .unset, .unset, .unset, .unset, .unset, .unset] [(.int fi), (.ref b1)]))
    obtain ⟨v15, T15, h15, L15, X15, e15, hQ15, st15⟩ := own_virtual X5 hx hZ hown (hw _ (List.mem_of_getElem? (i := 22) rfl)) (hw _ (List.mem_of_getElem? (i := 23) rfl)) (hw _ (List.mem_of_getElem? (i := 25) rfl)) (hw _ (List.mem_of_getElem? (i := 24) rfl)) (hw _ (List.mem_of_getElem? (i := 26) rfl)) (hw _ (List.mem_of_getElem? (i := 3) rfl)) (by decide) (a := b1) E_b1 (rmG l Z a0 hw b1 fi (3 : Int32) (0 : Int32) (1 : Int32) 0 [(.int (0 : Int32)), (.int (0 : Int32)), (.int (0 : Int32)), (.int (0 : Int32)), (.int (0 : Int32)), (.int (0 : Int32)), (.int (0 : Int32)), (.int (0 : Int32))] t kt h5 n0 Z0 g_b1 g_t E_b1 Fg Fc Fl V_t ne_b1_t (by decide) (by decide) rfl (by simp) (by decide)) e5 (g := (mkF m 90 #[.val (.int i0), .val (.int i1), .val (.int i2), .val (.int (2 : Int32)), .val (.int fi), .val (.int se), .val (.ref b1), .val (.int (0 : Int32)), .val (.int (1 : Int32)), .val (.int (2 : Int32)), .val (.int (1 : Int32)), .unset, .unset, .unset, .unset, .unset, .unset] [(.int fi), (.ref b1)])) rfl (by rw [hml]; rfl) (argsL := [(.int fi)]) (rest := []) (lenOf pd_4 rfl) rfl (W := 0) (by show 2 * 0 + _ ≤ _; exact Nat.le_of_eq rfl) (hb hby at_90) (by decide) (by decide) (by decide) (by decide)
    obtain ⟨rfl, N15q, K15, Fg, Fc, Fl, V_t⟩ := hQ15
    have N15 := Fr.app N5 N15q
    have Z0 := Nat.le_trans Z0 K15.1
    have E_b1 := E_b1.keep K15
    refine own_st st15 ?_
    show Fin1 p e below s (rm0Q Z i0 i1 i2 h0 n0) room_1.cells room_1.slots (T15.setTop (mkF m 93 #[.val (.int i0), .val (.int i1), .val (.int i2), .val (.int (2 : Int32)), .val (.int fi), .val (.int se), .val (.ref b1), .val (.int (0 : Int32)), .val (.int (1 : Int32)), .val (.int (2 : Int32)), .val (.int (1 : Int32)), .unset, .unset, .unset, .unset, .unset, .unset] []))
    refine own_st (fun wt wk => XS.iloadN X15.here hx rfl (hb hby at_93) rfl wk) ?_
    show Fin1 p e below s (rm0Q Z i0 i1 i2 h0 n0) room_1.cells room_1.slots (T15.setTop (mkF m 94 #[.val (.int i0), .val (.int i1), .val (.int i2), .val (.int (2 : Int32)), .val (.int fi), .val (.int se), .val (.ref b1), .val (.int (0 : Int32)), .val (.int (1 : Int32)), .val (.int (2 : Int32)), .val (.int (1 : Int32)), .unset, .unset, .unset, .unset, .unset, .unset] [(.int (2 : Int32))]))
    refine own_st (fun wt wk => XS.iconst X15.here hx rfl (hb hby at_94) wk) ?_
    show Fin1 p e below s (rm0Q Z i0 i1 i2 h0 n0) room_1.cells room_1.slots (T15.setTop (mkF m 95 #[.val (.int i0), .val (.int i1), .val (.int i2), .val (.int (2 : Int32)), .val (.int fi), .val (.int se), .val (.ref b1), .val (.int (0 : Int32)), .val (.int (1 : Int32)), .val (.int (2 : Int32)), .val (.int (1 : Int32)), .unset, .unset, .unset, .unset, .unset, .unset] [(.int (2 : Int32)), (.int (2 : Int32))]))
    refine own_st (fun wt wk => XS.icmpNo X15.here hx rfl (hb hby at_95) rfl (flt (by decide)).1 wk) ?_
    show Fin1 p e below s (rm0Q Z i0 i1 i2 h0 n0) room_1.cells room_1.slots (T15.setTop (mkF m 98 #[.val (.int i0), .val (.int i1), .val (.int i2), .val (.int (2 : Int32)), .val (.int fi), .val (.int se), .val (.ref b1), .val (.int (0 : Int32)), .val (.int (1 : Int32)), .val (.int (2 : Int32)), .val (.int (1 : Int32)), .unset, .unset, .unset, .unset, .unset, .unset] []))
    refine own_st (fun wt wk => XS.aload X15.here hx rfl (hb hby at_98) rfl rfl wk) ?_
    show Fin1 p e below s (rm0Q Z i0 i1 i2 h0 n0) room_1.cells room_1.slots (T15.setTop (mkF m 100 #[.val (.int i0), .val (.int i1), .val (.int i2), .val (.int (2 : Int32)), .val (.int fi), .val (.int se), .val (.ref b1), .val (.int (0 : Int32)), .val (.int (1 : Int32)), .val (.int (2 : Int32)), .val (.int (1 : Int32)), .unset, .unset, .unset, .unset, .unset, .unset] [(.ref b1)]))
    refine own_st (fun wt wk => XS.iload X15.here hx rfl (hb hby at_100) rfl wk) ?_
    show Fin1 p e below s (rm0Q Z i0 i1 i2 h0 n0) room_1.cells room_1.slots (T15.setTop (mkF m 102 #[.val (.int i0), .val (.int i1), .val (.int i2), .val (.int (2 : Int32)), .val (.int fi), .val (.int se), .val (.ref b1), .val (.int (0 : Int32)), .val (.int (1 : Int32)), .val (.int (2 : Int32)), .val (.int (1 : Int32)), .unset, .unset, .unset, .unset, .unset, .unset] [(.int se), (.ref b1)]))
    obtain ⟨v16, T16, h16, L16, X16, e16, hQ16, st16⟩ := own_virtual X15 hx hZ hown (hw _ (List.mem_of_getElem? (i := 22) rfl)) (hw _ (List.mem_of_getElem? (i := 23) rfl)) (hw _ (List.mem_of_getElem? (i := 25) rfl)) (hw _ (List.mem_of_getElem? (i := 24) rfl)) (hw _ (List.mem_of_getElem? (i := 26) rfl)) (hw _ (List.mem_of_getElem? (i := 3) rfl)) (by decide) (a := b1) E_b1 (rmG l Z a0 hw b1 se (3 : Int32) (1 : Int32) (2 : Int32) 1 [(.int fi), (.int (0 : Int32)), (.int (0 : Int32)), (.int (0 : Int32)), (.int (0 : Int32)), (.int (0 : Int32)), (.int (0 : Int32)), (.int (0 : Int32))] t kt h15 n0 Z0 g_b1 g_t E_b1 Fg Fc Fl V_t ne_b1_t (by decide) (by decide) rfl (by simp) (by decide)) e15 (g := (mkF m 102 #[.val (.int i0), .val (.int i1), .val (.int i2), .val (.int (2 : Int32)), .val (.int fi), .val (.int se), .val (.ref b1), .val (.int (0 : Int32)), .val (.int (1 : Int32)), .val (.int (2 : Int32)), .val (.int (1 : Int32)), .unset, .unset, .unset, .unset, .unset, .unset] [(.int se), (.ref b1)])) rfl (by rw [hml]; rfl) (argsL := [(.int se)]) (rest := []) (lenOf pd_4 rfl) rfl (W := 0) (by show 2 * 0 + _ ≤ _; exact Nat.le_of_eq rfl) (hb hby at_102) (by decide) (by decide) (by decide) (by decide)
    obtain ⟨rfl, N16q, K16, Fg, Fc, Fl, V_t⟩ := hQ16
    have N16 := Fr.app N15 N16q
    have Z0 := Nat.le_trans Z0 K16.1
    have E_b1 := E_b1.keep K16
    refine own_st st16 ?_
    show Fin1 p e below s (rm0Q Z i0 i1 i2 h0 n0) room_1.cells room_1.slots (T16.setTop (mkF m 105 #[.val (.int i0), .val (.int i1), .val (.int i2), .val (.int (2 : Int32)), .val (.int fi), .val (.int se), .val (.ref b1), .val (.int (0 : Int32)), .val (.int (1 : Int32)), .val (.int (2 : Int32)), .val (.int (1 : Int32)), .unset, .unset, .unset, .unset, .unset, .unset] []))
    refine own_st (fun wt wk => XS.aload X16.here hx rfl (hb hby at_105) rfl rfl wk) ?_
    show Fin1 p e below s (rm0Q Z i0 i1 i2 h0 n0) room_1.cells room_1.slots (T16.setTop (mkF m 107 #[.val (.int i0), .val (.int i1), .val (.int i2), .val (.int (2 : Int32)), .val (.int fi), .val (.int se), .val (.ref b1), .val (.int (0 : Int32)), .val (.int (1 : Int32)), .val (.int (2 : Int32)), .val (.int (1 : Int32)), .unset, .unset, .unset, .unset, .unset, .unset] [(.ref b1)]))
    obtain ⟨v17, T17, h17, L17, X17, e17, hQ17, st17⟩ := own_virtual X16 hx hZ hown (hw _ (List.mem_of_getElem? (i := 13) rfl)) (hw _ (List.mem_of_getElem? (i := 14) rfl)) (hw _ (List.mem_of_getElem? (i := 16) rfl)) (hw _ (List.mem_of_getElem? (i := 15) rfl)) (hw _ (List.mem_of_getElem? (i := 17) rfl)) (hw _ (List.mem_of_getElem? (i := 3) rfl)) (by decide) (a := b1) E_b1 (rmT1 l Z a0 hw b1 (3 : Int32) (2 : Int32) (1 : Int32) se [(.int fi), (.int se), (.int (0 : Int32)), (.int (0 : Int32)), (.int (0 : Int32)), (.int (0 : Int32)), (.int (0 : Int32)), (.int (0 : Int32))] t kt h16 n0 Z0 g_b1 E_b1 Fg Fc Fl V_t ne_b1_t (by decide) (by decide) (by decide) rfl) e16 (g := (mkF m 107 #[.val (.int i0), .val (.int i1), .val (.int i2), .val (.int (2 : Int32)), .val (.int fi), .val (.int se), .val (.ref b1), .val (.int (0 : Int32)), .val (.int (1 : Int32)), .val (.int (2 : Int32)), .val (.int (1 : Int32)), .unset, .unset, .unset, .unset, .unset, .unset] [(.ref b1)])) rfl (by rw [hml]; rfl) (argsL := []) (rest := []) (lenOf pd_3 rfl) rfl (W := 0) (by show 2 * 0 + _ ≤ _; exact Nat.le_of_eq rfl) (hb hby at_107) (by decide) (by decide) (by decide) (by decide)
    obtain ⟨rfl, N17q, K17, Fg, Fc, Fl⟩ := hQ17
    have N17 := Fr.app N16 N17q
    have Z0 := Nat.le_trans Z0 K17.1
    have E_b1 := E_b1.keep K17
    have V_t := V_t.keep K17 (ninS (Ne.symm ne_b1_t) nin0)
    refine own_st st17 ?_
    show Fin1 p e below s (rm0Q Z i0 i1 i2 h0 n0) room_1.cells room_1.slots (T17.setTop (mkF m 110 #[.val (.int i0), .val (.int i1), .val (.int i2), .val (.int (2 : Int32)), .val (.int fi), .val (.int se), .val (.ref b1), .val (.int (0 : Int32)), .val (.int (1 : Int32)), .val (.int (2 : Int32)), .val (.int (1 : Int32)), .unset, .unset, .unset, .unset, .unset, .unset] [(.int se)]))
    refine own_st (fun wt wk => XS.istore X17.here hx rfl (hb hby at_110) rfl (l' := #[.val (.int i0), .val (.int i1), .val (.int i2), .val (.int (2 : Int32)), .val (.int fi), .val (.int se), .val (.ref b1), .val (.int (0 : Int32)), .val (.int (1 : Int32)), .val (.int (2 : Int32)), .val (.int (1 : Int32)), .val (.int se), .unset, .unset, .unset, .unset, .unset]) rfl wk) ?_
    show Fin1 p e below s (rm0Q Z i0 i1 i2 h0 n0) room_1.cells room_1.slots (T17.setTop (mkF m 112 #[.val (.int i0), .val (.int i1), .val (.int i2), .val (.int (2 : Int32)), .val (.int fi), .val (.int se), .val (.ref b1), .val (.int (0 : Int32)), .val (.int (1 : Int32)), .val (.int (2 : Int32)), .val (.int (1 : Int32)), .val (.int se), .unset, .unset, .unset, .unset, .unset] []))
    refine own_st (fun wt wk => XS.aload X17.here hx rfl (hb hby at_112) rfl rfl wk) ?_
    show Fin1 p e below s (rm0Q Z i0 i1 i2 h0 n0) room_1.cells room_1.slots (T17.setTop (mkF m 114 #[.val (.int i0), .val (.int i1), .val (.int i2), .val (.int (2 : Int32)), .val (.int fi), .val (.int se), .val (.ref b1), .val (.int (0 : Int32)), .val (.int (1 : Int32)), .val (.int (2 : Int32)), .val (.int (1 : Int32)), .val (.int se), .unset, .unset, .unset, .unset, .unset] [(.ref b1)]))
    obtain ⟨v18, T18, h18, L18, X18, e18, hQ18, st18⟩ := own_virtual X17 hx hZ hown (hw _ (List.mem_of_getElem? (i := 13) rfl)) (hw _ (List.mem_of_getElem? (i := 14) rfl)) (hw _ (List.mem_of_getElem? (i := 16) rfl)) (hw _ (List.mem_of_getElem? (i := 15) rfl)) (hw _ (List.mem_of_getElem? (i := 17) rfl)) (hw _ (List.mem_of_getElem? (i := 3) rfl)) (by decide) (a := b1) E_b1 (rmT1 l Z a0 hw b1 (3 : Int32) (1 : Int32) (0 : Int32) fi [(.int fi), (.int se), (.int (0 : Int32)), (.int (0 : Int32)), (.int (0 : Int32)), (.int (0 : Int32)), (.int (0 : Int32)), (.int (0 : Int32))] t kt h17 n0 Z0 g_b1 E_b1 Fg Fc Fl V_t ne_b1_t (by decide) (by decide) (by decide) rfl) e17 (g := (mkF m 114 #[.val (.int i0), .val (.int i1), .val (.int i2), .val (.int (2 : Int32)), .val (.int fi), .val (.int se), .val (.ref b1), .val (.int (0 : Int32)), .val (.int (1 : Int32)), .val (.int (2 : Int32)), .val (.int (1 : Int32)), .val (.int se), .unset, .unset, .unset, .unset, .unset] [(.ref b1)])) rfl (by rw [hml]; rfl) (argsL := []) (rest := []) (lenOf pd_3 rfl) rfl (W := 0) (by show 2 * 0 + _ ≤ _; exact Nat.le_of_eq rfl) (hb hby at_114) (by decide) (by decide) (by decide) (by decide)
    obtain ⟨rfl, N18q, K18, Fg, Fc, Fl⟩ := hQ18
    have N18 := Fr.app N17 N18q
    have Z0 := Nat.le_trans Z0 K18.1
    have E_b1 := E_b1.keep K18
    have V_t := V_t.keep K18 (ninS (Ne.symm ne_b1_t) nin0)
    refine own_st st18 ?_
    show Fin1 p e below s (rm0Q Z i0 i1 i2 h0 n0) room_1.cells room_1.slots (T18.setTop (mkF m 117 #[.val (.int i0), .val (.int i1), .val (.int i2), .val (.int (2 : Int32)), .val (.int fi), .val (.int se), .val (.ref b1), .val (.int (0 : Int32)), .val (.int (1 : Int32)), .val (.int (2 : Int32)), .val (.int (1 : Int32)), .val (.int se), .unset, .unset, .unset, .unset, .unset] [(.int fi)]))
    refine own_st (fun wt wk => XS.istore X18.here hx rfl (hb hby at_117) rfl (l' := #[.val (.int i0), .val (.int i1), .val (.int i2), .val (.int (2 : Int32)), .val (.int fi), .val (.int se), .val (.ref b1), .val (.int (0 : Int32)), .val (.int (1 : Int32)), .val (.int (2 : Int32)), .val (.int (1 : Int32)), .val (.int se), .val (.int fi), .unset, .unset, .unset, .unset]) rfl wk) ?_
    show Fin1 p e below s (rm0Q Z i0 i1 i2 h0 n0) room_1.cells room_1.slots (T18.setTop (mkF m 119 #[.val (.int i0), .val (.int i1), .val (.int i2), .val (.int (2 : Int32)), .val (.int fi), .val (.int se), .val (.ref b1), .val (.int (0 : Int32)), .val (.int (1 : Int32)), .val (.int (2 : Int32)), .val (.int (1 : Int32)), .val (.int se), .val (.int fi), .unset, .unset, .unset, .unset] []))
    refine own_st (fun wt wk => XS.aload X18.here hx rfl (hb hby at_119) rfl rfl wk) ?_
    show Fin1 p e below s (rm0Q Z i0 i1 i2 h0 n0) room_1.cells room_1.slots (T18.setTop (mkF m 121 #[.val (.int i0), .val (.int i1), .val (.int i2), .val (.int (2 : Int32)), .val (.int fi), .val (.int se), .val (.ref b1), .val (.int (0 : Int32)), .val (.int (1 : Int32)), .val (.int (2 : Int32)), .val (.int (1 : Int32)), .val (.int se), .val (.int fi), .unset, .unset, .unset, .unset] [(.ref b1)]))
    obtain ⟨v19, T19, h19, L19, X19, e19, hQ19, st19⟩ := own_virtual X18 hx hZ hown (hw _ (List.mem_of_getElem? (i := 13) rfl)) (hw _ (List.mem_of_getElem? (i := 14) rfl)) (hw _ (List.mem_of_getElem? (i := 16) rfl)) (hw _ (List.mem_of_getElem? (i := 15) rfl)) (hw _ (List.mem_of_getElem? (i := 17) rfl)) (hw _ (List.mem_of_getElem? (i := 3) rfl)) (by decide) (a := b1) E_b1 (rmT0 l Z a0 hw b1 (3 : Int32) (4 : Int32) t h18 n0 Z0 g_b1 E_b1 Fg Fc Fl (by decide)) e18 (g := (mkF m 121 #[.val (.int i0), .val (.int i1), .val (.int i2), .val (.int (2 : Int32)), .val (.int fi), .val (.int se), .val (.ref b1), .val (.int (0 : Int32)), .val (.int (1 : Int32)), .val (.int (2 : Int32)), .val (.int (1 : Int32)), .val (.int se), .val (.int fi), .unset, .unset, .unset, .unset] [(.ref b1)])) rfl (by rw [hml]; rfl) (argsL := []) (rest := []) (lenOf pd_3 rfl) rfl (W := 0) (by show 2 * 0 + _ ≤ _; exact Nat.le_of_eq rfl) (hb hby at_121) (by decide) (by decide) (by decide) (by decide)
    obtain ⟨rfl, N19q, K19, Fg, Fc, Fl⟩ := hQ19
    have N19 := Fr.app N18 N19q
    have Z0 := Nat.le_trans Z0 K19.1
    have E_b1 := E_b1.keep K19
    have V_t := V_t.keep K19 (ninS (Ne.symm ne_b1_t) nin0)
    refine own_st st19 ?_
    show Fin1 p e below s (rm0Q Z i0 i1 i2 h0 n0) room_1.cells room_1.slots (T19.setTop (mkF m 124 #[.val (.int i0), .val (.int i1), .val (.int i2), .val (.int (2 : Int32)), .val (.int fi), .val (.int se), .val (.ref b1), .val (.int (0 : Int32)), .val (.int (1 : Int32)), .val (.int (2 : Int32)), .val (.int (1 : Int32)), .val (.int se), .val (.int fi), .unset, .unset, .unset, .unset] [(.int (3 : Int32))]))
    refine own_st (fun wt wk => XS.istore X19.here hx rfl (hb hby at_124) rfl (l' := #[.val (.int i0), .val (.int i1), .val (.int i2), .val (.int (2 : Int32)), .val (.int fi), .val (.int se), .val (.ref b1), .val (.int (0 : Int32)), .val (.int (1 : Int32)), .val (.int (2 : Int32)), .val (.int (1 : Int32)), .val (.int se), .val (.int fi), .val (.int (3 : Int32)), .unset, .unset, .unset]) rfl wk) ?_
    show Fin1 p e below s (rm0Q Z i0 i1 i2 h0 n0) room_1.cells room_1.slots (T19.setTop (mkF m 126 #[.val (.int i0), .val (.int i1), .val (.int i2), .val (.int (2 : Int32)), .val (.int fi), .val (.int se), .val (.ref b1), .val (.int (0 : Int32)), .val (.int (1 : Int32)), .val (.int (2 : Int32)), .val (.int (1 : Int32)), .val (.int se), .val (.int fi), .val (.int (3 : Int32)), .unset, .unset, .unset] []))
    refine own_st (fun wt wk => XS.iloadN X19.here hx rfl (hb hby at_126) rfl wk) ?_
    show Fin1 p e below s (rm0Q Z i0 i1 i2 h0 n0) room_1.cells room_1.slots (T19.setTop (mkF m 127 #[.val (.int i0), .val (.int i1), .val (.int i2), .val (.int (2 : Int32)), .val (.int fi), .val (.int se), .val (.ref b1), .val (.int (0 : Int32)), .val (.int (1 : Int32)), .val (.int (2 : Int32)), .val (.int (1 : Int32)), .val (.int se), .val (.int fi), .val (.int (3 : Int32)), .unset, .unset, .unset] [(.int (2 : Int32))]))
    refine own_st (fun wt wk => XS.iconst X19.here hx rfl (hb hby at_127) wk) ?_
    show Fin1 p e below s (rm0Q Z i0 i1 i2 h0 n0) room_1.cells room_1.slots (T19.setTop (mkF m 128 #[.val (.int i0), .val (.int i1), .val (.int i2), .val (.int (2 : Int32)), .val (.int fi), .val (.int se), .val (.ref b1), .val (.int (0 : Int32)), .val (.int (1 : Int32)), .val (.int (2 : Int32)), .val (.int (1 : Int32)), .val (.int se), .val (.int fi), .val (.int (3 : Int32)), .unset, .unset, .unset] [(.int (2 : Int32)), (.int (2 : Int32))]))
    refine own_st (fun wt wk => XS.icmpNo X19.here hx rfl (hb hby at_128) rfl (teq (by decide)).2 wk) ?_
    show Fin1 p e below s (rm0Q Z i0 i1 i2 h0 n0) room_1.cells room_1.slots (T19.setTop (mkF m 131 #[.val (.int i0), .val (.int i1), .val (.int i2), .val (.int (2 : Int32)), .val (.int fi), .val (.int se), .val (.ref b1), .val (.int (0 : Int32)), .val (.int (1 : Int32)), .val (.int (2 : Int32)), .val (.int (1 : Int32)), .val (.int se), .val (.int fi), .val (.int (3 : Int32)), .unset, .unset, .unset] []))
    refine own_st (fun wt wk => XS.iload X19.here hx rfl (hb hby at_131) rfl wk) ?_
    show Fin1 p e below s (rm0Q Z i0 i1 i2 h0 n0) room_1.cells room_1.slots (T19.setTop (mkF m 133 #[.val (.int i0), .val (.int i1), .val (.int i2), .val (.int (2 : Int32)), .val (.int fi), .val (.int se), .val (.ref b1), .val (.int (0 : Int32)), .val (.int (1 : Int32)), .val (.int (2 : Int32)), .val (.int (1 : Int32)), .val (.int se), .val (.int fi), .val (.int (3 : Int32)), .unset, .unset, .unset] [(.int se)]))
    refine own_st (fun wt wk => XS.istore X19.here hx rfl (hb hby at_133) rfl (l' := #[.val (.int i0), .val (.int i1), .val (.int i2), .val (.int (2 : Int32)), .val (.int fi), .val (.int se), .val (.ref b1), .val (.int (0 : Int32)), .val (.int (1 : Int32)), .val (.int (2 : Int32)), .val (.int (1 : Int32)), .val (.int se), .val (.int fi), .val (.int (3 : Int32)), .val (.int se), .unset, .unset]) rfl wk) ?_
    show Fin1 p e below s (rm0Q Z i0 i1 i2 h0 n0) room_1.cells room_1.slots (T19.setTop (mkF m 135 #[.val (.int i0), .val (.int i1), .val (.int i2), .val (.int (2 : Int32)), .val (.int fi), .val (.int se), .val (.ref b1), .val (.int (0 : Int32)), .val (.int (1 : Int32)), .val (.int (2 : Int32)), .val (.int (1 : Int32)), .val (.int se), .val (.int fi), .val (.int (3 : Int32)), .val (.int se), .unset, .unset] []))
    refine own_st (fun wt wk => XS.iload X19.here hx rfl (hb hby at_135) rfl wk) ?_
    show Fin1 p e below s (rm0Q Z i0 i1 i2 h0 n0) room_1.cells room_1.slots (T19.setTop (mkF m 137 #[.val (.int i0), .val (.int i1), .val (.int i2), .val (.int (2 : Int32)), .val (.int fi), .val (.int se), .val (.ref b1), .val (.int (0 : Int32)), .val (.int (1 : Int32)), .val (.int (2 : Int32)), .val (.int (1 : Int32)), .val (.int se), .val (.int fi), .val (.int (3 : Int32)), .val (.int se), .unset, .unset] [(.int fi)]))
    refine own_st (fun wt wk => XS.istore X19.here hx rfl (hb hby at_137) rfl (l' := #[.val (.int i0), .val (.int i1), .val (.int i2), .val (.int (2 : Int32)), .val (.int fi), .val (.int se), .val (.ref b1), .val (.int (0 : Int32)), .val (.int (1 : Int32)), .val (.int (2 : Int32)), .val (.int (1 : Int32)), .val (.int se), .val (.int fi), .val (.int (3 : Int32)), .val (.int se), .val (.int fi), .unset]) rfl wk) ?_
    show Fin1 p e below s (rm0Q Z i0 i1 i2 h0 n0) room_1.cells room_1.slots (T19.setTop (mkF m 139 #[.val (.int i0), .val (.int i1), .val (.int i2), .val (.int (2 : Int32)), .val (.int fi), .val (.int se), .val (.ref b1), .val (.int (0 : Int32)), .val (.int (1 : Int32)), .val (.int (2 : Int32)), .val (.int (1 : Int32)), .val (.int se), .val (.int fi), .val (.int (3 : Int32)), .val (.int se), .val (.int fi), .unset] []))
    refine own_st (fun wt wk => XS.iconst X19.here hx rfl (hb hby at_139) wk) ?_
    show Fin1 p e below s (rm0Q Z i0 i1 i2 h0 n0) room_1.cells room_1.slots (T19.setTop (mkF m 140 #[.val (.int i0), .val (.int i1), .val (.int i2), .val (.int (2 : Int32)), .val (.int fi), .val (.int se), .val (.ref b1), .val (.int (0 : Int32)), .val (.int (1 : Int32)), .val (.int (2 : Int32)), .val (.int (1 : Int32)), .val (.int se), .val (.int fi), .val (.int (3 : Int32)), .val (.int se), .val (.int fi), .unset] [(.int (3 : Int32))]))
    refine own_st (fun wt wk => XS.istore X19.here hx rfl (hb hby at_140) rfl (l' := #[.val (.int i0), .val (.int i1), .val (.int i2), .val (.int (2 : Int32)), .val (.int fi), .val (.int se), .val (.ref b1), .val (.int (0 : Int32)), .val (.int (1 : Int32)), .val (.int (2 : Int32)), .val (.int (1 : Int32)), .val (.int se), .val (.int fi), .val (.int (3 : Int32)), .val (.int se), .val (.int fi), .val (.int (3 : Int32))]) rfl wk) ?_
    show Fin1 p e below s (rm0Q Z i0 i1 i2 h0 n0) room_1.cells room_1.slots (T19.setTop (mkF m 142 #[.val (.int i0), .val (.int i1), .val (.int i2), .val (.int (2 : Int32)), .val (.int fi), .val (.int se), .val (.ref b1), .val (.int (0 : Int32)), .val (.int (1 : Int32)), .val (.int (2 : Int32)), .val (.int (1 : Int32)), .val (.int se), .val (.int fi), .val (.int (3 : Int32)), .val (.int se), .val (.int fi), .val (.int (3 : Int32))] []))
    refine own_st (fun wt wk => XS.goto X19.here hx rfl (pc0 := 142) (pc' := 172) rfl (hb hby at_142) (by decide) (by decide) wk) ?_
    show Fin1 p e below s (rm0Q Z i0 i1 i2 h0 n0) room_1.cells room_1.slots (T19.setTop (mkF m 172 #[.val (.int i0), .val (.int i1), .val (.int i2), .val (.int (2 : Int32)), .val (.int fi), .val (.int se), .val (.ref b1), .val (.int (0 : Int32)), .val (.int (1 : Int32)), .val (.int (2 : Int32)), .val (.int (1 : Int32)), .val (.int se), .val (.int fi), .val (.int (3 : Int32)), .val (.int se), .val (.int fi), .val (.int (3 : Int32))] []))
    refine own_st (fun wt wk => XS.iload X19.here hx rfl (hb hby at_172) rfl wk) ?_
    show Fin1 p e below s (rm0Q Z i0 i1 i2 h0 n0) room_1.cells room_1.slots (T19.setTop (mkF m 174 #[.val (.int i0), .val (.int i1), .val (.int i2), .val (.int (2 : Int32)), .val (.int fi), .val (.int se), .val (.ref b1), .val (.int (0 : Int32)), .val (.int (1 : Int32)), .val (.int (2 : Int32)), .val (.int (1 : Int32)), .val (.int se), .val (.int fi), .val (.int (3 : Int32)), .val (.int se), .val (.int fi), .val (.int (3 : Int32))] [(.int (1 : Int32))]))
    refine own_st (fun wt wk => XS.ifNo X19.here hx rfl (hb hby at_174) rfl ((if0 _ _).trans (feq (by decide)).1) wk) ?_
    show Fin1 p e below s (rm0Q Z i0 i1 i2 h0 n0) room_1.cells room_1.slots (T19.setTop (mkF m 177 #[.val (.int i0), .val (.int i1), .val (.int i2), .val (.int (2 : Int32)), .val (.int fi), .val (.int se), .val (.ref b1), .val (.int (0 : Int32)), .val (.int (1 : Int32)), .val (.int (2 : Int32)), .val (.int (1 : Int32)), .val (.int se), .val (.int fi), .val (.int (3 : Int32)), .val (.int se), .val (.int fi), .val (.int (3 : Int32))] []))
    refine own_st (fun wt wk => XS.iload X19.here hx rfl (hb hby at_177) rfl wk) ?_
    show Fin1 p e below s (rm0Q Z i0 i1 i2 h0 n0) room_1.cells room_1.slots (T19.setTop (mkF m 179 #[.val (.int i0), .val (.int i1), .val (.int i2), .val (.int (2 : Int32)), .val (.int fi), .val (.int se), .val (.ref b1), .val (.int (0 : Int32)), .val (.int (1 : Int32)), .val (.int (2 : Int32)), .val (.int (1 : Int32)), .val (.int se), .val (.int fi), .val (.int (3 : Int32)), .val (.int se), .val (.int fi), .val (.int (3 : Int32))] [(.int se)]))
    refine own_st (fun wt wk => XS.iload X19.here hx rfl (hb hby at_179) rfl wk) ?_
    show Fin1 p e below s (rm0Q Z i0 i1 i2 h0 n0) room_1.cells room_1.slots (T19.setTop (mkF m 181 #[.val (.int i0), .val (.int i1), .val (.int i2), .val (.int (2 : Int32)), .val (.int fi), .val (.int se), .val (.ref b1), .val (.int (0 : Int32)), .val (.int (1 : Int32)), .val (.int (2 : Int32)), .val (.int (1 : Int32)), .val (.int se), .val (.int fi), .val (.int (3 : Int32)), .val (.int se), .val (.int fi), .val (.int (3 : Int32))] [(.int se), (.int se)]))
    refine own_st (fun wt wk => XS.icmpNo X19.here hx rfl (hb hby at_181) rfl (teq (rfl : se = se)).2 wk) ?_
    show Fin1 p e below s (rm0Q Z i0 i1 i2 h0 n0) room_1.cells room_1.slots (T19.setTop (mkF m 184 #[.val (.int i0), .val (.int i1), .val (.int i2), .val (.int (2 : Int32)), .val (.int fi), .val (.int se), .val (.ref b1), .val (.int (0 : Int32)), .val (.int (1 : Int32)), .val (.int (2 : Int32)), .val (.int (1 : Int32)), .val (.int se), .val (.int fi), .val (.int (3 : Int32)), .val (.int se), .val (.int fi), .val (.int (3 : Int32))] []))
    refine own_st (fun wt wk => XS.iload X19.here hx rfl (hb hby at_184) rfl wk) ?_
    show Fin1 p e below s (rm0Q Z i0 i1 i2 h0 n0) room_1.cells room_1.slots (T19.setTop (mkF m 186 #[.val (.int i0), .val (.int i1), .val (.int i2), .val (.int (2 : Int32)), .val (.int fi), .val (.int se), .val (.ref b1), .val (.int (0 : Int32)), .val (.int (1 : Int32)), .val (.int (2 : Int32)), .val (.int (1 : Int32)), .val (.int se), .val (.int fi), .val (.int (3 : Int32)), .val (.int se), .val (.int fi), .val (.int (3 : Int32))] [(.int fi)]))
    refine own_st (fun wt wk => XS.iload X19.here hx rfl (hb hby at_186) rfl wk) ?_
    show Fin1 p e below s (rm0Q Z i0 i1 i2 h0 n0) room_1.cells room_1.slots (T19.setTop (mkF m 188 #[.val (.int i0), .val (.int i1), .val (.int i2), .val (.int (2 : Int32)), .val (.int fi), .val (.int se), .val (.ref b1), .val (.int (0 : Int32)), .val (.int (1 : Int32)), .val (.int (2 : Int32)), .val (.int (1 : Int32)), .val (.int se), .val (.int fi), .val (.int (3 : Int32)), .val (.int se), .val (.int fi), .val (.int (3 : Int32))] [(.int fi), (.int fi)]))
    refine own_st (fun wt wk => XS.icmpNo X19.here hx rfl (hb hby at_188) rfl (teq (rfl : fi = fi)).2 wk) ?_
    show Fin1 p e below s (rm0Q Z i0 i1 i2 h0 n0) room_1.cells room_1.slots (T19.setTop (mkF m 191 #[.val (.int i0), .val (.int i1), .val (.int i2), .val (.int (2 : Int32)), .val (.int fi), .val (.int se), .val (.ref b1), .val (.int (0 : Int32)), .val (.int (1 : Int32)), .val (.int (2 : Int32)), .val (.int (1 : Int32)), .val (.int se), .val (.int fi), .val (.int (3 : Int32)), .val (.int se), .val (.int fi), .val (.int (3 : Int32))] []))
    refine own_st (fun wt wk => XS.iload X19.here hx rfl (hb hby at_191) rfl wk) ?_
    show Fin1 p e below s (rm0Q Z i0 i1 i2 h0 n0) room_1.cells room_1.slots (T19.setTop (mkF m 193 #[.val (.int i0), .val (.int i1), .val (.int i2), .val (.int (2 : Int32)), .val (.int fi), .val (.int se), .val (.ref b1), .val (.int (0 : Int32)), .val (.int (1 : Int32)), .val (.int (2 : Int32)), .val (.int (1 : Int32)), .val (.int se), .val (.int fi), .val (.int (3 : Int32)), .val (.int se), .val (.int fi), .val (.int (3 : Int32))] [(.int (3 : Int32))]))
    refine own_st (fun wt wk => XS.iload X19.here hx rfl (hb hby at_193) rfl wk) ?_
    show Fin1 p e below s (rm0Q Z i0 i1 i2 h0 n0) room_1.cells room_1.slots (T19.setTop (mkF m 195 #[.val (.int i0), .val (.int i1), .val (.int i2), .val (.int (2 : Int32)), .val (.int fi), .val (.int se), .val (.ref b1), .val (.int (0 : Int32)), .val (.int (1 : Int32)), .val (.int (2 : Int32)), .val (.int (1 : Int32)), .val (.int se), .val (.int fi), .val (.int (3 : Int32)), .val (.int se), .val (.int fi), .val (.int (3 : Int32))] [(.int (3 : Int32)), (.int (3 : Int32))]))
    refine own_st (fun wt wk => XS.icmpNo X19.here hx rfl (hb hby at_195) rfl (teq (by decide)).2 wk) ?_
    show Fin1 p e below s (rm0Q Z i0 i1 i2 h0 n0) room_1.cells room_1.slots (T19.setTop (mkF m 198 #[.val (.int i0), .val (.int i1), .val (.int i2), .val (.int (2 : Int32)), .val (.int fi), .val (.int se), .val (.ref b1), .val (.int (0 : Int32)), .val (.int (1 : Int32)), .val (.int (2 : Int32)), .val (.int (1 : Int32)), .val (.int se), .val (.int fi), .val (.int (3 : Int32)), .val (.int se), .val (.int fi), .val (.int (3 : Int32))] []))
    refine own_st (fun wt wk => XS.aload X19.here hx rfl (hb hby at_198) rfl rfl wk) ?_
    show Fin1 p e below s (rm0Q Z i0 i1 i2 h0 n0) room_1.cells room_1.slots (T19.setTop (mkF m 200 #[.val (.int i0), .val (.int i1), .val (.int i2), .val (.int (2 : Int32)), .val (.int fi), .val (.int se), .val (.ref b1), .val (.int (0 : Int32)), .val (.int (1 : Int32)), .val (.int (2 : Int32)), .val (.int (1 : Int32)), .val (.int se), .val (.int fi), .val (.int (3 : Int32)), .val (.int se), .val (.int fi), .val (.int (3 : Int32))] [(.ref b1)]))
    obtain ⟨v20, T20, h20, L20, X20, e20, hQ20, st20⟩ := own_virtual X19 hx hZ hown (hw _ (List.mem_of_getElem? (i := 27) rfl)) (hw _ (List.mem_of_getElem? (i := 28) rfl)) (hw _ (List.mem_of_getElem? (i := 30) rfl)) (hw _ (List.mem_of_getElem? (i := 29) rfl)) (hw _ (List.mem_of_getElem? (i := 31) rfl)) (hw _ (List.mem_of_getElem? (i := 3) rfl)) (by decide) (a := b1) E_b1 (rmH l Z a0 hw b1 (4 : Int32) (0 : Int32) h19 n0 Z0 Fc Fl) e19 (g := (mkF m 200 #[.val (.int i0), .val (.int i1), .val (.int i2), .val (.int (2 : Int32)), .val (.int fi), .val (.int se), .val (.ref b1), .val (.int (0 : Int32)), .val (.int (1 : Int32)), .val (.int (2 : Int32)), .val (.int (1 : Int32)), .val (.int se), .val (.int fi), .val (.int (3 : Int32)), .val (.int se), .val (.int fi), .val (.int (3 : Int32))] [(.ref b1)])) rfl (by rw [hml]; rfl) (argsL := []) (rest := []) (lenOf pd_3 rfl) rfl (W := 0) (by show 2 * 0 + _ ≤ _; exact Nat.le_of_eq rfl) (hb hby at_200) (by decide) (by decide) (by decide) (by decide)
    obtain ⟨rfl, N20q, hh20⟩ := hQ20
    have N20 := Fr.app N19 N20q
    rw [hh20] at e20
    refine own_st st20 ?_
    show Fin1 p e below s (rm0Q Z i0 i1 i2 h0 n0) room_1.cells room_1.slots (T20.setTop (mkF m 203 #[.val (.int i0), .val (.int i1), .val (.int i2), .val (.int (2 : Int32)), .val (.int fi), .val (.int se), .val (.ref b1), .val (.int (0 : Int32)), .val (.int (1 : Int32)), .val (.int (2 : Int32)), .val (.int (1 : Int32)), .val (.int se), .val (.int fi), .val (.int (3 : Int32)), .val (.int se), .val (.int fi), .val (.int (3 : Int32))] [(.int ((4 : Int32) - (0 : Int32)))]))
    refine own_st (fun wt wk => XS.bipush X20.here hx rfl (hb hby at_203) wk) ?_
    show Fin1 p e below s (rm0Q Z i0 i1 i2 h0 n0) room_1.cells room_1.slots (T20.setTop (mkF m 205 #[.val (.int i0), .val (.int i1), .val (.int i2), .val (.int (2 : Int32)), .val (.int fi), .val (.int se), .val (.ref b1), .val (.int (0 : Int32)), .val (.int (1 : Int32)), .val (.int (2 : Int32)), .val (.int (1 : Int32)), .val (.int se), .val (.int fi), .val (.int (3 : Int32)), .val (.int se), .val (.int fi), .val (.int (3 : Int32))] [(.int (6 : Int32)), (.int ((4 : Int32) - (0 : Int32)))]))
    refine own_st (fun wt wk => XS.iloadN X20.here hx rfl (hb hby at_205) rfl wk) ?_
    show Fin1 p e below s (rm0Q Z i0 i1 i2 h0 n0) room_1.cells room_1.slots (T20.setTop (mkF m 206 #[.val (.int i0), .val (.int i1), .val (.int i2), .val (.int (2 : Int32)), .val (.int fi), .val (.int se), .val (.ref b1), .val (.int (0 : Int32)), .val (.int (1 : Int32)), .val (.int (2 : Int32)), .val (.int (1 : Int32)), .val (.int se), .val (.int fi), .val (.int (3 : Int32)), .val (.int se), .val (.int fi), .val (.int (3 : Int32))] [(.int (2 : Int32)), (.int (6 : Int32)), (.int ((4 : Int32) - (0 : Int32)))]))
    refine own_st (fun wt wk => XS.isub X20.here hx rfl (hb hby at_206) rfl wk) ?_
    show Fin1 p e below s (rm0Q Z i0 i1 i2 h0 n0) room_1.cells room_1.slots (T20.setTop (mkF m 207 #[.val (.int i0), .val (.int i1), .val (.int i2), .val (.int (2 : Int32)), .val (.int fi), .val (.int se), .val (.ref b1), .val (.int (0 : Int32)), .val (.int (1 : Int32)), .val (.int (2 : Int32)), .val (.int (1 : Int32)), .val (.int se), .val (.int fi), .val (.int (3 : Int32)), .val (.int se), .val (.int fi), .val (.int (3 : Int32))] [(.int ((6 : Int32) - (2 : Int32))), (.int ((4 : Int32) - (0 : Int32)))]))
    refine own_st (fun wt wk => XS.icmpNo X20.here hx rfl (hb hby at_207) rfl (teq (by decide)).2 wk) ?_
    show Fin1 p e below s (rm0Q Z i0 i1 i2 h0 n0) room_1.cells room_1.slots (T20.setTop (mkF m 210 #[.val (.int i0), .val (.int i1), .val (.int i2), .val (.int (2 : Int32)), .val (.int fi), .val (.int se), .val (.ref b1), .val (.int (0 : Int32)), .val (.int (1 : Int32)), .val (.int (2 : Int32)), .val (.int (1 : Int32)), .val (.int se), .val (.int fi), .val (.int (3 : Int32)), .val (.int se), .val (.int fi), .val (.int (3 : Int32))] []))
    refine own_st (fun wt wk => XS.iconst X20.here hx rfl (hb hby at_210) wk) ?_
    show Fin1 p e below s (rm0Q Z i0 i1 i2 h0 n0) room_1.cells room_1.slots (T20.setTop (mkF m 211 #[.val (.int i0), .val (.int i1), .val (.int i2), .val (.int (2 : Int32)), .val (.int fi), .val (.int se), .val (.ref b1), .val (.int (0 : Int32)), .val (.int (1 : Int32)), .val (.int (2 : Int32)), .val (.int (1 : Int32)), .val (.int se), .val (.int fi), .val (.int (3 : Int32)), .val (.int se), .val (.int fi), .val (.int (3 : Int32))] [(.int (1 : Int32))]))
    refine own_st (fun wt wk => XS.goto X20.here hx rfl (pc0 := 211) (pc' := 215) rfl (hb hby at_211) (by decide) (by decide) wk) ?_
    show Fin1 p e below s (rm0Q Z i0 i1 i2 h0 n0) room_1.cells room_1.slots (T20.setTop (mkF m 215 #[.val (.int i0), .val (.int i1), .val (.int i2), .val (.int (2 : Int32)), .val (.int fi), .val (.int se), .val (.ref b1), .val (.int (0 : Int32)), .val (.int (1 : Int32)), .val (.int (2 : Int32)), .val (.int (1 : Int32)), .val (.int se), .val (.int fi), .val (.int (3 : Int32)), .val (.int se), .val (.int fi), .val (.int (3 : Int32))] [(.int (1 : Int32))]))
    exact own_retZ X20 hx hlk hret (hb hby at_215) (z := (1 : Int32)) (by decide) (by rw [e20]; exact ⟨rfl, N20⟩) (by decide) (by decide)
set_option maxRecDepth 65536 in
set_option maxHeartbeats 40000000 in
theorem comes_1 {Post : Tables → Env → Array Value → State → Outcome → State → Prop} (hpost : ∀ tb e args s v u, (limb_1_1.after args s (.returned v) u = true ∧ limb_1_2.after args s (.returned v) u = true ∧ True) → FrameEnd s (.returned v) u (Jvm.fieldLocs frame_1_writes args s ++ Jvm.arrayLocs frame_1_arrays args s ++ Jvm.staticLocs frame_1_statics s) 16 128 → Post tb e args s (.returned v) u) :
    ArmFor flags0 classFile x code maxLocals ret World_1 tables_1 room_1 Calls_1 rest_1 Pre_1 Post := by
  intro l hfl _ _ p e ha hc hk s m args below hf hA hF happ hP
  obtain ⟨hcalls, hrest, hpre⟩ := hP
  obtain ⟨-, -, -, hnamed, -, -, -, hat⟩ := (Spec.applies_iff hf).mp happ
  obtain ⟨hg, hn⟩ := and_e (Cond.before_iff.mp (show (Jvm.Cond.and given_1 narrow_1).before args s = true from hpre))
  obtain ⟨hcnt, hg1⟩ := and_e hg
  obtain ⟨hv0, hg2⟩ := and_e hg1
  obtain ⟨hv1, hg3⟩ := and_e hg2
  have hv2 := hg3
  obtain ⟨w0, w1, w2, rfl⟩ : ∃ w0 w1 w2 : Value, args = #[w0, w1, w2] := by
    have hs : args.size = 3 := by simpa [Cond.value, given_1] using hcnt
    obtain ⟨L⟩ := args
    match L, hs with
    | [w0, w1, w2], _ => exact ⟨w0, w1, w2, rfl⟩
  have hw := fun d (hd : d ∈ tables_1) => atoms_spec (ws := Jvm.Cond.code x code maxLocals ret :: tables_1) hat d (List.mem_cons_of_mem _ hd)
  have hfit : Fit s := fun {y c} hc i hi => by
    obtain ⟨ha, rfl⟩ := Array.getElem?_eq_some_iff.mp hc
    have q := List.all_eq_true.mp ((Array.all_eq_true_iff_forall_mem.mp hF) _ (Array.getElem_mem ha)) i (List.mem_range.mpr hi)
    simpa [Array.getElem?_eq_getElem hi] using q
  obtain ⟨i0, ei0⟩ := is_v hv0
  obtain rfl : w0 = (.int i0) := Option.some.inj ei0
  obtain ⟨i1, ei1⟩ := is_v hv1
  obtain rfl : w1 = (.int i1) := Option.some.inj ei1
  obtain ⟨i2, ei2⟩ := is_v hv2
  obtain rfl : w2 = (.int i2) := Option.some.inj ei2
  obtain ⟨n, o, h1, h2, h3, _, L, rfl, ⟨rfl, N⟩, hq⟩ := rm0 l s _ hw i0 i1 i2 s.heap s.heap.size (Nat.le_refl _)  p e ha hc hk s m _ below hf ((Spec.applies_iff_loose hf).mp happ).1 ⟨rfl, State.Warmed39.refl s, rfl⟩ trivial
  refine ⟨n, _, h1, h2, h3, hpost _ _ _ _ _ _ ⟨Cond.after_iff.mpr rfl, Cond.after_iff.mpr (eq_i res_at (Term.int_eval (1)) rfl), trivial⟩ ⟨hq.1, hq.2.1, (hq.2.2.sift fun y hy => Or.inr (N y hy)).mono (by decide) (by decide)⟩⟩
theorem main_1_1 : Claimed_1_1 := comes_1 fun _ _ _ _ _ _ h hF => ⟨h.1, hF⟩
theorem main_1_2 : Claimed_1_2 := comes_1 fun _ _ _ _ _ _ h hF => ⟨h.2.1, hF⟩
end Jvm.Pilot.@@N@@
namespace Jvm.Pilot.@@N@@
open Jvm Jvm.ClassFile Sem Op Lib Jvm.Free Jvm.Stand Jvm.Pilot.@@N@@.Jvm.D
/-! MADE BY PROGRAM (witnessworld.py) out of the Statement's table words and the real class files: 9 classes; the members and pool entries that the words name. The judged class is class 1, her method 1. -/
namespace start1
open Jvm.ClassFile
def u (s : String) : CpInfo := .utf8 (stringToUtf16 s)
/-- a pool by its gaps: so many unusable entries, then the entry; so many at the end -/
def gap : Nat → List CpInfo → List CpInfo
  | 0, r => r
  | n + 1, r => .unusable :: gap n r
def poolList (es : List (Nat × CpInfo)) (last : Nat) : List CpInfo := es.foldr (fun e r => gap e.1 (e.2 :: r)) (gap last [])
def pool (es : List (Nat × CpInfo)) (last : Nat) : Array CpInfo := ⟨poolList es last⟩
def fileOf (pool : Array CpInfo) (this : Nat) (attrs : Array Attribute := #[]) (ms : Array MethodInfo := #[]) (fl : Nat := 33) (sup : Nat := 0) (ifs : Array Nat := #[]) (fds : Array FieldInfo := #[]) : ClassFile where
  minorVersion := 0
  majorVersion := 65
  constantPool := pool
  accessFlags := fl
  thisClass := this
  superClass := sup
  interfaces := ifs
  fields := fds
  methods := ms
  attributes := attrs
def plain (name : String) (sup : Option ClassId) : Class where
  name := name
  kind := .ordinary
  loader := none
  accessFlags := 33
  super := sup
  interfaces := #[]
  cf := none
  fields := #[]
  methods := #[]
  instanceTypes := #[]
  staticTypes := #[]
  resolved := #[]
  callSites := []
  init := .initialized
  statics := none
  mirror := none

def pool0 : Array CpInfo := pool [(5, u "<init>"), (0, u "()V"), (1, .class_ 10), (1, u "java/lang/Object")] 113

def k0c0 : Code := { maxStack := 0, maxLocals := 1, code := object_method_1_code, exceptionTable := #[], attributes := #[] }
def k0m0 : Method := { name := "<init>", desc := "()V", sig := { parameters := [], returnType := none }, accessFlags := 1, code := some k0c0 }
/-- java/lang/Object -/
def k0 : Class := { plain "java/lang/Object" none with
  accessFlags := 33
  interfaces := #[]
  cf := some (fileOf pool0 8 #[] #[{ accessFlags := 1, nameIndex := 5, descriptorIndex := 6, attributes := #[] }] 33 0 #[] #[])
  fields := #[]
  methods := #[k0m0]
  instanceTypes := #[]
  staticTypes := #[]
  resolved := Array.replicate 124 none
  statics := none }

def pool1 : Array CpInfo := pool [(2, .class_ 4), (0, .nameAndType 5 6), (0, u "java/lang/Object"), (0, u "<init>"), (0, u "()V"), (0, .integer 2147483647), (0, .class_ 9), (0, u "com/example/tfre/tfre/history/Codes"), (0, .methodref 8 3), (0, .methodref 8 12), (0, .nameAndType 13 14), (0, u "take"), (0, u "()I"), (0, .methodref 8 16), (0, .nameAndType 17 18), (0, u "giveBack"), (0, u "(I)V"), (0, .methodref 8 20), (0, .nameAndType 21 14), (0, u "held"), (0, .class_ 23), (0, u "com/example/tfre/tfre/history/CodesTakePinLaw"), (2, u "law"), (0, u "(III)Z")] 3

def k1m0 : Method := { name := "<init>", desc := "()V", sig := { parameters := [], returnType := none }, accessFlags := 1, code := none }
def k1c1 : Code := { maxStack := 3, maxLocals := 17, code := code, exceptionTable := #[], attributes := #[] }
def k1m1 : Method := { name := "law", desc := "(III)Z", sig := { parameters := [.int, .int, .int], returnType := some .boolean }, accessFlags := 9, code := some k1c1 }
/-- com/example/tfre/tfre/history/CodesTakePinLaw -/
def k1 : Class := { plain "com/example/tfre/tfre/history/CodesTakePinLaw" (some 0) with
  accessFlags := 49
  interfaces := #[]
  cf := some (fileOf pool1 22 #[] #[{ accessFlags := 1, nameIndex := 5, descriptorIndex := 6, attributes := #[] }, { accessFlags := 9, nameIndex := 26, descriptorIndex := 27, attributes := #[] }] 49 2 #[] #[])
  fields := #[]
  methods := #[k1m0, k1m1]
  instanceTypes := #[]
  staticTypes := #[]
  resolved := Array.replicate 31 none
  statics := none }

def pool2 : Array CpInfo := pool [(1, .methodref 2 3), (0, .class_ 4), (0, .nameAndType 5 6), (0, u "java/lang/Object"), (0, u "<init>"), (0, u "()V"), (0, .fieldref 8 9), (0, .class_ 10), (0, .nameAndType 11 12), (0, u "com/example/tfre/tfre/history/Codes"), (0, u "givenBack"), (0, u "[I"), (0, .fieldref 8 14), (0, .nameAndType 15 16), (0, u "givenBackCount"), (0, u "I"), (0, .fieldref 8 18), (0, .nameAndType 19 16), (0, u "limit"), (8, u "take"), (0, u "()I"), (1, u "giveBack"), (0, u "(I)V"), (0, u "held")] 2

def k2c0 : Code := { maxStack := 2, maxLocals := 1, code := prog_2_method_1_code, exceptionTable := #[], attributes := #[] }
def k2m0 : Method := { name := "<init>", desc := "()V", sig := { parameters := [], returnType := none }, accessFlags := 0, code := some k2c0 }
def k2c1 : Code := { maxStack := 3, maxLocals := 2, code := prog_2_method_2_code, exceptionTable := #[], attributes := #[] }
def k2m1 : Method := { name := "take", desc := "()I", sig := { parameters := [], returnType := some .int }, accessFlags := 0, code := some k2c1 }
def k2c2 : Code := { maxStack := 4, maxLocals := 2, code := prog_2_method_3_code, exceptionTable := #[], attributes := #[] }
def k2m2 : Method := { name := "giveBack", desc := "(I)V", sig := { parameters := [.int], returnType := none }, accessFlags := 0, code := some k2c2 }
def k2c3 : Code := { maxStack := 2, maxLocals := 1, code := prog_2_method_4_code, exceptionTable := #[], attributes := #[] }
def k2m3 : Method := { name := "held", desc := "()I", sig := { parameters := [], returnType := some .int }, accessFlags := 0, code := some k2c3 }
/-- com/example/tfre/tfre/history/Codes -/
def k2 : Class := { plain "com/example/tfre/tfre/history/Codes" (some 0) with
  accessFlags := 32
  interfaces := #[]
  cf := some (fileOf pool2 8 #[] #[{ accessFlags := 0, nameIndex := 5, descriptorIndex := 6, attributes := #[] }, { accessFlags := 0, nameIndex := 28, descriptorIndex := 29, attributes := #[] }, { accessFlags := 0, nameIndex := 31, descriptorIndex := 32, attributes := #[] }, { accessFlags := 0, nameIndex := 33, descriptorIndex := 29, attributes := #[] }] 32 2 #[] #[{ accessFlags := 2, nameIndex := 11, descriptorIndex := 12, attributes := #[] }, { accessFlags := 2, nameIndex := 15, descriptorIndex := 16, attributes := #[] }, { accessFlags := 2, nameIndex := 19, descriptorIndex := 16, attributes := #[] }])
  fields := #[{ name := "givenBack", type := (.array .int), accessFlags := 2, slot := 0, constantValue := 0 }, { name := "givenBackCount", type := .int, accessFlags := 2, slot := 1, constantValue := 0 }, { name := "limit", type := .int, accessFlags := 2, slot := 2, constantValue := 0 }]
  methods := #[k2m0, k2m1, k2m2, k2m3]
  instanceTypes := #[(.array .int), .int, .int]
  staticTypes := #[]
  resolved := Array.replicate 36 none
  statics := none }

def pool3 : Array CpInfo := pool [(1, u "java/lang/Cloneable"), (0, .class_ 1), (0, u "java/lang/Object"), (0, .class_ 3)] 3

/-- java/lang/Cloneable -/
def k3 : Class := { plain "java/lang/Cloneable" (some 0) with
  accessFlags := 1537
  interfaces := #[]
  cf := some (fileOf pool3 2 #[] #[] 1537 4 #[] #[])
  fields := #[]
  methods := #[]
  instanceTypes := #[]
  staticTypes := #[]
  resolved := Array.replicate 8 none
  statics := none }

def pool4 : Array CpInfo := pool [(1, u "java/io/Serializable"), (0, .class_ 1), (0, u "java/lang/Object"), (0, .class_ 3)] 3

/-- java/io/Serializable -/
def k4 : Class := { plain "java/io/Serializable" (some 0) with
  accessFlags := 1537
  interfaces := #[]
  cf := some (fileOf pool4 2 #[] #[] 1537 4 #[] #[])
  fields := #[]
  methods := #[]
  instanceTypes := #[]
  staticTypes := #[]
  resolved := Array.replicate 8 none
  statics := none }

/-- the primitive byte -/
def k5 : Class := { plain "byte" none with kind := .primitive 'B', accessFlags := 0x411 }
/-- [B -/
def k6 : Class := { plain "[B" (some 0) with kind := .array 5 .byte, interfaces := #[3, 4], accessFlags := 1041 }

/-- the primitive int -/
def k7 : Class := { plain "int" none with kind := .primitive 'I', accessFlags := 0x411 }
/-- [I -/
def k8 : Class := { plain "[I" (some 0) with kind := .array 7 .int, interfaces := #[3, 4], accessFlags := 1041 }

def heap : Heap := #[]
def classes : Array Class := #[k0, k1, k2, k3, k4, k5, k6, k7, k8]
def interned : List (Array UInt16 × Addr) := []
def slotsUsed : Nat := 0
def theMethod : MethodId := ⟨1, 1⟩
def args0 : Array Value := #[.int 5, .int 7, .int 7]
def aboutOver (below : List Frame) : State where
  vm := { classes := classes, interned := interned.toArray }
  heap := heap
  slotsUsed := slotsUsed
  threads := #[{ frames := .invoking theMethod args0 :: below }]
def below0 : List Frame := [.native { method := ⟨0, 0⟩, args := #[] }]
def about1 : State := aboutOver below0
def p0 : Program := .bare "" "" ""
def e0 : Env := launch0.env 0 0 0
theorem w_frames : about1.frames = Frame.invoking theMethod args0 :: below0 := rfl
set_option maxRecDepth 65536 in
theorem w_args : argsFit about1.vm theMethod args0 = true := by decide +kernel
set_option maxRecDepth 65536 in
theorem w_heap : heapFits about1 = true := by decide +kernel
set_option maxRecDepth 65536 in
theorem w_runnable : about1.curStatus? = some .runnable := by decide +kernel
set_option maxRecDepth 65536 in
theorem w_alone : about1.alone = true := by decide +kernel
set_option maxRecDepth 65536 in
theorem w_named : about1.methodNamed? x = some theMethod := by decide +kernel
set_option maxRecDepth 65536 in
theorem w_hears : about1.hears theMethod below0 = true := by decide +kernel
set_option maxRecDepth 65536 in
theorem w_ripe : about1.ripe theMethod args0 below0 = true := by decide +kernel
theorem w_running : about1.status = .running := rfl
set_option maxRecDepth 65536 in
theorem w_room : about1.hasRoom e0.platform room_1 = true :=
  launch0.hasRoom_least _ room_1 (by decide +kernel) (by decide +kernel) (by decide +kernel) (by decide +kernel) (by decide +kernel) (by decide +kernel)
theorem allAtoms_all (ts : List Jvm.Cond) (a : Array Jvm.Value) (st : Jvm.State) : (allAtoms ts).before a st = ts.all (fun c => c.before a st) := by
  induction ts with
  | nil => rfl
  | cons c t ih =>
    show (Jvm.Cond.and c (allAtoms t)).before a st = _
    rw [Jvm.Cond.before_and, ih, List.all_cons]
def words1 : List Jvm.Cond := Jvm.Cond.code x code maxLocals ret :: tables_1
/-- a 'code' word, met by the world's own term for the bytes: nothing is compared byte by byte -/
theorem code_word {y : MethodName} {bytes : ByteArray} {mx : Nat} {rt : Option FieldType} {a : Array Value} {s : State} {m : MethodId} {meth : Method} {c : Code} (h1 : s.methodNamed? y = some m) (h2 : s.vm.method? m = some meth) (h3 : meth.code = some c) (h4 : c.code = bytes)
    (h5 : (c.maxLocals == mx && c.exceptionTable.isEmpty && decide (c.maxStack ≤ mostOperands) && decide (meth.sig.returnType = rt) && !meth.locks && decide (parseMethodDescriptor y.desc = some meth.sig)) = true) : (Jvm.Cond.code y bytes mx rt).before a s = true := by
  simp only [Bool.and_eq_true, beq_iff_eq, Bool.not_eq_true', decide_eq_true_eq] at h5
  obtain ⟨⟨⟨⟨⟨g1, g2⟩, g3⟩, g4⟩, g5⟩, g6⟩ := h5
  simp [Cond.before, Cond.holds, Cond.value, h1, h2, h3, h4, g1, g2, g3, g4, g5, g6]
def isCode : Jvm.Cond → Bool
  | .code _ _ _ _ => true
  | _ => false
theorem all_split {L : List Jvm.Cond} {P : Jvm.Cond → Bool} (h1 : L.all (fun c => isCode c || P c) = true) (h2 : ∀ c ∈ L.filter isCode, P c = true) : L.all P = true := by
  refine List.all_eq_true.mpr fun c hc => ?_
  have h := List.all_eq_true.mp h1 c hc
  rcases Bool.eq_false_or_eq_true (isCode c) with hi | hi
  · exact h2 c (List.mem_filter.mpr ⟨hc, hi⟩)
  · simpa [hi] using h
set_option maxRecDepth 65536 in
theorem w_c0 : (Jvm.Cond.code x code maxLocals ret).before args0 about1 = true := code_word (m := ⟨1, 1⟩) (meth := k1m1) (c := k1c1) (by decide +kernel) rfl rfl rfl (by decide +kernel)
set_option maxRecDepth 65536 in
theorem w_c1 : (Jvm.Cond.code ({ cls := "com/example/tfre/tfre/history/Codes", name := "<init>", desc := "()V" } : Jvm.MethodName) prog_2_method_1_code (1 : Nat) (Option.none : Option Jvm.ClassFile.FieldType)).before args0 about1 = true := code_word (m := ⟨2, 0⟩) (meth := k2m0) (c := k2c0) (by decide +kernel) rfl rfl rfl (by decide +kernel)
set_option maxRecDepth 65536 in
theorem w_c2 : (Jvm.Cond.code ({ cls := "java/lang/Object", name := "<init>", desc := "()V" } : Jvm.MethodName) object_method_1_code (1 : Nat) (Option.none : Option Jvm.ClassFile.FieldType)).before args0 about1 = true := code_word (m := ⟨0, 0⟩) (meth := k0m0) (c := k0c0) (by decide +kernel) rfl rfl rfl (by decide +kernel)
set_option maxRecDepth 65536 in
theorem w_c3 : (Jvm.Cond.code ({ cls := "com/example/tfre/tfre/history/Codes", name := "take", desc := "()I" } : Jvm.MethodName) prog_2_method_2_code (2 : Nat) (Option.some Jvm.ClassFile.FieldType.int)).before args0 about1 = true := code_word (m := ⟨2, 1⟩) (meth := k2m1) (c := k2c1) (by decide +kernel) rfl rfl rfl (by decide +kernel)
set_option maxRecDepth 65536 in
theorem w_c4 : (Jvm.Cond.code ({ cls := "com/example/tfre/tfre/history/Codes", name := "giveBack", desc := "(I)V" } : Jvm.MethodName) prog_2_method_3_code (2 : Nat) (Option.none : Option Jvm.ClassFile.FieldType)).before args0 about1 = true := code_word (m := ⟨2, 2⟩) (meth := k2m2) (c := k2c2) (by decide +kernel) rfl rfl rfl (by decide +kernel)
set_option maxRecDepth 65536 in
theorem w_c5 : (Jvm.Cond.code ({ cls := "com/example/tfre/tfre/history/Codes", name := "held", desc := "()I" } : Jvm.MethodName) prog_2_method_4_code (1 : Nat) (Option.some Jvm.ClassFile.FieldType.int)).before args0 about1 = true := code_word (m := ⟨2, 3⟩) (meth := k2m3) (c := k2c3) (by decide +kernel) rfl rfl rfl (by decide +kernel)
def codes1 : List Jvm.Cond := [Jvm.Cond.code x code maxLocals ret, Jvm.Cond.code ({ cls := "com/example/tfre/tfre/history/Codes", name := "<init>", desc := "()V" } : Jvm.MethodName) prog_2_method_1_code (1 : Nat) (Option.none : Option Jvm.ClassFile.FieldType), Jvm.Cond.code ({ cls := "java/lang/Object", name := "<init>", desc := "()V" } : Jvm.MethodName) object_method_1_code (1 : Nat) (Option.none : Option Jvm.ClassFile.FieldType), Jvm.Cond.code ({ cls := "com/example/tfre/tfre/history/Codes", name := "take", desc := "()I" } : Jvm.MethodName) prog_2_method_2_code (2 : Nat) (Option.some Jvm.ClassFile.FieldType.int), Jvm.Cond.code ({ cls := "com/example/tfre/tfre/history/Codes", name := "giveBack", desc := "(I)V" } : Jvm.MethodName) prog_2_method_3_code (2 : Nat) (Option.none : Option Jvm.ClassFile.FieldType), Jvm.Cond.code ({ cls := "com/example/tfre/tfre/history/Codes", name := "held", desc := "()I" } : Jvm.MethodName) prog_2_method_4_code (1 : Nat) (Option.some Jvm.ClassFile.FieldType.int)]
set_option maxRecDepth 65536 in
theorem codes_eq : words1.filter isCode = codes1 := rfl
theorem w_codes : ∀ c ∈ words1.filter isCode, c.before args0 about1 = true := by
  rw [codes_eq]
  intro c hc
  simp only [codes1, List.mem_cons, List.not_mem_nil, or_false] at hc
  rcases hc with rfl | rfl | rfl | rfl | rfl | rfl
  · exact w_c0
  · exact w_c1
  · exact w_c2
  · exact w_c3
  · exact w_c4
  · exact w_c5
set_option maxRecDepth 65536 in
theorem w_t1 : (words1.take 24).all (fun c => isCode c || c.before args0 about1) = true := by decide +kernel
set_option maxRecDepth 65536 in
theorem w_t2 : (words1.drop 24).all (fun c => isCode c || c.before args0 about1) = true := by decide +kernel
theorem w_tables : (allAtoms (Jvm.Cond.code x code maxLocals ret :: tables_1)).before args0 about1 = true := by
  rw [allAtoms_all]
  show words1.all (fun c => c.before args0 about1) = true
  refine all_split ?_ w_codes
  rw [← List.take_append_drop 24 words1, List.all_append, w_t1, w_t2]
  rfl
set_option maxRecDepth 65536 in
theorem w_case : (Jvm.Cond.and given_1 narrow_1).before args0 about1 = true := by decide +kernel
theorem w_applies : (headSpec (Jvm.Cond.code x code maxLocals ret :: tables_1) room_1).applies x e0.platform about1 = true :=
  (Spec.applies_iff w_frames).mpr ⟨w_running, w_runnable, w_alone, w_named, w_hears, w_ripe, w_room, w_tables⟩
theorem atStart : AtStart classFile x code maxLocals ret World_1 tables_1 room_1 Calls_1 rest_1 Pre_1 launch0 p0 e0 about1 theMethod args0 below0 :=
  ⟨lists_1, trivial, launch0.admits_env _ _ _, launch0.least_env, fairChoices_fair.cas, fairChoices_fair.clock, w_frames, w_args, w_heap, w_applies, trivial, trivial, w_case⟩
end start1
theorem witness_1 : WitnessClaimed_1 := ⟨start1.p0, start1.e0, start1.about1, start1.theMethod, start1.args0, start1.below0, start1.atStart⟩
end Jvm.Pilot.@@N@@
