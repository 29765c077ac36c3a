import JvmDerived
import JvmDerived.Pilot.@@N@@Statement
import JvmDerived.Pilot.@@N@@Code
set_option linter.unusedVariables false
set_option linter.unusedSimpArgs false
namespace Jvm.Pilot.@@N@@
open Jvm Jvm.ClassFile Sem Op Lib Jvm.Free Jvm.Stand Jvm.LawKit Jvm.RoadKit Bundle Jvm.Pilot.@@N@@.Jvm.D
section OwnKit
variable {p : Program} {l : Launch} {e : Env} {R : Room} {s : State} {m : MethodId} {args : Array Value} {below : List Frame} {meth : Method} {c : Code} {T : State} {locs : List Loc} {cells slots : Nat} {Z : State} {a0 : Array Value} {h : Heap} {Q : Option Value → Heap → List Loc → Prop} {cl sl : Nat}
/-- from the state U the run comes back, and what it leaves is as Q says -/
def Fin1 (p : Program) (e : Env) (below : List Frame) (s : State) (Q : Option Value → Heap → List Loc → Prop) (cl sl : Nat) (U : State) : Prop :=
  ∃ s₂ o, Steps p.tables e below U s₂ ∧ s₂.status = .running ∧ Ended s₂ below o ∧ ∃ v L, o = .returned v ∧ Q v s₂.heap L ∧ FrameEnd s o s₂ L cl sl
theorem own_st {U V : State} (h : ∀ t, Steps p.tables e below V t → Steps p.tables e below U t) (k : Fin1 p e below s Q cl sl V) : Fin1 p e below s Q cl sl U := by
  obtain ⟨s₂, o, h1, r⟩ := k
  exact ⟨s₂, o, h _ h1, r⟩
/-- a contract -/
def Ct (l : Launch) (Z : State) (ws : List Jvm.Cond) (y : MethodName) (bytes : ByteArray) (maxL : Nat) (ret : Option FieldType) (rm : Room) (as' : Array Value) (h : Heap) (Q : Option Value → Heap → List Loc → Prop) : Prop :=
  MetFree l y (head1 (Jvm.Cond.code y bytes maxL ret :: ws) rm) (fun a U => a = as' ∧ Z.Warmed39 U.vm ∧ U.heap = h) (fun _ _ _ _ _ => True) (fun _ U o U' => ∃ v L, o = .returned v ∧ Q v U'.heap L ∧ FrameEnd U o U' L rm.cells rm.slots)
theorem own_enter {ws : List Jvm.Cond} {y : MethodName} {bytes : ByteArray} {maxL : Nat} {ret : Option FieldType} {rm : Room} {as' : Array Value} (hp : plainFor y = true)
    (body : ∀ (p : Program) (e : Env) (s : State) (m : MethodId) (below : List Frame) (meth : Method) (c : Code) (T : State), Stand p l e rm s m as' below meth c T [] 0 0 → p.tables.exec = Jvm.exec → c.code = bytes → c.maxLocals = maxL → Z.Warmed39 s.vm → s.vm.findClass y.cls = some m.cls → meth.name = y.name →
      meth.sig.returnType = ret → meth.locks = false → T.heap = h → Fin1 p e below s Q rm.cells rm.slots (T.setTop (entryFrame m as' maxL))) : Ct l Z ws y bytes maxL ret rm as' h Q := by
  refine MetFree.of_bodySF hp hisR ?_
  intro p e s m args below meth c s₁ Bd hml hP _
  obtain ⟨rfl, hZ, hh⟩ := hP
  exact body p e s m below meth c s₁ (Stand.of_body Bd) Bd.exec Bd.bytes hml hZ (findClass_of_methodNamed Bd.named) (name_of_methodNamed Bd.named Bd.method).1 Bd.returns (BodyLoose.notSynchronized Bd) (by rw [← hh, Bd.state]; rfl)
/-- a stronger promise pays a weaker one -/
theorem Ct.mono {ws : List Jvm.Cond} {y : MethodName} {bytes : ByteArray} {maxL : Nat} {ret : Option FieldType} {rm : Room} {as' : Array Value} {Q' : Option Value → Heap → List Loc → Prop} (hC : Ct l Z ws y bytes maxL ret rm as' h Q) (hQ : ∀ v h' L, Q v h' L → Q' v h' L) : Ct l Z ws y bytes maxL ret rm as' h Q' := by
  intro p e ha hc hk s m args below hf happ hP hK
  obtain ⟨n, o, h1, h2, h3, v, L, h4, h5, h6⟩ := hC p e ha hc hk s m args below hf happ hP hK
  exact ⟨n, o, h1, h2, h3, v, L, h4, hQ _ _ _ h5, h6⟩
theorem own_leave (X : Stand p l e R s m args below meth c T locs cells slots) (hlk : meth.locks = false) {v : Option Value} (hv : meth.sig.returnType = none → v = none) {U : State}
    (hst : ∀ fs, (∀ (f : JFrame) (acts : List Action), f.method = m → f.locked = none → f.entered = [] → (doReturn e (T.setTop f) acts v).1 = T.setFrames fs) → Steps p.tables e below U (T.setFrames fs))
    (hQ : Q v T.heap locs) (hc : cells ≤ cl) (hs : slots ≤ sl) : Fin1 p e below s Q cl sl U := by
  obtain ⟨fs, hr, hrun, hended, hW, hsame⟩ := X.leave (v := v) hv hlk
  exact ⟨_, _, hst fs hr, hrun, hended, v, locs, rfl, hQ, ⟨_, rfl⟩, hW, hsame.mono hc hs⟩
theorem own_retV (X : Stand p l e R s m args below meth c T locs cells slots) (hx : p.tables.exec = Jvm.exec) (hlk : meth.locks = false) {pc : Nat} {Ls : Array Slot} (hret : meth.sig.returnType = none) (hd : decode c.code pc = .ok (.return_, 1))
    (hQ : Q none T.heap locs) (hc : cells ≤ cl) (hs : slots ≤ sl) : Fin1 p e below s Q cl sl (T.setTop (mkF m pc Ls [])) :=
  own_leave X hlk (fun _ => rfl) (fun fs hr => X.returnOut hx hret hd hr) hQ hc hs
theorem own_retI (X : Stand p l e R s m args below meth c T locs cells slots) (hx : p.tables.exec = Jvm.exec) (hlk : meth.locks = false) {pc : Nat} {Ls : Array Slot} {z : Int32} {rest : List Value} (hret : meth.sig.returnType = some .int) (hd : decode c.code pc = .ok (.ireturn, 1))
    (hQ : Q (some (.int z)) T.heap locs) (hc : cells ≤ cl) (hs : slots ≤ sl) : Fin1 p e below s Q cl sl (T.setTop (mkF m pc Ls (.int z :: rest))) :=
  own_leave X hlk (fun h => by rw [hret] at h; cases h) (fun fs hr => retOut X hx hret rfl (Or.inl ⟨rfl, Or.inl rfl, _, rfl⟩) hd hr) hQ hc hs
theorem own_retZ (X : Stand p l e R s m args below meth c T locs cells slots) (hx : p.tables.exec = Jvm.exec) (hlk : meth.locks = false) {pc : Nat} {Ls : Array Slot} {rest : List Value} (hret : meth.sig.returnType = some .boolean) (hd : decode c.code pc = .ok (.ireturn, 1)) {z : Int32} (hz : z = 0 ∨ z = 1)
    (hQ : Q (some (.int z)) T.heap locs) (hc : cells ≤ cl) (hs : slots ≤ sl) : Fin1 p e below s Q cl sl (T.setTop (mkF m pc Ls (.int z :: rest))) :=
  own_leave X hlk (fun h => by rw [hret] at h; cases h) (fun fs hr => retOut X hx hret (by rcases hz with rfl | rfl <;> rfl) (Or.inl ⟨rfl, Or.inr (Or.inl rfl), _, rfl⟩) hd hr) hQ hc hs
theorem own_retJ (X : Stand p l e R s m args below meth c T locs cells slots) (hx : p.tables.exec = Jvm.exec) (hlk : meth.locks = false) {pc : Nat} {Ls : Array Slot} {z : Int64} {rest : List Value} (hret : meth.sig.returnType = some .long) (hd : decode c.code pc = .ok (.lreturn, 1))
    (hQ : Q (some (.long z)) T.heap locs) (hc : cells ≤ cl) (hs : slots ≤ sl) : Fin1 p e below s Q cl sl (T.setTop (mkF m pc Ls (.long z :: rest))) :=
  own_leave X hlk (fun h => by rw [hret] at h; cases h) (fun fs hr => retOut X hx hret rfl (Or.inr (Or.inl ⟨rfl, rfl, _, rfl⟩)) hd hr) hQ hc hs
theorem own_retA (X : Stand p l e R s m args below meth c T locs cells slots) (hx : p.tables.exec = Jvm.exec) (hlk : meth.locks = false) {pc : Nat} {Ls : Array Slot} {z : Value} {rest : List Value} {t : FieldType} (hret : meth.sig.returnType = some t) (ht : t.isReference = true) (hz : z.isRef = true) (hd : decode c.code pc = .ok (.areturn, 1))
    (hQ : Q (some z) T.heap locs) (hc : cells ≤ cl) (hs : slots ≤ sl) : Fin1 p e below s Q cl sl (T.setTop (mkF m pc Ls (z :: rest))) :=
  own_leave X hlk (fun h => by rw [hret] at h; cases h) (fun fs hr => retOut X hx hret (by cases t <;> first | (cases ht; done) | (cases z <;> first | (cases hz; done) | rfl)) (Or.inr (Or.inr (Or.inr (Or.inr ⟨rfl, ht, hz⟩)))) hd hr) hQ hc hs
variable {own : String} {index : Nat} {y z : MethodName} {bytes : ByteArray} {maxL : Nat} {ret : Option FieldType} {rm : Room} {argsL rest : List Value} {a : Addr}
theorem own_static (X : Stand p l e R s m args below meth c T locs cells slots) (hx : p.tables.exec = Jvm.exec) (hZ : Z.Warmed39 s.vm) (hown : s.vm.findClass own = some m.cls) (w1 : (Jvm.Cond.methodLink own index y).before a0 Z = true) (w2 : (Jvm.Cond.static y).before a0 Z = true) (w3 : (Jvm.Cond.initialized y.cls).before a0 Z = true)
    (w4 : (Jvm.Cond.code y bytes maxL ret).before a0 Z = true) (hy : y.cls ≠ "java/lang/invoke/MethodHandle" ∧ y.cls ≠ "java/lang/invoke/VarHandle") (hC : Ct l Z [] y bytes maxL ret rm argsL.toArray h Q) (eT : T.heap = h) {g : JFrame} (hg : g.method = m) (hsize : g.locals.size = c.maxLocals)
    (hlen : ∀ sig, parseMethodDescriptor y.desc = some sig → argsL.length = sig.parameters.length) (hs : g.stack = argsL.reverse ++ rest) {W : Nat} (hW : 2 * g.monitorRoom + (rest.map fun v => v.category).sum ≤ W) (hd : decode c.code g.pc = .ok (.invokestatic index, 3))
    (hf : rm.frames + 1 ≤ R.frames) (hl : W + (maxL + 11) + rm.locals ≤ R.locals) (hc : cells + rm.cells ≤ R.cells) (hsl : slots + rm.slots ≤ R.slots) :
    ∃ v T' h' L, Stand p l e R s m args below meth c T' (locs ++ L) (cells + rm.cells) (slots + rm.slots) ∧ T'.heap = h' ∧ Q v h' L ∧ ∀ t, Steps p.tables e below (T'.setTop { g with pc := g.pc + 3, stack := v.toList ++ rest }) t → Steps p.tables e below (T.setTop g) t := by
  obtain ⟨v, _, ⟨T', L', k', n'⟩, -, X', ⟨Lc, hQ, l1, y1, z1⟩, st⟩ := Jvm.LawKit.callS X hx (y := y) hown (mvT hZ w1) (mvT hZ w2) (mvT hZ w3) (mvT hZ w4) hy (backOf (W := W) hC hZ w4 w3 hf hl) hg hsize hlen hs hW hd (fun _ _ => ⟨rfl, eT, hc, hsl⟩)
  dsimp only [Pt.U, Pt.locs, Pt.cells, Pt.slots] at X' l1 y1 z1 st hQ
  subst l1 y1 z1
  exact ⟨v, T', _, Lc, X', rfl, hQ, st⟩
theorem own_special (X : Stand p l e R s m args below meth c T locs cells slots) (hx : p.tables.exec = Jvm.exec) (hZ : Z.Warmed39 s.vm) (hown : s.vm.findClass own = some m.cls) (hy1 : y.name = "<init>") (w1 : (Jvm.Cond.methodLink own index y).before a0 Z = true) (w2 : (Jvm.Cond.instanceMethod y).before a0 Z = true)
    (w4 : (Jvm.Cond.code y bytes maxL none).before a0 Z = true) (w3 : (Jvm.Cond.initialized y.cls).before a0 Z = true) (hy : y.cls ≠ "java/lang/invoke/MethodHandle" ∧ y.cls ≠ "java/lang/invoke/VarHandle") (hC : Ct l Z [] y bytes maxL none rm (.ref a :: argsL).toArray h Q) (eT : T.heap = h) {g : JFrame} (hg : g.method = m) (hsize : g.locals.size = c.maxLocals)
    (hlen : ∀ sig, parseMethodDescriptor y.desc = some sig → argsL.length = sig.parameters.length) (hs : g.stack = argsL.reverse ++ .ref a :: rest) {W : Nat} (hW : 2 * g.monitorRoom + (rest.map fun v => v.category).sum ≤ W) (hd : decode c.code g.pc = .ok (.invokespecial index, 3))
    (hf : rm.frames + 1 ≤ R.frames) (hl : W + (maxL + 11) + rm.locals ≤ R.locals) (hc : cells + rm.cells ≤ R.cells) (hsl : slots + rm.slots ≤ R.slots) :
    ∃ v T' h' L, Stand p l e R s m args below meth c T' (locs ++ L) (cells + rm.cells) (slots + rm.slots) ∧ T'.heap = h' ∧ Q v h' L ∧ ∀ t, Steps p.tables e below (T'.setTop { g with pc := g.pc + 3, stack := v.toList ++ rest }) t → Steps p.tables e below (T.setTop g) t := by
  obtain ⟨v, _, ⟨T', L', k', n'⟩, -, X', ⟨Lc, hQ, l1, y1, z1⟩, st⟩ := X.specialBack hx (y := y) hy1 hown (mvT hZ w1) (mvT hZ w2) (mvT hZ w4) hy (backOf (W := W) hC hZ w4 w3 hf hl) hg hsize (Steps.refl _) (a := a) hlen hs hW hd (fun _ _ => ⟨rfl, eT, hc, hsl⟩)
  dsimp only [Pt.U, Pt.locs, Pt.cells, Pt.slots] at X' l1 y1 z1 st hQ
  subst l1 y1 z1
  exact ⟨v, T', _, Lc, X', rfl, hQ, fun t k => st.trans k⟩
theorem own_virtual {C : String} (X : Stand p l e R s m args below meth c T locs cells slots) (hx : p.tables.exec = Jvm.exec) (hZ : Z.Warmed39 s.vm) (hown : s.vm.findClass own = some m.cls) (w1 : (Jvm.Cond.methodLink own index y).before a0 Z = true) (w2 : (Jvm.Cond.declares y).before a0 Z = true) (w5 : (Jvm.Cond.selects C y y).before a0 Z = true)
    (w6 : (Jvm.Cond.instanceMethod y).before a0 Z = true) (w4 : (Jvm.Cond.code y bytes maxL ret).before a0 Z = true) (w3 : (Jvm.Cond.initialized y.cls).before a0 Z = true) (hy : y.cls ≠ "java/lang/invoke/MethodHandle" ∧ y.cls ≠ "java/lang/invoke/VarHandle") (E : Exa Z h a C) (hC : Ct l Z [] y bytes maxL ret rm (.ref a :: argsL).toArray h Q) (eT : T.heap = h) {g : JFrame} (hg : g.method = m) (hsize : g.locals.size = c.maxLocals)
    (hlen : ∀ sig, parseMethodDescriptor y.desc = some sig → argsL.length = sig.parameters.length) (hs : g.stack = argsL.reverse ++ .ref a :: rest) {W : Nat} (hW : 2 * g.monitorRoom + (rest.map fun v => v.category).sum ≤ W) (hd : decode c.code g.pc = .ok (.invokevirtual index, 3))
    (hf : rm.frames + 1 ≤ R.frames) (hl : W + (maxL + 11) + rm.locals ≤ R.locals) (hc : cells + rm.cells ≤ R.cells) (hsl : slots + rm.slots ≤ R.slots) :
    ∃ v T' h' L, Stand p l e R s m args below meth c T' (locs ++ L) (cells + rm.cells) (slots + rm.slots) ∧ T'.heap = h' ∧ Q v h' L ∧ ∀ t, Steps p.tables e below (T'.setTop { g with pc := g.pc + 3, stack := v.toList ++ rest }) t → Steps p.tables e below (T.setTop g) t := by
  obtain ⟨cq, kq, qa, qb, qc⟩ := isOf hZ eT E
  obtain ⟨v, _, ⟨T', L', k', n'⟩, -, X', ⟨Lc, hQ, l1, y1, z1⟩, st⟩ := X.virtualBack hx (y := y) (z := y) hown (mvT hZ w1) (mvT hZ w2) (notFace_of_selects (args := #[]) (mvT hZ w5)) (mvT hZ w5) (mvT hZ w6) hy (backOf (W := W) hC hZ w4 w3 hf hl) qa qc hg hsize (Steps.refl _) hlen hs hW hd (fun _ _ => ⟨rfl, eT, hc, hsl⟩)
  dsimp only [Pt.U, Pt.locs, Pt.cells, Pt.slots] at X' l1 y1 z1 st hQ
  subst l1 y1 z1
  exact ⟨v, T', _, Lc, X', rfl, hQ, fun t k => st.trans k⟩
theorem own_private {nn : Nat} (X : Stand p l e R s m args below meth c T locs cells slots) (hx : p.tables.exec = Jvm.exec) (hZ : Z.Warmed39 s.vm) (hown : s.vm.findClass own = some m.cls) (w1 : (Jvm.Cond.methodLink own index y).before a0 Z = true) (w2 : (Jvm.Cond.instanceMethod y).before a0 Z = true) (wi : (Jvm.Cond.instantiable y.cls nn).before a0 Z = true)
    (wp : (Jvm.Cond.privateMethod y).before a0 Z = true) (w4 : (Jvm.Cond.code y bytes maxL ret).before a0 Z = true) (w3 : (Jvm.Cond.initialized y.cls).before a0 Z = true) (hy : y.cls ≠ "java/lang/invoke/MethodHandle" ∧ y.cls ≠ "java/lang/invoke/VarHandle") (E : Exa Z h a y.cls) (hC : Ct l Z [] y bytes maxL ret rm (.ref a :: argsL).toArray h Q) (eT : T.heap = h) {g : JFrame} (hg : g.method = m) (hsize : g.locals.size = c.maxLocals)
    (hlen : ∀ sig, parseMethodDescriptor y.desc = some sig → argsL.length = sig.parameters.length) (hs : g.stack = argsL.reverse ++ .ref a :: rest) {W : Nat} (hW : 2 * g.monitorRoom + (rest.map fun v => v.category).sum ≤ W) (hd : decode c.code g.pc = .ok (.invokevirtual index, 3))
    (hf : rm.frames + 1 ≤ R.frames) (hl : W + (maxL + 11) + rm.locals ≤ R.locals) (hc : cells + rm.cells ≤ R.cells) (hsl : slots + rm.slots ≤ R.slots) :
    ∃ v T' h' L, Stand p l e R s m args below meth c T' (locs ++ L) (cells + rm.cells) (slots + rm.slots) ∧ T'.heap = h' ∧ Q v h' L ∧ ∀ t, Steps p.tables e below (T'.setTop { g with pc := g.pc + 3, stack := v.toList ++ rest }) t → Steps p.tables e below (T.setTop g) t := by
  obtain ⟨cell, hcell, hobj⟩ := E.cell
  have hsel : (Jvm.Cond.selects y.cls y y).before args s = true := by
    obtain ⟨c', k', i1, i2, -, i4, -⟩ := Cond.instantiable_spec (mvT hZ wi : (Jvm.Cond.instantiable y.cls nn).before args s = true)
    exact selects_self_of_private i1 i2 (Bool.or_eq_false_iff.mp i4).1 (Cond.privateMethod_at (mvP hZ wp (args := args))) (mvT hZ w2) hy
  obtain ⟨v, _, ⟨T', L', k', n'⟩, -, X', ⟨Lc, hQ, l1, y1, z1⟩, st⟩ := X.privateBack hx (y := y) hown (mvT hZ w1) (mvT hZ w2) hsel (Cond.privateMethod_at (mvP hZ wp (args := #[]))) (mvT hZ w4) hy (backOf (W := W) hC hZ w4 w3 hf hl) hg hsize (Steps.refl _) (a := a) (by rw [eT]; exact hcell) hobj hlen hs hW hd (fun _ _ => ⟨rfl, eT, hc, hsl⟩)
  dsimp only [Pt.U, Pt.locs, Pt.cells, Pt.slots] at X' l1 y1 z1 st hQ
  subst l1 y1 z1
  exact ⟨v, T', _, Lc, X', rfl, hQ, fun t k => st.trans k⟩
theorem own_virtualUp {C owner : String} (X : Stand p l e R s m args below meth c T locs cells slots) (hx : p.tables.exec = Jvm.exec) (hZ : Z.Warmed39 s.vm) (hown : s.vm.findClass own = some m.cls) (w1 : (Jvm.Cond.methodLink own index y).before a0 Z = true) (ws : (Jvm.Cond.sameMethod y.cls owner y.name y.desc).before a0 Z = true) (w2 : (Jvm.Cond.declares ⟨owner, y.name, y.desc⟩).before a0 Z = true) (w5 : (Jvm.Cond.selects C y z).before a0 Z = true)
    (w6 : (Jvm.Cond.instanceMethod z).before a0 Z = true) (w4 : (Jvm.Cond.code z bytes maxL ret).before a0 Z = true) (w3 : (Jvm.Cond.initialized z.cls).before a0 Z = true) (ho : owner ≠ "java/lang/invoke/MethodHandle" ∧ owner ≠ "java/lang/invoke/VarHandle") (E : Exa Z h a C) (hC : Ct l Z [] z bytes maxL ret rm (.ref a :: argsL).toArray h Q) (eT : T.heap = h) {g : JFrame} (hg : g.method = m) (hsize : g.locals.size = c.maxLocals)
    (hlen : ∀ sig, parseMethodDescriptor y.desc = some sig → argsL.length = sig.parameters.length) (hs : g.stack = argsL.reverse ++ .ref a :: rest) {W : Nat} (hW : 2 * g.monitorRoom + (rest.map fun v => v.category).sum ≤ W) (hd : decode c.code g.pc = .ok (.invokevirtual index, 3))
    (hf : rm.frames + 1 ≤ R.frames) (hl : W + (maxL + 11) + rm.locals ≤ R.locals) (hc : cells + rm.cells ≤ R.cells) (hsl : slots + rm.slots ≤ R.slots) :
    ∃ v T' h' L, Stand p l e R s m args below meth c T' (locs ++ L) (cells + rm.cells) (slots + rm.slots) ∧ T'.heap = h' ∧ Q v h' L ∧ ∀ t, Steps p.tables e below (T'.setTop { g with pc := g.pc + 3, stack := v.toList ++ rest }) t → Steps p.tables e below (T.setTop g) t := by
  obtain ⟨cq, kq, qa, qb, qc⟩ := isOf hZ eT E
  obtain ⟨v, _, ⟨T', L', k', n'⟩, -, X', ⟨Lc, hQ, l1, y1, z1⟩, st⟩ := X.virtualBackUp hx (x := y) (y := z) (owner := owner) hown (mvT hZ w1) (mvT hZ ws) (mvT hZ w2) ho (mvT hZ w5) (mvT hZ w6) (backOf (W := W) hC hZ w4 w3 hf hl) qa qc hg hsize (Steps.refl _) hlen hs hW hd (fun _ _ => ⟨rfl, eT, hc, hsl⟩)
  dsimp only [Pt.U, Pt.locs, Pt.cells, Pt.slots] at X' l1 y1 z1 st hQ
  subst l1 y1 z1
  exact ⟨v, T', _, Lc, X', rfl, hQ, fun t k => st.trans k⟩
theorem own_ref {x : Value} (hq : x = .null ∨ ∃ b, x = .ref b) : x.isRef = true := by rcases hq with rfl | ⟨_, rfl⟩ <;> rfl
theorem own_cat {x : Value} (hq : x = .null ∨ ∃ b, x = .ref b) : x.category = 1 := by rcases hq with rfl | ⟨_, rfl⟩ <;> rfl
theorem own_nar {x : Value} {t : FieldType} (hq : x = .null ∨ ∃ b, x = .ref b) (ht : t.isReference = true) : narrow t x = x := by rcases hq with rfl | ⟨_, rfl⟩ <;> cases t <;> first | rfl | (cases ht; done)
theorem own_fit {x : Value} {t : FieldType} (hq : x = .null ∨ ∃ b, x = .ref b) (ht : t.isReference = true) : fits t x = true := by rcases hq with rfl | ⟨_, rfl⟩ <;> cases t <;> first | rfl | (cases ht; done)
variable {k : ClassId} {ty : FieldType} {n j : Int32} {vs : List Value} {dv v : Value}
theorem own_ld (X : Stand p l e R s m args below meth c T locs cells slots) (hx : p.tables.exec = Jvm.exec) (hZ : Z.Warmed39 s.vm) (eT : T.heap = h) (F : Arv Z h a k ty n vs dv) (hj : ¬ j < 0 ∧ j < n) (hv : vs.getD j.toNatClampNeg dv = v) {g : JFrame} (hg : g.method = m) (hs : g.stack = .int j :: .ref a :: rest) {i : Instr}
    (hi : (i = .iaload ∧ ty = .int) ∨ (i = .laload ∧ ty = .long) ∨ (i = .aaload ∧ ty.isReference = true)) (hd : decode c.code g.pc = .ok (i, 1)) : ∀ t, Steps p.tables e below (T.setTop { g with pc := g.pc + 1, stack := v :: rest }) t → Steps p.tables e below (T.setTop g) t := by
  obtain ⟨cl, A, -, S, -, H, -⟩ := F
  have hin := inb_of S hj
  have hat := H.at hin hv
  rcases hi with ⟨rfl, rfl⟩ | ⟨rfl, rfl⟩ | ⟨rfl, ht⟩
  · exact X.iaload hx (j := j) (v := v) (by rw [eT]; exact A.1) (State.isArrayOf_alike hZ.alike A.2.1) A.2.2 hin hat hg hs hd
  · exact X.laload hx (j := j) (v := v) (by rw [eT]; exact A.1) (State.isArrayOf_alike hZ.alike A.2.1) A.2.2 hin hat hg hs hd
  · exact X.aaload hx (j := j) (v := v) (by rw [eT]; exact A.1) (State.isArrayOf_alike hZ.alike A.2.1) ht A.2.2 hin hat hg hs hd
theorem own_len (X : Stand p l e R s m args below meth c T locs cells slots) (hx : p.tables.exec = Jvm.exec) (hZ : Z.Warmed39 s.vm) (eT : T.heap = h) (F : Arv Z h a k ty n vs dv) {g : JFrame} (hg : g.method = m) (hs : g.stack = .ref a :: rest) (hd : decode c.code g.pc = .ok (.arraylength, 1)) :
    ∀ t, Steps p.tables e below (T.setTop { g with pc := g.pc + 1, stack := .int n :: rest }) t → Steps p.tables e below (T.setTop g) t := by
  obtain ⟨cl, A, -, S, q, -, -⟩ := F
  intro t kt
  refine X.arraylength hx (by rw [eT]; exact A.1) (State.isArrayOf_alike hZ.alike A.2.1) hg hs hd t ?_
  rw [len_of S q]
  exact kt
theorem own_lenA {cc : Cell} (X : Stand p l e R s m args below meth c T locs cells slots) (hx : p.tables.exec = Jvm.exec) (hZ : Z.Warmed39 s.vm) (eT : T.heap = h) (A : Arr Z h a cc ty) (hn : cc.slots.size.toInt32 = n) {g : JFrame} (hg : g.method = m) (hs : g.stack = .ref a :: rest) (hd : decode c.code g.pc = .ok (.arraylength, 1)) :
    ∀ t, Steps p.tables e below (T.setTop { g with pc := g.pc + 1, stack := .int n :: rest }) t → Steps p.tables e below (T.setTop g) t := by
  intro t kt
  refine X.arraylength hx (by rw [eT]; exact A.1) (State.isArrayOf_alike hZ.alike A.2.1) hg hs hd t ?_
  rw [hn]
  exact kt
theorem own_stI (X : Stand p l e R s m args below meth c T locs cells slots) (hx : p.tables.exec = Jvm.exec) (hZ : Z.Warmed39 s.vm) (eT : T.heap = h) (F : Arv Z h a k .int n vs dv) (hj : ¬ j < 0 ∧ j < n) (i : Nat) (hi : j.toNatClampNeg = i) (hl : i < vs.length) {x : Int32} {g : JFrame} (hg : g.method = m) (hs : g.stack = .int x :: .int j :: .ref a :: rest) (hd : decode c.code g.pc = .ok (.iastore, 1)) :
    ∃ T' h', Stand p l e R s m args below meth c T' (locs ++ [⟨a, j.toNatClampNeg⟩]) cells slots ∧ T'.heap = h' ∧ Wr h h' a j.toNatClampNeg (.int x) ∧ Arv Z h' a k .int n (vs.set i (.int x)) dv ∧ ∀ t, Steps p.tables e below (T'.setTop { g with pc := g.pc + 1, stack := rest }) t → Steps p.tables e below (T.setTop g) t := by
  obtain ⟨cl, A, q1, S, q3, H, G⟩ := F
  obtain ⟨T', h', X', e', W, st⟩ := stI X hx hZ eT A (inb_of S hj) hg hs hd
  exact ⟨T', h', X', e', W, Arv.set A q1 S q3 H G rfl W i hi hl, st⟩
theorem own_stJ (X : Stand p l e R s m args below meth c T locs cells slots) (hx : p.tables.exec = Jvm.exec) (hZ : Z.Warmed39 s.vm) (eT : T.heap = h) (F : Arv Z h a k .long n vs dv) (hj : ¬ j < 0 ∧ j < n) (i : Nat) (hi : j.toNatClampNeg = i) (hl : i < vs.length) {x : Int64} {g : JFrame} (hg : g.method = m) (hs : g.stack = .long x :: .int j :: .ref a :: rest) (hd : decode c.code g.pc = .ok (.lastore, 1)) :
    ∃ T' h', Stand p l e R s m args below meth c T' (locs ++ [⟨a, j.toNatClampNeg⟩]) cells slots ∧ T'.heap = h' ∧ Wr h h' a j.toNatClampNeg (.long x) ∧ Arv Z h' a k .long n (vs.set i (.long x)) dv ∧ ∀ t, Steps p.tables e below (T'.setTop { g with pc := g.pc + 1, stack := rest }) t → Steps p.tables e below (T.setTop g) t := by
  obtain ⟨cl, A, q1, S, q3, H, G⟩ := F
  obtain ⟨T', h', X', e', W, st⟩ := stJ X hx hZ eT A (inb_of S hj) hg hs hd
  exact ⟨T', h', X', e', W, Arv.set A q1 S q3 H G rfl W i hi hl, st⟩
theorem own_stR {C : String} {y : Value} (X : Stand p l e R s m args below meth c T locs cells slots) (hx : p.tables.exec = Jvm.exec) (hZ : Z.Warmed39 s.vm) (eT : T.heap = h) (F : Arv Z h a k ty n vs dv) (ht : ty.isReference = true) (hf : fits ty y = true) (O : y = .null ∨ ∃ b, y = .ref b ∧ Ovr Z k C ∧ Ins Z h b C true) (hj : ¬ j < 0 ∧ j < n) (i : Nat) (hi : j.toNatClampNeg = i) (hl : i < vs.length) {g : JFrame} (hg : g.method = m) (hs : g.stack = y :: .int j :: .ref a :: rest) (hd : decode c.code g.pc = .ok (.aastore, 1)) :
    ∃ T' h', Stand p l e R s m args below meth c T' (locs ++ [⟨a, j.toNatClampNeg⟩]) cells slots ∧ T'.heap = h' ∧ Wr h h' a j.toNatClampNeg y ∧ Arv Z h' a k ty n (vs.set i y) dv ∧ ∀ t, Steps p.tables e below (T'.setTop { g with pc := g.pc + 1, stack := rest }) t → Steps p.tables e below (T.setTop g) t := by
  obtain ⟨cl, A, q1, S, q3, H, G⟩ := F
  obtain ⟨T', h', X', e', W, st⟩ := stR X hx hZ eT A (inb_of S hj) ht (by rcases O with rfl | ⟨b, rfl, O, I⟩; exact Or.inl rfl; exact Sto.ofV A q1 O I) hg hs hd
  exact ⟨T', h', X', e', W, Arv.set A q1 S q3 H G hf W i hi hl, st⟩
end OwnKit
def own_beg (x : Int32) : Int32 := if x < (32 : Int32) then 0 else if (126 : Int32) < x then 0 else 1
def own_exp (x : Int32) : Int32 := if x < (0 : Int32) then 0 else if x = (127 : Int32) then 0 else if (x &&& (96 : Int32)) = (0 : Int32) then 0 else 1
theorem own_all : ∀ n : Fin 256, own_beg (Int8.ofBitVec (BitVec.ofFin n)).toInt32 = own_exp (Int8.ofBitVec (BitVec.ofFin n)).toInt32 := by decide +kernel
theorem own_same (x : Int32) : own_beg x.toInt8.toInt32 = own_exp x.toInt8.toInt32 := own_all x.toInt8.toBitVec.toFin
theorem d1_0 : decode prog_35_method_2_code 0 = .ok (.iload_n 0, 1) := by decide +kernel
theorem d1_1 : decode prog_35_method_2_code 1 = .ok (.bipush 32, 2) := by decide +kernel
theorem d1_3 : decode prog_35_method_2_code 3 = .ok (.if_icmp .lt 13, 3) := by decide +kernel
theorem d1_6 : decode prog_35_method_2_code 6 = .ok (.iload_n 0, 1) := by decide +kernel
theorem d1_7 : decode prog_35_method_2_code 7 = .ok (.bipush 126, 2) := by decide +kernel
theorem d1_9 : decode prog_35_method_2_code 9 = .ok (.if_icmp .gt 7, 3) := by decide +kernel
theorem d1_12 : decode prog_35_method_2_code 12 = .ok (.iconst 1, 1) := by decide +kernel
theorem d1_13 : decode prog_35_method_2_code 13 = .ok (.goto 4, 3) := by decide +kernel
theorem d1_16 : decode prog_35_method_2_code 16 = .ok (.iconst 0, 1) := by decide +kernel
theorem d1_17 : decode prog_35_method_2_code 17 = .ok (.ireturn, 1) := by decide +kernel
theorem pn_0 : plainName "com/example/wee_capture/weecapture/daemon/StreamRequest" = true := by first | (simp [plainName, overriddenIn]; done) | decide +kernel
def rm1Q (Z : State) (p1 : Int32) (h0 : Heap) (n0 : Nat) (v : Option Value) (h : Heap) (L : List Loc) : Prop := v = some (.int (own_beg p1)) ∧ Fr n0 L ∧ h = h0
set_option maxRecDepth 65536 in
set_option maxHeartbeats 40000000 in
theorem rm1 (l : Launch) (Z : State) (a0 : Array Value) (hw : ∀ d ∈ tables_1, d.before a0 Z = true) (p1 : Int32) (h0 : Heap) (n0 : Nat) (Z0 : n0 ≤ h0.size) :
    Ct l Z [] (⟨"com/example/wee_capture/weecapture/daemon/StreamRequest", "begins", "(B)Z"⟩ : MethodName) prog_35_method_2_code 1 (some .boolean) ({ frames := 0, cells := 0, slots := 0, locals := 0 } : Room) #[(.int p1)] h0 (rm1Q Z p1 h0 n0) := by
  refine own_enter (plainFor_of_name pn_0) ?_
  intro p e s m below meth c T0 X0 hx hby hml hZ hown hnm hret hlk e0
  have hown : s.vm.findClass "com/example/wee_capture/weecapture/daemon/StreamRequest" = some m.cls := hown
  have N0 := Fr.nil n0
  have K0 := Keep.refl h0 []
  refine own_st (fun wt wk => castTop (g' := mkF m 0 #[.val (.int p1)] []) (by first | (simp [entryFrame, mkF, argsToLocals, Value.category]; done) | rfl) wk) ?_
  show Fin1 p e below s (rm1Q Z p1 h0 n0) ({ frames := 0, cells := 0, slots := 0, locals := 0 } : Room).cells ({ frames := 0, cells := 0, slots := 0, locals := 0 } : Room).slots (T0.setTop (mkF m 0 #[.val (.int p1)] []))
  refine own_st (fun wt wk => XS.iloadN X0.here hx rfl (hb hby d1_0) rfl wk) ?_
  show Fin1 p e below s (rm1Q Z p1 h0 n0) ({ frames := 0, cells := 0, slots := 0, locals := 0 } : Room).cells ({ frames := 0, cells := 0, slots := 0, locals := 0 } : Room).slots (T0.setTop (mkF m 1 #[.val (.int p1)] [(.int p1)]))
  refine own_st (fun wt wk => XS.bipush X0.here hx rfl (hb hby d1_1) wk) ?_
  show Fin1 p e below s (rm1Q Z p1 h0 n0) ({ frames := 0, cells := 0, slots := 0, locals := 0 } : Room).cells ({ frames := 0, cells := 0, slots := 0, locals := 0 } : Room).slots (T0.setTop (mkF m 3 #[.val (.int p1)] [(.int (32 : Int32)), (.int p1)]))
  by_cases c3 : p1 < (32 : Int32)
  · refine own_st (fun wt wk => XS.icmpYes X0.here hx rfl (pc0 := 3) (pc' := 16) rfl (hb hby d1_3) rfl (tlt c3).1 (by decide) (by decide) wk) ?_
    show Fin1 p e below s (rm1Q Z p1 h0 n0) ({ frames := 0, cells := 0, slots := 0, locals := 0 } : Room).cells ({ frames := 0, cells := 0, slots := 0, locals := 0 } : Room).slots (T0.setTop (mkF m 16 #[.val (.int p1)] []))
    refine own_st (fun wt wk => XS.iconst X0.here hx rfl (hb hby d1_16) wk) ?_
    show Fin1 p e below s (rm1Q Z p1 h0 n0) ({ frames := 0, cells := 0, slots := 0, locals := 0 } : Room).cells ({ frames := 0, cells := 0, slots := 0, locals := 0 } : Room).slots (T0.setTop (mkF m 17 #[.val (.int p1)] [(.int (0 : Int32))]))
    exact own_retZ X0 hx hlk hret (hb hby d1_17) (z := (0 : Int32)) (by decide) (by rw [e0]; exact ⟨(by simp [own_beg, c3]), N0, rfl⟩) (by decide) (by decide)
  · refine own_st (fun wt wk => XS.icmpNo X0.here hx rfl (hb hby d1_3) rfl (flt c3).1 wk) ?_
    show Fin1 p e below s (rm1Q Z p1 h0 n0) ({ frames := 0, cells := 0, slots := 0, locals := 0 } : Room).cells ({ frames := 0, cells := 0, slots := 0, locals := 0 } : Room).slots (T0.setTop (mkF m 6 #[.val (.int p1)] []))
    refine own_st (fun wt wk => XS.iloadN X0.here hx rfl (hb hby d1_6) rfl wk) ?_
    show Fin1 p e below s (rm1Q Z p1 h0 n0) ({ frames := 0, cells := 0, slots := 0, locals := 0 } : Room).cells ({ frames := 0, cells := 0, slots := 0, locals := 0 } : Room).slots (T0.setTop (mkF m 7 #[.val (.int p1)] [(.int p1)]))
    refine own_st (fun wt wk => XS.bipush X0.here hx rfl (hb hby d1_7) wk) ?_
    show Fin1 p e below s (rm1Q Z p1 h0 n0) ({ frames := 0, cells := 0, slots := 0, locals := 0 } : Room).cells ({ frames := 0, cells := 0, slots := 0, locals := 0 } : Room).slots (T0.setTop (mkF m 9 #[.val (.int p1)] [(.int (126 : Int32)), (.int p1)]))
    by_cases c9 : (126 : Int32) < p1
    · refine own_st (fun wt wk => XS.icmpYes X0.here hx rfl (pc0 := 9) (pc' := 16) rfl (hb hby d1_9) rfl (tlt c9).2.2.1 (by decide) (by decide) wk) ?_
      show Fin1 p e below s (rm1Q Z p1 h0 n0) ({ frames := 0, cells := 0, slots := 0, locals := 0 } : Room).cells ({ frames := 0, cells := 0, slots := 0, locals := 0 } : Room).slots (T0.setTop (mkF m 16 #[.val (.int p1)] []))
      refine own_st (fun wt wk => XS.iconst X0.here hx rfl (hb hby d1_16) wk) ?_
      show Fin1 p e below s (rm1Q Z p1 h0 n0) ({ frames := 0, cells := 0, slots := 0, locals := 0 } : Room).cells ({ frames := 0, cells := 0, slots := 0, locals := 0 } : Room).slots (T0.setTop (mkF m 17 #[.val (.int p1)] [(.int (0 : Int32))]))
      exact own_retZ X0 hx hlk hret (hb hby d1_17) (z := (0 : Int32)) (by decide) (by rw [e0]; exact ⟨(by simp [own_beg, c3, c9]), N0, rfl⟩) (by decide) (by decide)
    · refine own_st (fun wt wk => XS.icmpNo X0.here hx rfl (hb hby d1_9) rfl (flt c9).2.2.1 wk) ?_
      show Fin1 p e below s (rm1Q Z p1 h0 n0) ({ frames := 0, cells := 0, slots := 0, locals := 0 } : Room).cells ({ frames := 0, cells := 0, slots := 0, locals := 0 } : Room).slots (T0.setTop (mkF m 12 #[.val (.int p1)] []))
      refine own_st (fun wt wk => XS.iconst X0.here hx rfl (hb hby d1_12) wk) ?_
      show Fin1 p e below s (rm1Q Z p1 h0 n0) ({ frames := 0, cells := 0, slots := 0, locals := 0 } : Room).cells ({ frames := 0, cells := 0, slots := 0, locals := 0 } : Room).slots (T0.setTop (mkF m 13 #[.val (.int p1)] [(.int (1 : Int32))]))
      refine own_st (fun wt wk => XS.goto X0.here hx rfl (pc0 := 13) (pc' := 17) rfl (hb hby d1_13) (by decide) (by decide) wk) ?_
      show Fin1 p e below s (rm1Q Z p1 h0 n0) ({ frames := 0, cells := 0, slots := 0, locals := 0 } : Room).cells ({ frames := 0, cells := 0, slots := 0, locals := 0 } : Room).slots (T0.setTop (mkF m 17 #[.val (.int p1)] [(.int (1 : Int32))]))
      exact own_retZ X0 hx hlk hret (hb hby d1_17) (z := (1 : Int32)) (by decide) (by rw [e0]; exact ⟨(by simp [own_beg, c3, c9]), N0, rfl⟩) (by decide) (by decide)
theorem pn_1 : plainName "com/example/wee_capture/weecapture/daemon/StreamRequestBeginsPinLaw" = true := by first | (simp [plainName, overriddenIn]; done) | decide +kernel
theorem pd_2 : parseMethodDescriptor "(B)Z" = some ⟨[.byte], some .boolean⟩ := by decide +kernel
def rm0Q (Z : State) (i0 : Int32) (h0 : Heap) (n0 : Nat) (v : Option Value) (h : Heap) (L : List Loc) : Prop := v = some (.int (1 : Int32)) ∧ Fr n0 L
set_option maxRecDepth 65536 in
set_option maxHeartbeats 40000000 in
theorem rm0 (l : Launch) (Z : State) (a0 : Array Value) (hw : ∀ d ∈ tables_1, d.before a0 Z = true) (i0 : Int32) (h0 : Heap) (n0 : Nat) (Z0 : n0 ≤ h0.size) :
    Ct l Z tables_1 x code maxLocals ret room_1 #[(.int i0)] h0 (rm0Q Z i0 h0 n0) := by
  refine own_enter (plainFor_of_name pn_1) ?_
  intro p e s m below meth c T0 X0 hx hby hml hZ hown hnm hret hlk e0
  have hown : s.vm.findClass "com/example/wee_capture/weecapture/daemon/StreamRequestBeginsPinLaw" = some m.cls := hown
  have N0 := Fr.nil n0
  have K0 := Keep.refl h0 []
  refine own_st (fun wt wk => castTop (g' := mkF m 0 #[.val (.int i0), .unset, .unset, .unset, .unset, .unset] []) (by first | (simp [entryFrame, mkF, argsToLocals, Value.category, maxLocals]; done) | rfl) wk) ?_
  show Fin1 p e below s (rm0Q Z i0 h0 n0) room_1.cells room_1.slots (T0.setTop (mkF m 0 #[.val (.int i0), .unset, .unset, .unset, .unset, .unset] []))
  refine own_st (fun wt wk => XS.iloadN X0.here hx rfl (hb hby at_0) rfl wk) ?_
  show Fin1 p e below s (rm0Q Z i0 h0 n0) room_1.cells room_1.slots (T0.setTop (mkF m 1 #[.val (.int i0), .unset, .unset, .unset, .unset, .unset] [(.int i0)]))
  refine own_st (fun wt wk => XS.i2b X0.here hx rfl (hb hby at_1) rfl wk) ?_
  show Fin1 p e below s (rm0Q Z i0 h0 n0) room_1.cells room_1.slots (T0.setTop (mkF m 2 #[.val (.int i0), .unset, .unset, .unset, .unset, .unset] [(.int (i0.toInt8.toInt32))]))
  refine own_st (fun wt wk => XS.istoreN X0.here hx rfl (hb hby at_2) rfl (l' := #[.val (.int i0), .val (.int (i0.toInt8.toInt32)), .unset, .unset, .unset, .unset]) rfl wk) ?_
  show Fin1 p e below s (rm0Q Z i0 h0 n0) room_1.cells room_1.slots (T0.setTop (mkF m 3 #[.val (.int i0), .val (.int (i0.toInt8.toInt32)), .unset, .unset, .unset, .unset] []))
  refine own_st (fun wt wk => XS.iloadN X0.here hx rfl (hb hby at_3) rfl wk) ?_
  show Fin1 p e below s (rm0Q Z i0 h0 n0) room_1.cells room_1.slots (T0.setTop (mkF m 4 #[.val (.int i0), .val (.int (i0.toInt8.toInt32)), .unset, .unset, .unset, .unset] [(.int (i0.toInt8.toInt32))]))
  suffices K57 : ∀ (k2 : Int32) (k3 : Int32) (k4 : Int32) (k5 : Int32), (k5 = own_exp (i0.toInt8.toInt32)) → Fin1 p e below s (rm0Q Z i0 h0 n0) room_1.cells room_1.slots (T0.setTop (mkF m 57 #[.val (.int i0), .val (.int (i0.toInt8.toInt32)), .val (.int k2), .val (.int k3), .val (.int k4), .unset] [(.int k5)])) by
    by_cases c4 : (i0.toInt8.toInt32) < (0 : Int32)
    · refine own_st (fun wt wk => XS.ifYes X0.here hx rfl (pc0 := 4) (pc' := 11) rfl (hb hby at_4) rfl ((if0 _ _).trans (tlt c4).1) (by decide) (by decide) wk) ?_
      show Fin1 p e below s (rm0Q Z i0 h0 n0) room_1.cells room_1.slots (T0.setTop (mkF m 11 #[.val (.int i0), .val (.int (i0.toInt8.toInt32)), .unset, .unset, .unset, .unset] []))
      refine own_st (fun wt wk => XS.iconst X0.here hx rfl (hb hby at_11) wk) ?_
      show Fin1 p e below s (rm0Q Z i0 h0 n0) room_1.cells room_1.slots (T0.setTop (mkF m 12 #[.val (.int i0), .val (.int (i0.toInt8.toInt32)), .unset, .unset, .unset, .unset] [(.int (0 : Int32))]))
      refine own_st (fun wt wk => XS.istoreN X0.here hx rfl (hb hby at_12) rfl (l' := #[.val (.int i0), .val (.int (i0.toInt8.toInt32)), .val (.int (0 : Int32)), .unset, .unset, .unset]) rfl wk) ?_
      show Fin1 p e below s (rm0Q Z i0 h0 n0) room_1.cells room_1.slots (T0.setTop (mkF m 13 #[.val (.int i0), .val (.int (i0.toInt8.toInt32)), .val (.int (0 : Int32)), .unset, .unset, .unset] []))
      refine own_st (fun wt wk => XS.iloadN X0.here hx rfl (hb hby at_13) rfl wk) ?_
      show Fin1 p e below s (rm0Q Z i0 h0 n0) room_1.cells room_1.slots (T0.setTop (mkF m 14 #[.val (.int i0), .val (.int (i0.toInt8.toInt32)), .val (.int (0 : Int32)), .unset, .unset, .unset] [(.int (i0.toInt8.toInt32))]))
      refine own_st (fun wt wk => XS.bipush X0.here hx rfl (hb hby at_14) wk) ?_
      show Fin1 p e below s (rm0Q Z i0 h0 n0) room_1.cells room_1.slots (T0.setTop (mkF m 16 #[.val (.int i0), .val (.int (i0.toInt8.toInt32)), .val (.int (0 : Int32)), .unset, .unset, .unset] [(.int (127 : Int32)), (.int (i0.toInt8.toInt32))]))
      by_cases c16 : (i0.toInt8.toInt32) = (127 : Int32)
      · refine own_st (fun wt wk => XS.icmpYes X0.here hx rfl (pc0 := 16) (pc' := 23) rfl (hb hby at_16) rfl (teq c16).1 (by decide) (by decide) wk) ?_
        show Fin1 p e below s (rm0Q Z i0 h0 n0) room_1.cells room_1.slots (T0.setTop (mkF m 23 #[.val (.int i0), .val (.int (i0.toInt8.toInt32)), .val (.int (0 : Int32)), .unset, .unset, .unset] []))
        refine own_st (fun wt wk => XS.iconst X0.here hx rfl (hb hby at_23) wk) ?_
        show Fin1 p e below s (rm0Q Z i0 h0 n0) room_1.cells room_1.slots (T0.setTop (mkF m 24 #[.val (.int i0), .val (.int (i0.toInt8.toInt32)), .val (.int (0 : Int32)), .unset, .unset, .unset] [(.int (0 : Int32))]))
        refine own_st (fun wt wk => XS.istoreN X0.here hx rfl (hb hby at_24) rfl (l' := #[.val (.int i0), .val (.int (i0.toInt8.toInt32)), .val (.int (0 : Int32)), .val (.int (0 : Int32)), .unset, .unset]) rfl wk) ?_
        show Fin1 p e below s (rm0Q Z i0 h0 n0) room_1.cells room_1.slots (T0.setTop (mkF m 25 #[.val (.int i0), .val (.int (i0.toInt8.toInt32)), .val (.int (0 : Int32)), .val (.int (0 : Int32)), .unset, .unset] []))
        refine own_st (fun wt wk => XS.iloadN X0.here hx rfl (hb hby at_25) rfl wk) ?_
        show Fin1 p e below s (rm0Q Z i0 h0 n0) room_1.cells room_1.slots (T0.setTop (mkF m 26 #[.val (.int i0), .val (.int (i0.toInt8.toInt32)), .val (.int (0 : Int32)), .val (.int (0 : Int32)), .unset, .unset] [(.int (i0.toInt8.toInt32))]))
        refine own_st (fun wt wk => XS.bipush X0.here hx rfl (hb hby at_26) wk) ?_
        show Fin1 p e below s (rm0Q Z i0 h0 n0) room_1.cells room_1.slots (T0.setTop (mkF m 28 #[.val (.int i0), .val (.int (i0.toInt8.toInt32)), .val (.int (0 : Int32)), .val (.int (0 : Int32)), .unset, .unset] [(.int (96 : Int32)), (.int (i0.toInt8.toInt32))]))
        refine own_st (fun wt wk => XS.iand X0.here hx rfl (hb hby at_28) rfl wk) ?_
        show Fin1 p e below s (rm0Q Z i0 h0 n0) room_1.cells room_1.slots (T0.setTop (mkF m 29 #[.val (.int i0), .val (.int (i0.toInt8.toInt32)), .val (.int (0 : Int32)), .val (.int (0 : Int32)), .unset, .unset] [(.int ((i0.toInt8.toInt32) &&& (96 : Int32)))]))
        by_cases c29 : ((i0.toInt8.toInt32) &&& (96 : Int32)) = (0 : Int32)
        · refine own_st (fun wt wk => XS.ifYes X0.here hx rfl (pc0 := 29) (pc' := 36) rfl (hb hby at_29) rfl ((if0 _ _).trans (teq c29).1) (by decide) (by decide) wk) ?_
          show Fin1 p e below s (rm0Q Z i0 h0 n0) room_1.cells room_1.slots (T0.setTop (mkF m 36 #[.val (.int i0), .val (.int (i0.toInt8.toInt32)), .val (.int (0 : Int32)), .val (.int (0 : Int32)), .unset, .unset] []))
          refine own_st (fun wt wk => XS.iconst X0.here hx rfl (hb hby at_36) wk) ?_
          show Fin1 p e below s (rm0Q Z i0 h0 n0) room_1.cells room_1.slots (T0.setTop (mkF m 37 #[.val (.int i0), .val (.int (i0.toInt8.toInt32)), .val (.int (0 : Int32)), .val (.int (0 : Int32)), .unset, .unset] [(.int (0 : Int32))]))
          refine own_st (fun wt wk => XS.istore X0.here hx rfl (hb hby at_37) rfl (l' := #[.val (.int i0), .val (.int (i0.toInt8.toInt32)), .val (.int (0 : Int32)), .val (.int (0 : Int32)), .val (.int (0 : Int32)), .unset]) rfl wk) ?_
          show Fin1 p e below s (rm0Q Z i0 h0 n0) room_1.cells room_1.slots (T0.setTop (mkF m 39 #[.val (.int i0), .val (.int (i0.toInt8.toInt32)), .val (.int (0 : Int32)), .val (.int (0 : Int32)), .val (.int (0 : Int32)), .unset] []))
          refine own_st (fun wt wk => XS.iloadN X0.here hx rfl (hb hby at_39) rfl wk) ?_
          show Fin1 p e below s (rm0Q Z i0 h0 n0) room_1.cells room_1.slots (T0.setTop (mkF m 40 #[.val (.int i0), .val (.int (i0.toInt8.toInt32)), .val (.int (0 : Int32)), .val (.int (0 : Int32)), .val (.int (0 : Int32)), .unset] [(.int (0 : Int32))]))
          refine own_st (fun wt wk => XS.ifYes X0.here hx rfl (pc0 := 40) (pc' := 56) rfl (hb hby at_40) rfl ((if0 _ _).trans (teq (by decide)).1) (by decide) (by decide) wk) ?_
          show Fin1 p e below s (rm0Q Z i0 h0 n0) room_1.cells room_1.slots (T0.setTop (mkF m 56 #[.val (.int i0), .val (.int (i0.toInt8.toInt32)), .val (.int (0 : Int32)), .val (.int (0 : Int32)), .val (.int (0 : Int32)), .unset] []))
          refine own_st (fun wt wk => XS.iconst X0.here hx rfl (hb hby at_56) wk) ?_
          show Fin1 p e below s (rm0Q Z i0 h0 n0) room_1.cells room_1.slots (T0.setTop (mkF m 57 #[.val (.int i0), .val (.int (i0.toInt8.toInt32)), .val (.int (0 : Int32)), .val (.int (0 : Int32)), .val (.int (0 : Int32)), .unset] [(.int (0 : Int32))]))
          exact K57 _ _ _ _ (by simp [own_exp, c4, c16, c29])
        · refine own_st (fun wt wk => XS.ifNo X0.here hx rfl (hb hby at_29) rfl ((if0 _ _).trans (feq c29).1) wk) ?_
          show Fin1 p e below s (rm0Q Z i0 h0 n0) room_1.cells room_1.slots (T0.setTop (mkF m 32 #[.val (.int i0), .val (.int (i0.toInt8.toInt32)), .val (.int (0 : Int32)), .val (.int (0 : Int32)), .unset, .unset] []))
          refine own_st (fun wt wk => XS.iconst X0.here hx rfl (hb hby at_32) wk) ?_
          show Fin1 p e below s (rm0Q Z i0 h0 n0) room_1.cells room_1.slots (T0.setTop (mkF m 33 #[.val (.int i0), .val (.int (i0.toInt8.toInt32)), .val (.int (0 : Int32)), .val (.int (0 : Int32)), .unset, .unset] [(.int (1 : Int32))]))
          refine own_st (fun wt wk => XS.goto X0.here hx rfl (pc0 := 33) (pc' := 37) rfl (hb hby at_33) (by decide) (by decide) wk) ?_
          show Fin1 p e below s (rm0Q Z i0 h0 n0) room_1.cells room_1.slots (T0.setTop (mkF m 37 #[.val (.int i0), .val (.int (i0.toInt8.toInt32)), .val (.int (0 : Int32)), .val (.int (0 : Int32)), .unset, .unset] [(.int (1 : Int32))]))
          refine own_st (fun wt wk => XS.istore X0.here hx rfl (hb hby at_37) rfl (l' := #[.val (.int i0), .val (.int (i0.toInt8.toInt32)), .val (.int (0 : Int32)), .val (.int (0 : Int32)), .val (.int (1 : Int32)), .unset]) rfl wk) ?_
          show Fin1 p e below s (rm0Q Z i0 h0 n0) room_1.cells room_1.slots (T0.setTop (mkF m 39 #[.val (.int i0), .val (.int (i0.toInt8.toInt32)), .val (.int (0 : Int32)), .val (.int (0 : Int32)), .val (.int (1 : Int32)), .unset] []))
          refine own_st (fun wt wk => XS.iloadN X0.here hx rfl (hb hby at_39) rfl wk) ?_
          show Fin1 p e below s (rm0Q Z i0 h0 n0) room_1.cells room_1.slots (T0.setTop (mkF m 40 #[.val (.int i0), .val (.int (i0.toInt8.toInt32)), .val (.int (0 : Int32)), .val (.int (0 : Int32)), .val (.int (1 : Int32)), .unset] [(.int (0 : Int32))]))
          refine own_st (fun wt wk => XS.ifYes X0.here hx rfl (pc0 := 40) (pc' := 56) rfl (hb hby at_40) rfl ((if0 _ _).trans (teq (by decide)).1) (by decide) (by decide) wk) ?_
          show Fin1 p e below s (rm0Q Z i0 h0 n0) room_1.cells room_1.slots (T0.setTop (mkF m 56 #[.val (.int i0), .val (.int (i0.toInt8.toInt32)), .val (.int (0 : Int32)), .val (.int (0 : Int32)), .val (.int (1 : Int32)), .unset] []))
          refine own_st (fun wt wk => XS.iconst X0.here hx rfl (hb hby at_56) wk) ?_
          show Fin1 p e below s (rm0Q Z i0 h0 n0) room_1.cells room_1.slots (T0.setTop (mkF m 57 #[.val (.int i0), .val (.int (i0.toInt8.toInt32)), .val (.int (0 : Int32)), .val (.int (0 : Int32)), .val (.int (1 : Int32)), .unset] [(.int (0 : Int32))]))
          exact K57 _ _ _ _ (by simp [own_exp, c4, c16, c29])
      · refine own_st (fun wt wk => XS.icmpNo X0.here hx rfl (hb hby at_16) rfl (feq c16).1 wk) ?_
        show Fin1 p e below s (rm0Q Z i0 h0 n0) room_1.cells room_1.slots (T0.setTop (mkF m 19 #[.val (.int i0), .val (.int (i0.toInt8.toInt32)), .val (.int (0 : Int32)), .unset, .unset, .unset] []))
        refine own_st (fun wt wk => XS.iconst X0.here hx rfl (hb hby at_19) wk) ?_
        show Fin1 p e below s (rm0Q Z i0 h0 n0) room_1.cells room_1.slots (T0.setTop (mkF m 20 #[.val (.int i0), .val (.int (i0.toInt8.toInt32)), .val (.int (0 : Int32)), .unset, .unset, .unset] [(.int (1 : Int32))]))
        refine own_st (fun wt wk => XS.goto X0.here hx rfl (pc0 := 20) (pc' := 24) rfl (hb hby at_20) (by decide) (by decide) wk) ?_
        show Fin1 p e below s (rm0Q Z i0 h0 n0) room_1.cells room_1.slots (T0.setTop (mkF m 24 #[.val (.int i0), .val (.int (i0.toInt8.toInt32)), .val (.int (0 : Int32)), .unset, .unset, .unset] [(.int (1 : Int32))]))
        refine own_st (fun wt wk => XS.istoreN X0.here hx rfl (hb hby at_24) rfl (l' := #[.val (.int i0), .val (.int (i0.toInt8.toInt32)), .val (.int (0 : Int32)), .val (.int (1 : Int32)), .unset, .unset]) rfl wk) ?_
        show Fin1 p e below s (rm0Q Z i0 h0 n0) room_1.cells room_1.slots (T0.setTop (mkF m 25 #[.val (.int i0), .val (.int (i0.toInt8.toInt32)), .val (.int (0 : Int32)), .val (.int (1 : Int32)), .unset, .unset] []))
        refine own_st (fun wt wk => XS.iloadN X0.here hx rfl (hb hby at_25) rfl wk) ?_
        show Fin1 p e below s (rm0Q Z i0 h0 n0) room_1.cells room_1.slots (T0.setTop (mkF m 26 #[.val (.int i0), .val (.int (i0.toInt8.toInt32)), .val (.int (0 : Int32)), .val (.int (1 : Int32)), .unset, .unset] [(.int (i0.toInt8.toInt32))]))
        refine own_st (fun wt wk => XS.bipush X0.here hx rfl (hb hby at_26) wk) ?_
        show Fin1 p e below s (rm0Q Z i0 h0 n0) room_1.cells room_1.slots (T0.setTop (mkF m 28 #[.val (.int i0), .val (.int (i0.toInt8.toInt32)), .val (.int (0 : Int32)), .val (.int (1 : Int32)), .unset, .unset] [(.int (96 : Int32)), (.int (i0.toInt8.toInt32))]))
        refine own_st (fun wt wk => XS.iand X0.here hx rfl (hb hby at_28) rfl wk) ?_
        show Fin1 p e below s (rm0Q Z i0 h0 n0) room_1.cells room_1.slots (T0.setTop (mkF m 29 #[.val (.int i0), .val (.int (i0.toInt8.toInt32)), .val (.int (0 : Int32)), .val (.int (1 : Int32)), .unset, .unset] [(.int ((i0.toInt8.toInt32) &&& (96 : Int32)))]))
        by_cases c29 : ((i0.toInt8.toInt32) &&& (96 : Int32)) = (0 : Int32)
        · refine own_st (fun wt wk => XS.ifYes X0.here hx rfl (pc0 := 29) (pc' := 36) rfl (hb hby at_29) rfl ((if0 _ _).trans (teq c29).1) (by decide) (by decide) wk) ?_
          show Fin1 p e below s (rm0Q Z i0 h0 n0) room_1.cells room_1.slots (T0.setTop (mkF m 36 #[.val (.int i0), .val (.int (i0.toInt8.toInt32)), .val (.int (0 : Int32)), .val (.int (1 : Int32)), .unset, .unset] []))
          refine own_st (fun wt wk => XS.iconst X0.here hx rfl (hb hby at_36) wk) ?_
          show Fin1 p e below s (rm0Q Z i0 h0 n0) room_1.cells room_1.slots (T0.setTop (mkF m 37 #[.val (.int i0), .val (.int (i0.toInt8.toInt32)), .val (.int (0 : Int32)), .val (.int (1 : Int32)), .unset, .unset] [(.int (0 : Int32))]))
          refine own_st (fun wt wk => XS.istore X0.here hx rfl (hb hby at_37) rfl (l' := #[.val (.int i0), .val (.int (i0.toInt8.toInt32)), .val (.int (0 : Int32)), .val (.int (1 : Int32)), .val (.int (0 : Int32)), .unset]) rfl wk) ?_
          show Fin1 p e below s (rm0Q Z i0 h0 n0) room_1.cells room_1.slots (T0.setTop (mkF m 39 #[.val (.int i0), .val (.int (i0.toInt8.toInt32)), .val (.int (0 : Int32)), .val (.int (1 : Int32)), .val (.int (0 : Int32)), .unset] []))
          refine own_st (fun wt wk => XS.iloadN X0.here hx rfl (hb hby at_39) rfl wk) ?_
          show Fin1 p e below s (rm0Q Z i0 h0 n0) room_1.cells room_1.slots (T0.setTop (mkF m 40 #[.val (.int i0), .val (.int (i0.toInt8.toInt32)), .val (.int (0 : Int32)), .val (.int (1 : Int32)), .val (.int (0 : Int32)), .unset] [(.int (0 : Int32))]))
          refine own_st (fun wt wk => XS.ifYes X0.here hx rfl (pc0 := 40) (pc' := 56) rfl (hb hby at_40) rfl ((if0 _ _).trans (teq (by decide)).1) (by decide) (by decide) wk) ?_
          show Fin1 p e below s (rm0Q Z i0 h0 n0) room_1.cells room_1.slots (T0.setTop (mkF m 56 #[.val (.int i0), .val (.int (i0.toInt8.toInt32)), .val (.int (0 : Int32)), .val (.int (1 : Int32)), .val (.int (0 : Int32)), .unset] []))
          refine own_st (fun wt wk => XS.iconst X0.here hx rfl (hb hby at_56) wk) ?_
          show Fin1 p e below s (rm0Q Z i0 h0 n0) room_1.cells room_1.slots (T0.setTop (mkF m 57 #[.val (.int i0), .val (.int (i0.toInt8.toInt32)), .val (.int (0 : Int32)), .val (.int (1 : Int32)), .val (.int (0 : Int32)), .unset] [(.int (0 : Int32))]))
          exact K57 _ _ _ _ (by simp [own_exp, c4, c16, c29])
        · refine own_st (fun wt wk => XS.ifNo X0.here hx rfl (hb hby at_29) rfl ((if0 _ _).trans (feq c29).1) wk) ?_
          show Fin1 p e below s (rm0Q Z i0 h0 n0) room_1.cells room_1.slots (T0.setTop (mkF m 32 #[.val (.int i0), .val (.int (i0.toInt8.toInt32)), .val (.int (0 : Int32)), .val (.int (1 : Int32)), .unset, .unset] []))
          refine own_st (fun wt wk => XS.iconst X0.here hx rfl (hb hby at_32) wk) ?_
          show Fin1 p e below s (rm0Q Z i0 h0 n0) room_1.cells room_1.slots (T0.setTop (mkF m 33 #[.val (.int i0), .val (.int (i0.toInt8.toInt32)), .val (.int (0 : Int32)), .val (.int (1 : Int32)), .unset, .unset] [(.int (1 : Int32))]))
          refine own_st (fun wt wk => XS.goto X0.here hx rfl (pc0 := 33) (pc' := 37) rfl (hb hby at_33) (by decide) (by decide) wk) ?_
          show Fin1 p e below s (rm0Q Z i0 h0 n0) room_1.cells room_1.slots (T0.setTop (mkF m 37 #[.val (.int i0), .val (.int (i0.toInt8.toInt32)), .val (.int (0 : Int32)), .val (.int (1 : Int32)), .unset, .unset] [(.int (1 : Int32))]))
          refine own_st (fun wt wk => XS.istore X0.here hx rfl (hb hby at_37) rfl (l' := #[.val (.int i0), .val (.int (i0.toInt8.toInt32)), .val (.int (0 : Int32)), .val (.int (1 : Int32)), .val (.int (1 : Int32)), .unset]) rfl wk) ?_
          show Fin1 p e below s (rm0Q Z i0 h0 n0) room_1.cells room_1.slots (T0.setTop (mkF m 39 #[.val (.int i0), .val (.int (i0.toInt8.toInt32)), .val (.int (0 : Int32)), .val (.int (1 : Int32)), .val (.int (1 : Int32)), .unset] []))
          refine own_st (fun wt wk => XS.iloadN X0.here hx rfl (hb hby at_39) rfl wk) ?_
          show Fin1 p e below s (rm0Q Z i0 h0 n0) room_1.cells room_1.slots (T0.setTop (mkF m 40 #[.val (.int i0), .val (.int (i0.toInt8.toInt32)), .val (.int (0 : Int32)), .val (.int (1 : Int32)), .val (.int (1 : Int32)), .unset] [(.int (0 : Int32))]))
          refine own_st (fun wt wk => XS.ifYes X0.here hx rfl (pc0 := 40) (pc' := 56) rfl (hb hby at_40) rfl ((if0 _ _).trans (teq (by decide)).1) (by decide) (by decide) wk) ?_
          show Fin1 p e below s (rm0Q Z i0 h0 n0) room_1.cells room_1.slots (T0.setTop (mkF m 56 #[.val (.int i0), .val (.int (i0.toInt8.toInt32)), .val (.int (0 : Int32)), .val (.int (1 : Int32)), .val (.int (1 : Int32)), .unset] []))
          refine own_st (fun wt wk => XS.iconst X0.here hx rfl (hb hby at_56) wk) ?_
          show Fin1 p e below s (rm0Q Z i0 h0 n0) room_1.cells room_1.slots (T0.setTop (mkF m 57 #[.val (.int i0), .val (.int (i0.toInt8.toInt32)), .val (.int (0 : Int32)), .val (.int (1 : Int32)), .val (.int (1 : Int32)), .unset] [(.int (0 : Int32))]))
          exact K57 _ _ _ _ (by simp [own_exp, c4, c16, c29])
    · refine own_st (fun wt wk => XS.ifNo X0.here hx rfl (hb hby at_4) rfl ((if0 _ _).trans (flt c4).1) wk) ?_
      show Fin1 p e below s (rm0Q Z i0 h0 n0) room_1.cells room_1.slots (T0.setTop (mkF m 7 #[.val (.int i0), .val (.int (i0.toInt8.toInt32)), .unset, .unset, .unset, .unset] []))
      refine own_st (fun wt wk => XS.iconst X0.here hx rfl (hb hby at_7) wk) ?_
      show Fin1 p e below s (rm0Q Z i0 h0 n0) room_1.cells room_1.slots (T0.setTop (mkF m 8 #[.val (.int i0), .val (.int (i0.toInt8.toInt32)), .unset, .unset, .unset, .unset] [(.int (1 : Int32))]))
      refine own_st (fun wt wk => XS.goto X0.here hx rfl (pc0 := 8) (pc' := 12) rfl (hb hby at_8) (by decide) (by decide) wk) ?_
      show Fin1 p e below s (rm0Q Z i0 h0 n0) room_1.cells room_1.slots (T0.setTop (mkF m 12 #[.val (.int i0), .val (.int (i0.toInt8.toInt32)), .unset, .unset, .unset, .unset] [(.int (1 : Int32))]))
      refine own_st (fun wt wk => XS.istoreN X0.here hx rfl (hb hby at_12) rfl (l' := #[.val (.int i0), .val (.int (i0.toInt8.toInt32)), .val (.int (1 : Int32)), .unset, .unset, .unset]) rfl wk) ?_
      show Fin1 p e below s (rm0Q Z i0 h0 n0) room_1.cells room_1.slots (T0.setTop (mkF m 13 #[.val (.int i0), .val (.int (i0.toInt8.toInt32)), .val (.int (1 : Int32)), .unset, .unset, .unset] []))
      refine own_st (fun wt wk => XS.iloadN X0.here hx rfl (hb hby at_13) rfl wk) ?_
      show Fin1 p e below s (rm0Q Z i0 h0 n0) room_1.cells room_1.slots (T0.setTop (mkF m 14 #[.val (.int i0), .val (.int (i0.toInt8.toInt32)), .val (.int (1 : Int32)), .unset, .unset, .unset] [(.int (i0.toInt8.toInt32))]))
      refine own_st (fun wt wk => XS.bipush X0.here hx rfl (hb hby at_14) wk) ?_
      show Fin1 p e below s (rm0Q Z i0 h0 n0) room_1.cells room_1.slots (T0.setTop (mkF m 16 #[.val (.int i0), .val (.int (i0.toInt8.toInt32)), .val (.int (1 : Int32)), .unset, .unset, .unset] [(.int (127 : Int32)), (.int (i0.toInt8.toInt32))]))
      by_cases c16 : (i0.toInt8.toInt32) = (127 : Int32)
      · refine own_st (fun wt wk => XS.icmpYes X0.here hx rfl (pc0 := 16) (pc' := 23) rfl (hb hby at_16) rfl (teq c16).1 (by decide) (by decide) wk) ?_
        show Fin1 p e below s (rm0Q Z i0 h0 n0) room_1.cells room_1.slots (T0.setTop (mkF m 23 #[.val (.int i0), .val (.int (i0.toInt8.toInt32)), .val (.int (1 : Int32)), .unset, .unset, .unset] []))
        refine own_st (fun wt wk => XS.iconst X0.here hx rfl (hb hby at_23) wk) ?_
        show Fin1 p e below s (rm0Q Z i0 h0 n0) room_1.cells room_1.slots (T0.setTop (mkF m 24 #[.val (.int i0), .val (.int (i0.toInt8.toInt32)), .val (.int (1 : Int32)), .unset, .unset, .unset] [(.int (0 : Int32))]))
        refine own_st (fun wt wk => XS.istoreN X0.here hx rfl (hb hby at_24) rfl (l' := #[.val (.int i0), .val (.int (i0.toInt8.toInt32)), .val (.int (1 : Int32)), .val (.int (0 : Int32)), .unset, .unset]) rfl wk) ?_
        show Fin1 p e below s (rm0Q Z i0 h0 n0) room_1.cells room_1.slots (T0.setTop (mkF m 25 #[.val (.int i0), .val (.int (i0.toInt8.toInt32)), .val (.int (1 : Int32)), .val (.int (0 : Int32)), .unset, .unset] []))
        refine own_st (fun wt wk => XS.iloadN X0.here hx rfl (hb hby at_25) rfl wk) ?_
        show Fin1 p e below s (rm0Q Z i0 h0 n0) room_1.cells room_1.slots (T0.setTop (mkF m 26 #[.val (.int i0), .val (.int (i0.toInt8.toInt32)), .val (.int (1 : Int32)), .val (.int (0 : Int32)), .unset, .unset] [(.int (i0.toInt8.toInt32))]))
        refine own_st (fun wt wk => XS.bipush X0.here hx rfl (hb hby at_26) wk) ?_
        show Fin1 p e below s (rm0Q Z i0 h0 n0) room_1.cells room_1.slots (T0.setTop (mkF m 28 #[.val (.int i0), .val (.int (i0.toInt8.toInt32)), .val (.int (1 : Int32)), .val (.int (0 : Int32)), .unset, .unset] [(.int (96 : Int32)), (.int (i0.toInt8.toInt32))]))
        refine own_st (fun wt wk => XS.iand X0.here hx rfl (hb hby at_28) rfl wk) ?_
        show Fin1 p e below s (rm0Q Z i0 h0 n0) room_1.cells room_1.slots (T0.setTop (mkF m 29 #[.val (.int i0), .val (.int (i0.toInt8.toInt32)), .val (.int (1 : Int32)), .val (.int (0 : Int32)), .unset, .unset] [(.int ((i0.toInt8.toInt32) &&& (96 : Int32)))]))
        by_cases c29 : ((i0.toInt8.toInt32) &&& (96 : Int32)) = (0 : Int32)
        · refine own_st (fun wt wk => XS.ifYes X0.here hx rfl (pc0 := 29) (pc' := 36) rfl (hb hby at_29) rfl ((if0 _ _).trans (teq c29).1) (by decide) (by decide) wk) ?_
          show Fin1 p e below s (rm0Q Z i0 h0 n0) room_1.cells room_1.slots (T0.setTop (mkF m 36 #[.val (.int i0), .val (.int (i0.toInt8.toInt32)), .val (.int (1 : Int32)), .val (.int (0 : Int32)), .unset, .unset] []))
          refine own_st (fun wt wk => XS.iconst X0.here hx rfl (hb hby at_36) wk) ?_
          show Fin1 p e below s (rm0Q Z i0 h0 n0) room_1.cells room_1.slots (T0.setTop (mkF m 37 #[.val (.int i0), .val (.int (i0.toInt8.toInt32)), .val (.int (1 : Int32)), .val (.int (0 : Int32)), .unset, .unset] [(.int (0 : Int32))]))
          refine own_st (fun wt wk => XS.istore X0.here hx rfl (hb hby at_37) rfl (l' := #[.val (.int i0), .val (.int (i0.toInt8.toInt32)), .val (.int (1 : Int32)), .val (.int (0 : Int32)), .val (.int (0 : Int32)), .unset]) rfl wk) ?_
          show Fin1 p e below s (rm0Q Z i0 h0 n0) room_1.cells room_1.slots (T0.setTop (mkF m 39 #[.val (.int i0), .val (.int (i0.toInt8.toInt32)), .val (.int (1 : Int32)), .val (.int (0 : Int32)), .val (.int (0 : Int32)), .unset] []))
          refine own_st (fun wt wk => XS.iloadN X0.here hx rfl (hb hby at_39) rfl wk) ?_
          show Fin1 p e below s (rm0Q Z i0 h0 n0) room_1.cells room_1.slots (T0.setTop (mkF m 40 #[.val (.int i0), .val (.int (i0.toInt8.toInt32)), .val (.int (1 : Int32)), .val (.int (0 : Int32)), .val (.int (0 : Int32)), .unset] [(.int (1 : Int32))]))
          refine own_st (fun wt wk => XS.ifNo X0.here hx rfl (hb hby at_40) rfl ((if0 _ _).trans (feq (by decide)).1) wk) ?_
          show Fin1 p e below s (rm0Q Z i0 h0 n0) room_1.cells room_1.slots (T0.setTop (mkF m 43 #[.val (.int i0), .val (.int (i0.toInt8.toInt32)), .val (.int (1 : Int32)), .val (.int (0 : Int32)), .val (.int (0 : Int32)), .unset] []))
          refine own_st (fun wt wk => XS.iloadN X0.here hx rfl (hb hby at_43) rfl wk) ?_
          show Fin1 p e below s (rm0Q Z i0 h0 n0) room_1.cells room_1.slots (T0.setTop (mkF m 44 #[.val (.int i0), .val (.int (i0.toInt8.toInt32)), .val (.int (1 : Int32)), .val (.int (0 : Int32)), .val (.int (0 : Int32)), .unset] [(.int (0 : Int32))]))
          refine own_st (fun wt wk => XS.ifYes X0.here hx rfl (pc0 := 44) (pc' := 56) rfl (hb hby at_44) rfl ((if0 _ _).trans (teq (by decide)).1) (by decide) (by decide) wk) ?_
          show Fin1 p e below s (rm0Q Z i0 h0 n0) room_1.cells room_1.slots (T0.setTop (mkF m 56 #[.val (.int i0), .val (.int (i0.toInt8.toInt32)), .val (.int (1 : Int32)), .val (.int (0 : Int32)), .val (.int (0 : Int32)), .unset] []))
          refine own_st (fun wt wk => XS.iconst X0.here hx rfl (hb hby at_56) wk) ?_
          show Fin1 p e below s (rm0Q Z i0 h0 n0) room_1.cells room_1.slots (T0.setTop (mkF m 57 #[.val (.int i0), .val (.int (i0.toInt8.toInt32)), .val (.int (1 : Int32)), .val (.int (0 : Int32)), .val (.int (0 : Int32)), .unset] [(.int (0 : Int32))]))
          exact K57 _ _ _ _ (by simp [own_exp, c4, c16, c29])
        · refine own_st (fun wt wk => XS.ifNo X0.here hx rfl (hb hby at_29) rfl ((if0 _ _).trans (feq c29).1) wk) ?_
          show Fin1 p e below s (rm0Q Z i0 h0 n0) room_1.cells room_1.slots (T0.setTop (mkF m 32 #[.val (.int i0), .val (.int (i0.toInt8.toInt32)), .val (.int (1 : Int32)), .val (.int (0 : Int32)), .unset, .unset] []))
          refine own_st (fun wt wk => XS.iconst X0.here hx rfl (hb hby at_32) wk) ?_
          show Fin1 p e below s (rm0Q Z i0 h0 n0) room_1.cells room_1.slots (T0.setTop (mkF m 33 #[.val (.int i0), .val (.int (i0.toInt8.toInt32)), .val (.int (1 : Int32)), .val (.int (0 : Int32)), .unset, .unset] [(.int (1 : Int32))]))
          refine own_st (fun wt wk => XS.goto X0.here hx rfl (pc0 := 33) (pc' := 37) rfl (hb hby at_33) (by decide) (by decide) wk) ?_
          show Fin1 p e below s (rm0Q Z i0 h0 n0) room_1.cells room_1.slots (T0.setTop (mkF m 37 #[.val (.int i0), .val (.int (i0.toInt8.toInt32)), .val (.int (1 : Int32)), .val (.int (0 : Int32)), .unset, .unset] [(.int (1 : Int32))]))
          refine own_st (fun wt wk => XS.istore X0.here hx rfl (hb hby at_37) rfl (l' := #[.val (.int i0), .val (.int (i0.toInt8.toInt32)), .val (.int (1 : Int32)), .val (.int (0 : Int32)), .val (.int (1 : Int32)), .unset]) rfl wk) ?_
          show Fin1 p e below s (rm0Q Z i0 h0 n0) room_1.cells room_1.slots (T0.setTop (mkF m 39 #[.val (.int i0), .val (.int (i0.toInt8.toInt32)), .val (.int (1 : Int32)), .val (.int (0 : Int32)), .val (.int (1 : Int32)), .unset] []))
          refine own_st (fun wt wk => XS.iloadN X0.here hx rfl (hb hby at_39) rfl wk) ?_
          show Fin1 p e below s (rm0Q Z i0 h0 n0) room_1.cells room_1.slots (T0.setTop (mkF m 40 #[.val (.int i0), .val (.int (i0.toInt8.toInt32)), .val (.int (1 : Int32)), .val (.int (0 : Int32)), .val (.int (1 : Int32)), .unset] [(.int (1 : Int32))]))
          refine own_st (fun wt wk => XS.ifNo X0.here hx rfl (hb hby at_40) rfl ((if0 _ _).trans (feq (by decide)).1) wk) ?_
          show Fin1 p e below s (rm0Q Z i0 h0 n0) room_1.cells room_1.slots (T0.setTop (mkF m 43 #[.val (.int i0), .val (.int (i0.toInt8.toInt32)), .val (.int (1 : Int32)), .val (.int (0 : Int32)), .val (.int (1 : Int32)), .unset] []))
          refine own_st (fun wt wk => XS.iloadN X0.here hx rfl (hb hby at_43) rfl wk) ?_
          show Fin1 p e below s (rm0Q Z i0 h0 n0) room_1.cells room_1.slots (T0.setTop (mkF m 44 #[.val (.int i0), .val (.int (i0.toInt8.toInt32)), .val (.int (1 : Int32)), .val (.int (0 : Int32)), .val (.int (1 : Int32)), .unset] [(.int (0 : Int32))]))
          refine own_st (fun wt wk => XS.ifYes X0.here hx rfl (pc0 := 44) (pc' := 56) rfl (hb hby at_44) rfl ((if0 _ _).trans (teq (by decide)).1) (by decide) (by decide) wk) ?_
          show Fin1 p e below s (rm0Q Z i0 h0 n0) room_1.cells room_1.slots (T0.setTop (mkF m 56 #[.val (.int i0), .val (.int (i0.toInt8.toInt32)), .val (.int (1 : Int32)), .val (.int (0 : Int32)), .val (.int (1 : Int32)), .unset] []))
          refine own_st (fun wt wk => XS.iconst X0.here hx rfl (hb hby at_56) wk) ?_
          show Fin1 p e below s (rm0Q Z i0 h0 n0) room_1.cells room_1.slots (T0.setTop (mkF m 57 #[.val (.int i0), .val (.int (i0.toInt8.toInt32)), .val (.int (1 : Int32)), .val (.int (0 : Int32)), .val (.int (1 : Int32)), .unset] [(.int (0 : Int32))]))
          exact K57 _ _ _ _ (by simp [own_exp, c4, c16, c29])
      · refine own_st (fun wt wk => XS.icmpNo X0.here hx rfl (hb hby at_16) rfl (feq c16).1 wk) ?_
        show Fin1 p e below s (rm0Q Z i0 h0 n0) room_1.cells room_1.slots (T0.setTop (mkF m 19 #[.val (.int i0), .val (.int (i0.toInt8.toInt32)), .val (.int (1 : Int32)), .unset, .unset, .unset] []))
        refine own_st (fun wt wk => XS.iconst X0.here hx rfl (hb hby at_19) wk) ?_
        show Fin1 p e below s (rm0Q Z i0 h0 n0) room_1.cells room_1.slots (T0.setTop (mkF m 20 #[.val (.int i0), .val (.int (i0.toInt8.toInt32)), .val (.int (1 : Int32)), .unset, .unset, .unset] [(.int (1 : Int32))]))
        refine own_st (fun wt wk => XS.goto X0.here hx rfl (pc0 := 20) (pc' := 24) rfl (hb hby at_20) (by decide) (by decide) wk) ?_
        show Fin1 p e below s (rm0Q Z i0 h0 n0) room_1.cells room_1.slots (T0.setTop (mkF m 24 #[.val (.int i0), .val (.int (i0.toInt8.toInt32)), .val (.int (1 : Int32)), .unset, .unset, .unset] [(.int (1 : Int32))]))
        refine own_st (fun wt wk => XS.istoreN X0.here hx rfl (hb hby at_24) rfl (l' := #[.val (.int i0), .val (.int (i0.toInt8.toInt32)), .val (.int (1 : Int32)), .val (.int (1 : Int32)), .unset, .unset]) rfl wk) ?_
        show Fin1 p e below s (rm0Q Z i0 h0 n0) room_1.cells room_1.slots (T0.setTop (mkF m 25 #[.val (.int i0), .val (.int (i0.toInt8.toInt32)), .val (.int (1 : Int32)), .val (.int (1 : Int32)), .unset, .unset] []))
        refine own_st (fun wt wk => XS.iloadN X0.here hx rfl (hb hby at_25) rfl wk) ?_
        show Fin1 p e below s (rm0Q Z i0 h0 n0) room_1.cells room_1.slots (T0.setTop (mkF m 26 #[.val (.int i0), .val (.int (i0.toInt8.toInt32)), .val (.int (1 : Int32)), .val (.int (1 : Int32)), .unset, .unset] [(.int (i0.toInt8.toInt32))]))
        refine own_st (fun wt wk => XS.bipush X0.here hx rfl (hb hby at_26) wk) ?_
        show Fin1 p e below s (rm0Q Z i0 h0 n0) room_1.cells room_1.slots (T0.setTop (mkF m 28 #[.val (.int i0), .val (.int (i0.toInt8.toInt32)), .val (.int (1 : Int32)), .val (.int (1 : Int32)), .unset, .unset] [(.int (96 : Int32)), (.int (i0.toInt8.toInt32))]))
        refine own_st (fun wt wk => XS.iand X0.here hx rfl (hb hby at_28) rfl wk) ?_
        show Fin1 p e below s (rm0Q Z i0 h0 n0) room_1.cells room_1.slots (T0.setTop (mkF m 29 #[.val (.int i0), .val (.int (i0.toInt8.toInt32)), .val (.int (1 : Int32)), .val (.int (1 : Int32)), .unset, .unset] [(.int ((i0.toInt8.toInt32) &&& (96 : Int32)))]))
        by_cases c29 : ((i0.toInt8.toInt32) &&& (96 : Int32)) = (0 : Int32)
        · refine own_st (fun wt wk => XS.ifYes X0.here hx rfl (pc0 := 29) (pc' := 36) rfl (hb hby at_29) rfl ((if0 _ _).trans (teq c29).1) (by decide) (by decide) wk) ?_
          show Fin1 p e below s (rm0Q Z i0 h0 n0) room_1.cells room_1.slots (T0.setTop (mkF m 36 #[.val (.int i0), .val (.int (i0.toInt8.toInt32)), .val (.int (1 : Int32)), .val (.int (1 : Int32)), .unset, .unset] []))
          refine own_st (fun wt wk => XS.iconst X0.here hx rfl (hb hby at_36) wk) ?_
          show Fin1 p e below s (rm0Q Z i0 h0 n0) room_1.cells room_1.slots (T0.setTop (mkF m 37 #[.val (.int i0), .val (.int (i0.toInt8.toInt32)), .val (.int (1 : Int32)), .val (.int (1 : Int32)), .unset, .unset] [(.int (0 : Int32))]))
          refine own_st (fun wt wk => XS.istore X0.here hx rfl (hb hby at_37) rfl (l' := #[.val (.int i0), .val (.int (i0.toInt8.toInt32)), .val (.int (1 : Int32)), .val (.int (1 : Int32)), .val (.int (0 : Int32)), .unset]) rfl wk) ?_
          show Fin1 p e below s (rm0Q Z i0 h0 n0) room_1.cells room_1.slots (T0.setTop (mkF m 39 #[.val (.int i0), .val (.int (i0.toInt8.toInt32)), .val (.int (1 : Int32)), .val (.int (1 : Int32)), .val (.int (0 : Int32)), .unset] []))
          refine own_st (fun wt wk => XS.iloadN X0.here hx rfl (hb hby at_39) rfl wk) ?_
          show Fin1 p e below s (rm0Q Z i0 h0 n0) room_1.cells room_1.slots (T0.setTop (mkF m 40 #[.val (.int i0), .val (.int (i0.toInt8.toInt32)), .val (.int (1 : Int32)), .val (.int (1 : Int32)), .val (.int (0 : Int32)), .unset] [(.int (1 : Int32))]))
          refine own_st (fun wt wk => XS.ifNo X0.here hx rfl (hb hby at_40) rfl ((if0 _ _).trans (feq (by decide)).1) wk) ?_
          show Fin1 p e below s (rm0Q Z i0 h0 n0) room_1.cells room_1.slots (T0.setTop (mkF m 43 #[.val (.int i0), .val (.int (i0.toInt8.toInt32)), .val (.int (1 : Int32)), .val (.int (1 : Int32)), .val (.int (0 : Int32)), .unset] []))
          refine own_st (fun wt wk => XS.iloadN X0.here hx rfl (hb hby at_43) rfl wk) ?_
          show Fin1 p e below s (rm0Q Z i0 h0 n0) room_1.cells room_1.slots (T0.setTop (mkF m 44 #[.val (.int i0), .val (.int (i0.toInt8.toInt32)), .val (.int (1 : Int32)), .val (.int (1 : Int32)), .val (.int (0 : Int32)), .unset] [(.int (1 : Int32))]))
          refine own_st (fun wt wk => XS.ifNo X0.here hx rfl (hb hby at_44) rfl ((if0 _ _).trans (feq (by decide)).1) wk) ?_
          show Fin1 p e below s (rm0Q Z i0 h0 n0) room_1.cells room_1.slots (T0.setTop (mkF m 47 #[.val (.int i0), .val (.int (i0.toInt8.toInt32)), .val (.int (1 : Int32)), .val (.int (1 : Int32)), .val (.int (0 : Int32)), .unset] []))
          refine own_st (fun wt wk => XS.iload X0.here hx rfl (hb hby at_47) rfl wk) ?_
          show Fin1 p e below s (rm0Q Z i0 h0 n0) room_1.cells room_1.slots (T0.setTop (mkF m 49 #[.val (.int i0), .val (.int (i0.toInt8.toInt32)), .val (.int (1 : Int32)), .val (.int (1 : Int32)), .val (.int (0 : Int32)), .unset] [(.int (0 : Int32))]))
          refine own_st (fun wt wk => XS.ifYes X0.here hx rfl (pc0 := 49) (pc' := 56) rfl (hb hby at_49) rfl ((if0 _ _).trans (teq (by decide)).1) (by decide) (by decide) wk) ?_
          show Fin1 p e below s (rm0Q Z i0 h0 n0) room_1.cells room_1.slots (T0.setTop (mkF m 56 #[.val (.int i0), .val (.int (i0.toInt8.toInt32)), .val (.int (1 : Int32)), .val (.int (1 : Int32)), .val (.int (0 : Int32)), .unset] []))
          refine own_st (fun wt wk => XS.iconst X0.here hx rfl (hb hby at_56) wk) ?_
          show Fin1 p e below s (rm0Q Z i0 h0 n0) room_1.cells room_1.slots (T0.setTop (mkF m 57 #[.val (.int i0), .val (.int (i0.toInt8.toInt32)), .val (.int (1 : Int32)), .val (.int (1 : Int32)), .val (.int (0 : Int32)), .unset] [(.int (0 : Int32))]))
          exact K57 _ _ _ _ (by simp [own_exp, c4, c16, c29])
        · refine own_st (fun wt wk => XS.ifNo X0.here hx rfl (hb hby at_29) rfl ((if0 _ _).trans (feq c29).1) wk) ?_
          show Fin1 p e below s (rm0Q Z i0 h0 n0) room_1.cells room_1.slots (T0.setTop (mkF m 32 #[.val (.int i0), .val (.int (i0.toInt8.toInt32)), .val (.int (1 : Int32)), .val (.int (1 : Int32)), .unset, .unset] []))
          refine own_st (fun wt wk => XS.iconst X0.here hx rfl (hb hby at_32) wk) ?_
          show Fin1 p e below s (rm0Q Z i0 h0 n0) room_1.cells room_1.slots (T0.setTop (mkF m 33 #[.val (.int i0), .val (.int (i0.toInt8.toInt32)), .val (.int (1 : Int32)), .val (.int (1 : Int32)), .unset, .unset] [(.int (1 : Int32))]))
          refine own_st (fun wt wk => XS.goto X0.here hx rfl (pc0 := 33) (pc' := 37) rfl (hb hby at_33) (by decide) (by decide) wk) ?_
          show Fin1 p e below s (rm0Q Z i0 h0 n0) room_1.cells room_1.slots (T0.setTop (mkF m 37 #[.val (.int i0), .val (.int (i0.toInt8.toInt32)), .val (.int (1 : Int32)), .val (.int (1 : Int32)), .unset, .unset] [(.int (1 : Int32))]))
          refine own_st (fun wt wk => XS.istore X0.here hx rfl (hb hby at_37) rfl (l' := #[.val (.int i0), .val (.int (i0.toInt8.toInt32)), .val (.int (1 : Int32)), .val (.int (1 : Int32)), .val (.int (1 : Int32)), .unset]) rfl wk) ?_
          show Fin1 p e below s (rm0Q Z i0 h0 n0) room_1.cells room_1.slots (T0.setTop (mkF m 39 #[.val (.int i0), .val (.int (i0.toInt8.toInt32)), .val (.int (1 : Int32)), .val (.int (1 : Int32)), .val (.int (1 : Int32)), .unset] []))
          refine own_st (fun wt wk => XS.iloadN X0.here hx rfl (hb hby at_39) rfl wk) ?_
          show Fin1 p e below s (rm0Q Z i0 h0 n0) room_1.cells room_1.slots (T0.setTop (mkF m 40 #[.val (.int i0), .val (.int (i0.toInt8.toInt32)), .val (.int (1 : Int32)), .val (.int (1 : Int32)), .val (.int (1 : Int32)), .unset] [(.int (1 : Int32))]))
          refine own_st (fun wt wk => XS.ifNo X0.here hx rfl (hb hby at_40) rfl ((if0 _ _).trans (feq (by decide)).1) wk) ?_
          show Fin1 p e below s (rm0Q Z i0 h0 n0) room_1.cells room_1.slots (T0.setTop (mkF m 43 #[.val (.int i0), .val (.int (i0.toInt8.toInt32)), .val (.int (1 : Int32)), .val (.int (1 : Int32)), .val (.int (1 : Int32)), .unset] []))
          refine own_st (fun wt wk => XS.iloadN X0.here hx rfl (hb hby at_43) rfl wk) ?_
          show Fin1 p e below s (rm0Q Z i0 h0 n0) room_1.cells room_1.slots (T0.setTop (mkF m 44 #[.val (.int i0), .val (.int (i0.toInt8.toInt32)), .val (.int (1 : Int32)), .val (.int (1 : Int32)), .val (.int (1 : Int32)), .unset] [(.int (1 : Int32))]))
          refine own_st (fun wt wk => XS.ifNo X0.here hx rfl (hb hby at_44) rfl ((if0 _ _).trans (feq (by decide)).1) wk) ?_
          show Fin1 p e below s (rm0Q Z i0 h0 n0) room_1.cells room_1.slots (T0.setTop (mkF m 47 #[.val (.int i0), .val (.int (i0.toInt8.toInt32)), .val (.int (1 : Int32)), .val (.int (1 : Int32)), .val (.int (1 : Int32)), .unset] []))
          refine own_st (fun wt wk => XS.iload X0.here hx rfl (hb hby at_47) rfl wk) ?_
          show Fin1 p e below s (rm0Q Z i0 h0 n0) room_1.cells room_1.slots (T0.setTop (mkF m 49 #[.val (.int i0), .val (.int (i0.toInt8.toInt32)), .val (.int (1 : Int32)), .val (.int (1 : Int32)), .val (.int (1 : Int32)), .unset] [(.int (1 : Int32))]))
          refine own_st (fun wt wk => XS.ifNo X0.here hx rfl (hb hby at_49) rfl ((if0 _ _).trans (feq (by decide)).1) wk) ?_
          show Fin1 p e below s (rm0Q Z i0 h0 n0) room_1.cells room_1.slots (T0.setTop (mkF m 52 #[.val (.int i0), .val (.int (i0.toInt8.toInt32)), .val (.int (1 : Int32)), .val (.int (1 : Int32)), .val (.int (1 : Int32)), .unset] []))
          refine own_st (fun wt wk => XS.iconst X0.here hx rfl (hb hby at_52) wk) ?_
          show Fin1 p e below s (rm0Q Z i0 h0 n0) room_1.cells room_1.slots (T0.setTop (mkF m 53 #[.val (.int i0), .val (.int (i0.toInt8.toInt32)), .val (.int (1 : Int32)), .val (.int (1 : Int32)), .val (.int (1 : Int32)), .unset] [(.int (1 : Int32))]))
          refine own_st (fun wt wk => XS.goto X0.here hx rfl (pc0 := 53) (pc' := 57) rfl (hb hby at_53) (by decide) (by decide) wk) ?_
          show Fin1 p e below s (rm0Q Z i0 h0 n0) room_1.cells room_1.slots (T0.setTop (mkF m 57 #[.val (.int i0), .val (.int (i0.toInt8.toInt32)), .val (.int (1 : Int32)), .val (.int (1 : Int32)), .val (.int (1 : Int32)), .unset] [(.int (1 : Int32))]))
          exact K57 _ _ _ _ (by simp [own_exp, c4, c16, c29])
  intro k2 k3 k4 k5 hk5
  refine own_st (fun wt wk => XS.istore X0.here hx rfl (hb hby at_57) rfl (l' := #[.val (.int i0), .val (.int (i0.toInt8.toInt32)), .val (.int k2), .val (.int k3), .val (.int k4), .val (.int k5)]) rfl wk) ?_
  show Fin1 p e below s (rm0Q Z i0 h0 n0) room_1.cells room_1.slots (T0.setTop (mkF m 59 #[.val (.int i0), .val (.int (i0.toInt8.toInt32)), .val (.int k2), .val (.int k3), .val (.int k4), .val (.int k5)] []))
  refine own_st (fun wt wk => XS.iloadN X0.here hx rfl (hb hby at_59) rfl wk) ?_
  show Fin1 p e below s (rm0Q Z i0 h0 n0) room_1.cells room_1.slots (T0.setTop (mkF m 60 #[.val (.int i0), .val (.int (i0.toInt8.toInt32)), .val (.int k2), .val (.int k3), .val (.int k4), .val (.int k5)] [(.int (i0.toInt8.toInt32))]))
  obtain ⟨v1, T1, h1, L1, X1, e1, hQ1, st1⟩ := own_static X0 hx hZ hown (hw _ (List.mem_of_getElem? (i := 0) rfl)) (hw _ (List.mem_of_getElem? (i := 1) rfl)) (hw _ (List.mem_of_getElem? (i := 2) rfl)) (hw _ (List.mem_of_getElem? (i := 3) rfl)) (by decide) (rm1 l Z a0 hw (i0.toInt8.toInt32) h0 n0 Z0) e0 (g := (mkF m 60 #[.val (.int i0), .val (.int (i0.toInt8.toInt32)), .val (.int k2), .val (.int k3), .val (.int k4), .val (.int k5)] [(.int (i0.toInt8.toInt32))])) rfl (by rw [hml]; rfl) (argsL := [(.int (i0.toInt8.toInt32))]) (rest := []) (lenOf pd_2 rfl) rfl (W := 0) (by show 2 * 0 + _ ≤ _; exact Nat.le_of_eq rfl) (hb hby at_60) (by decide) (by decide) (by decide) (by decide)
  obtain ⟨rfl, N1q, hh1⟩ := hQ1
  have N1 := Fr.app N0 N1q
  rw [hh1] at e1
  refine own_st st1 ?_
  show Fin1 p e below s (rm0Q Z i0 h0 n0) room_1.cells room_1.slots (T1.setTop (mkF m 63 #[.val (.int i0), .val (.int (i0.toInt8.toInt32)), .val (.int k2), .val (.int k3), .val (.int k4), .val (.int k5)] [(.int (own_beg (i0.toInt8.toInt32)))]))
  refine own_st (fun wt wk => XS.iload X1.here hx rfl (hb hby at_63) rfl wk) ?_
  show Fin1 p e below s (rm0Q Z i0 h0 n0) room_1.cells room_1.slots (T1.setTop (mkF m 65 #[.val (.int i0), .val (.int (i0.toInt8.toInt32)), .val (.int k2), .val (.int k3), .val (.int k4), .val (.int k5)] [(.int k5), (.int (own_beg (i0.toInt8.toInt32)))]))
  refine own_st (fun wt wk => XS.icmpNo X1.here hx rfl (hb hby at_65) rfl (teq (hk5 ▸ own_same i0 : (own_beg (i0.toInt8.toInt32)) = k5)).2 wk) ?_
  show Fin1 p e below s (rm0Q Z i0 h0 n0) room_1.cells room_1.slots (T1.setTop (mkF m 68 #[.val (.int i0), .val (.int (i0.toInt8.toInt32)), .val (.int k2), .val (.int k3), .val (.int k4), .val (.int k5)] []))
  refine own_st (fun wt wk => XS.iconst X1.here hx rfl (hb hby at_68) wk) ?_
  show Fin1 p e below s (rm0Q Z i0 h0 n0) room_1.cells room_1.slots (T1.setTop (mkF m 69 #[.val (.int i0), .val (.int (i0.toInt8.toInt32)), .val (.int k2), .val (.int k3), .val (.int k4), .val (.int k5)] [(.int (1 : Int32))]))
  refine own_st (fun wt wk => XS.goto X1.here hx rfl (pc0 := 69) (pc' := 73) rfl (hb hby at_69) (by decide) (by decide) wk) ?_
  show Fin1 p e below s (rm0Q Z i0 h0 n0) room_1.cells room_1.slots (T1.setTop (mkF m 73 #[.val (.int i0), .val (.int (i0.toInt8.toInt32)), .val (.int k2), .val (.int k3), .val (.int k4), .val (.int k5)] [(.int (1 : Int32))]))
  exact own_retZ X1 hx hlk hret (hb hby at_73) (z := (1 : Int32)) (by decide) (by rw [e1]; exact ⟨rfl, N1⟩) (by decide) (by decide)
set_option maxRecDepth 65536 in
set_option maxHeartbeats 40000000 in
theorem comes_1 {Post : Tables → Env → Array Value → State → Outcome → State → Prop} (hpost : ∀ tb e args s v u, (limb_1_1.after args s (.returned v) u = true ∧ limb_1_2.after args s (.returned v) u = true ∧ True) → FrameEnd s (.returned v) u (Jvm.fieldLocs frame_1_writes args s ++ Jvm.arrayLocs frame_1_arrays args s ++ Jvm.staticLocs frame_1_statics s) 0 0 → Post tb e args s (.returned v) u) :
    ArmFor flags0 classFile x code maxLocals ret World_1 tables_1 room_1 Calls_1 rest_1 Pre_1 Post := by
  intro l hfl _ _ p e ha hc hk s m args below hf hA hF happ hP
  obtain ⟨hcalls, hrest, hpre⟩ := hP
  obtain ⟨-, -, -, hnamed, -, -, -, hat⟩ := (Spec.applies_iff hf).mp happ
  obtain ⟨hg, hn⟩ := and_e (Cond.before_iff.mp (show (Jvm.Cond.and given_1 narrow_1).before args s = true from hpre))
  obtain ⟨hcnt, hg1⟩ := and_e hg
  have hv0 := hg1
  obtain ⟨w0, rfl⟩ : ∃ w0 : Value, args = #[w0] := by
    have hs : args.size = 1 := by simpa [Cond.value, given_1] using hcnt
    obtain ⟨L⟩ := args
    match L, hs with
    | [w0], _ => exact ⟨w0, rfl⟩
  have hw := fun d (hd : d ∈ tables_1) => atoms_spec (ws := Jvm.Cond.code x code maxLocals ret :: tables_1) hat d (List.mem_cons_of_mem _ hd)
  have hfit : Fit s := fun {y c} hc i hi => by
    obtain ⟨ha, rfl⟩ := Array.getElem?_eq_some_iff.mp hc
    have q := List.all_eq_true.mp ((Array.all_eq_true_iff_forall_mem.mp hF) _ (Array.getElem_mem ha)) i (List.mem_range.mpr hi)
    simpa [Array.getElem?_eq_getElem hi] using q
  obtain ⟨i0, ei0⟩ := is_v hv0
  obtain rfl : w0 = (.int i0) := Option.some.inj ei0
  obtain ⟨n, o, h1, h2, h3, _, L, rfl, ⟨rfl, N⟩, hq⟩ := rm0 l s _ hw i0 s.heap s.heap.size (Nat.le_refl _)  p e ha hc hk s m _ below hf ((Spec.applies_iff_loose hf).mp happ).1 ⟨rfl, State.Warmed39.refl s, rfl⟩ trivial
  refine ⟨n, _, h1, h2, h3, hpost _ _ _ _ _ _ ⟨Cond.after_iff.mpr rfl, Cond.after_iff.mpr (eq_i res_at (Term.int_eval (1)) rfl), trivial⟩ ⟨hq.1, hq.2.1, (hq.2.2.sift fun y hy => Or.inr (N y hy)).mono (by decide) (by decide)⟩⟩
theorem main_1_1 : Claimed_1_1 := comes_1 fun _ _ _ _ _ _ h hF => ⟨h.1, hF⟩
theorem main_1_2 : Claimed_1_2 := comes_1 fun _ _ _ _ _ _ h hF => ⟨h.2.1, hF⟩
end Jvm.Pilot.@@N@@
namespace Jvm.Pilot.@@N@@
open Jvm Jvm.ClassFile Sem Op Lib Jvm.Free Jvm.Stand Jvm.Pilot.@@N@@.Jvm.D
/-! MADE BY PROGRAM (witnessworld.py) out of the Statement's table words and the real class files: 10 classes; the members and pool entries that the words name. The judged class is class 1, her method 1. -/
namespace start1
open Jvm.ClassFile
def u (s : String) : CpInfo := .utf8 (stringToUtf16 s)
/-- a pool by its gaps: so many unusable entries, then the entry; so many at the end -/
def gap : Nat → List CpInfo → List CpInfo
  | 0, r => r
  | n + 1, r => .unusable :: gap n r
def poolList (es : List (Nat × CpInfo)) (last : Nat) : List CpInfo := es.foldr (fun e r => gap e.1 (e.2 :: r)) (gap last [])
def pool (es : List (Nat × CpInfo)) (last : Nat) : Array CpInfo := ⟨poolList es last⟩
def fileOf (pool : Array CpInfo) (this : Nat) (attrs : Array Attribute := #[]) (ms : Array MethodInfo := #[]) (fl : Nat := 33) (sup : Nat := 0) (ifs : Array Nat := #[]) (fds : Array FieldInfo := #[]) : ClassFile where
  minorVersion := 0
  majorVersion := 65
  constantPool := pool
  accessFlags := fl
  thisClass := this
  superClass := sup
  interfaces := ifs
  fields := fds
  methods := ms
  attributes := attrs
def plain (name : String) (sup : Option ClassId) : Class where
  name := name
  kind := .ordinary
  loader := none
  accessFlags := 33
  super := sup
  interfaces := #[]
  cf := none
  fields := #[]
  methods := #[]
  instanceTypes := #[]
  staticTypes := #[]
  resolved := #[]
  callSites := []
  init := .initialized
  statics := none
  mirror := none

def pool0 : Array CpInfo := pool [(5, u "<init>"), (0, u "()V"), (1, .class_ 10), (1, u "java/lang/Object")] 113

def k0m0 : Method := { name := "<init>", desc := "()V", sig := { parameters := [], returnType := none }, accessFlags := 1, code := none }
/-- java/lang/Object -/
def k0 : Class := { plain "java/lang/Object" none with
  accessFlags := 33
  interfaces := #[]
  cf := some (fileOf pool0 8 #[] #[{ accessFlags := 1, nameIndex := 5, descriptorIndex := 6, attributes := #[] }] 33 0 #[] #[])
  fields := #[]
  methods := #[k0m0]
  instanceTypes := #[]
  staticTypes := #[]
  resolved := Array.replicate 124 none
  statics := none }

def pool1 : Array CpInfo := pool [(2, .class_ 4), (1, u "java/lang/Object"), (0, u "<init>"), (0, u "()V"), (0, .methodref 8 9), (0, .class_ 10), (0, .nameAndType 11 12), (0, u "com/example/wee_capture/weecapture/daemon/StreamRequest"), (0, u "begins"), (0, u "(B)Z"), (0, .class_ 14), (0, u "com/example/wee_capture/weecapture/daemon/StreamRequestBeginsPinLaw"), (2, u "law"), (0, u "(I)Z")] 3

def k1m0 : Method := { name := "<init>", desc := "()V", sig := { parameters := [], returnType := none }, accessFlags := 2, code := none }
def k1c1 : Code := { maxStack := 2, maxLocals := 6, code := code, exceptionTable := #[], attributes := #[] }
def k1m1 : Method := { name := "law", desc := "(I)Z", sig := { parameters := [.int], returnType := some .boolean }, accessFlags := 9, code := some k1c1 }
/-- com/example/wee_capture/weecapture/daemon/StreamRequestBeginsPinLaw -/
def k1 : Class := { plain "com/example/wee_capture/weecapture/daemon/StreamRequestBeginsPinLaw" (some 0) with
  accessFlags := 49
  interfaces := #[]
  cf := some (fileOf pool1 13 #[] #[{ accessFlags := 2, nameIndex := 5, descriptorIndex := 6, attributes := #[] }, { accessFlags := 9, nameIndex := 17, descriptorIndex := 18, attributes := #[] }] 49 2 #[] #[])
  fields := #[]
  methods := #[k1m0, k1m1]
  instanceTypes := #[]
  staticTypes := #[]
  resolved := Array.replicate 22 none
  statics := none }

def pool2 : Array CpInfo := pool [(2, .class_ 4), (1, u "java/lang/Object"), (0, u "<init>"), (0, u "()V"), (0, .class_ 8), (0, u "java/lang/Record")] 13

def k2m0 : Method := { name := "<init>", desc := "()V", sig := { parameters := [], returnType := none }, accessFlags := 4, code := none }
/-- java/lang/Record -/
def k2 : Class := { plain "java/lang/Record" (some 0) with
  accessFlags := 1057
  interfaces := #[]
  cf := some (fileOf pool2 7 #[] #[{ accessFlags := 4, nameIndex := 5, descriptorIndex := 6, attributes := #[] }] 1057 2 #[] #[])
  fields := #[]
  methods := #[k2m0]
  instanceTypes := #[]
  staticTypes := #[]
  resolved := Array.replicate 22 none
  statics := none }

def pool3 : Array CpInfo := pool [(1, .class_ 2), (0, u "com/example/wee_capture/weecapture/daemon/StreamRequest"), (1, .class_ 6), (1, u "java/lang/Record"), (4, u "source"), (0, u "Lcom/example/wee_capture/weecapture/model/CaptureSource;"), (2, u "rate"), (0, u "I"), (2, u "channels"), (2, u "encoding"), (0, u "Lcom/example/wee_capture/weecapture/model/SampleEncoding;"), (48, u "begins"), (0, u "(B)Z"), (40, u "BETWEEN_WORDS"), (0, u "Ljava/util/regex/Pattern;"), (91, u "MAX_BYTES"), (2, u "MAX_SECONDS"), (0, u "J"), (2, u "VERB"), (0, u "Ljava/lang/String;"), (0, u "FORM"), (2, u "WORDS"), (1, u "NEWLINE"), (0, u "B"), (1, u "TAB")] 55

def k3c0 : Code := { maxStack := 2, maxLocals := 1, code := prog_35_method_2_code, exceptionTable := #[], attributes := #[] }
def k3m0 : Method := { name := "begins", desc := "(B)Z", sig := { parameters := [.byte], returnType := some .boolean }, accessFlags := 8, code := some k3c0 }
/-- com/example/wee_capture/weecapture/daemon/StreamRequest -/
def k3 : Class := { plain "com/example/wee_capture/weecapture/daemon/StreamRequest" (some 2) with
  accessFlags := 48
  interfaces := #[]
  cf := some (fileOf pool3 1 #[] #[{ accessFlags := 8, nameIndex := 72, descriptorIndex := 73, attributes := #[] }] 48 4 #[] #[{ accessFlags := 18, nameIndex := 11, descriptorIndex := 12, attributes := #[] }, { accessFlags := 18, nameIndex := 15, descriptorIndex := 16, attributes := #[] }, { accessFlags := 18, nameIndex := 19, descriptorIndex := 16, attributes := #[] }, { accessFlags := 18, nameIndex := 22, descriptorIndex := 23, attributes := #[] }, { accessFlags := 24, nameIndex := 207, descriptorIndex := 16, attributes := #[] }, { accessFlags := 24, nameIndex := 210, descriptorIndex := 211, attributes := #[] }, { accessFlags := 26, nameIndex := 214, descriptorIndex := 215, attributes := #[] }, { accessFlags := 26, nameIndex := 216, descriptorIndex := 215, attributes := #[] }, { accessFlags := 26, nameIndex := 219, descriptorIndex := 16, attributes := #[] }, { accessFlags := 26, nameIndex := 114, descriptorIndex := 115, attributes := #[] }, { accessFlags := 26, nameIndex := 221, descriptorIndex := 222, attributes := #[] }, { accessFlags := 26, nameIndex := 224, descriptorIndex := 222, attributes := #[] }])
  fields := #[{ name := "source", type := (.object "com/example/wee_capture/weecapture/model/CaptureSource"), accessFlags := 18, slot := 0, constantValue := 0 }, { name := "rate", type := .int, accessFlags := 18, slot := 1, constantValue := 0 }, { name := "channels", type := .int, accessFlags := 18, slot := 2, constantValue := 0 }, { name := "encoding", type := (.object "com/example/wee_capture/weecapture/model/SampleEncoding"), accessFlags := 18, slot := 3, constantValue := 0 }, { name := "MAX_BYTES", type := .int, accessFlags := 24, slot := 0, constantValue := 0 }, { name := "MAX_SECONDS", type := .long, accessFlags := 24, slot := 1, constantValue := 0 }, { name := "VERB", type := (.object "java/lang/String"), accessFlags := 26, slot := 2, constantValue := 0 }, { name := "FORM", type := (.object "java/lang/String"), accessFlags := 26, slot := 3, constantValue := 0 }, { name := "WORDS", type := .int, accessFlags := 26, slot := 4, constantValue := 0 }, { name := "BETWEEN_WORDS", type := (.object "java/util/regex/Pattern"), accessFlags := 26, slot := 5, constantValue := 0 }, { name := "NEWLINE", type := .byte, accessFlags := 26, slot := 6, constantValue := 0 }, { name := "TAB", type := .byte, accessFlags := 26, slot := 7, constantValue := 0 }]
  methods := #[k3m0]
  instanceTypes := #[(.object "com/example/wee_capture/weecapture/model/CaptureSource"), .int, .int, (.object "com/example/wee_capture/weecapture/model/SampleEncoding")]
  staticTypes := #[.int, .long, (.object "java/lang/String"), (.object "java/lang/String"), .int, (.object "java/util/regex/Pattern"), .byte, .byte]
  resolved := Array.replicate 280 none
  statics := none }

def pool4 : Array CpInfo := pool [(1, u "java/lang/Cloneable"), (0, .class_ 1), (0, u "java/lang/Object"), (0, .class_ 3)] 3

/-- java/lang/Cloneable -/
def k4 : Class := { plain "java/lang/Cloneable" (some 0) with
  accessFlags := 1537
  interfaces := #[]
  cf := some (fileOf pool4 2 #[] #[] 1537 4 #[] #[])
  fields := #[]
  methods := #[]
  instanceTypes := #[]
  staticTypes := #[]
  resolved := Array.replicate 8 none
  statics := none }

def pool5 : Array CpInfo := pool [(1, u "java/io/Serializable"), (0, .class_ 1), (0, u "java/lang/Object"), (0, .class_ 3)] 3

/-- java/io/Serializable -/
def k5 : Class := { plain "java/io/Serializable" (some 0) with
  accessFlags := 1537
  interfaces := #[]
  cf := some (fileOf pool5 2 #[] #[] 1537 4 #[] #[])
  fields := #[]
  methods := #[]
  instanceTypes := #[]
  staticTypes := #[]
  resolved := Array.replicate 8 none
  statics := none }

/-- the primitive byte -/
def k6 : Class := { plain "byte" none with kind := .primitive 'B', accessFlags := 0x411 }
/-- [B -/
def k7 : Class := { plain "[B" (some 0) with kind := .array 6 .byte, interfaces := #[4, 5], accessFlags := 1041 }

/-- the primitive int -/
def k8 : Class := { plain "int" none with kind := .primitive 'I', accessFlags := 0x411 }
/-- [I -/
def k9 : Class := { plain "[I" (some 0) with kind := .array 8 .int, interfaces := #[4, 5], accessFlags := 1041 }

def heap : Heap := #[]
def classes : Array Class := #[k0, k1, k2, k3, k4, k5, k6, k7, k8, k9]
def interned : List (Array UInt16 × Addr) := []
def slotsUsed : Nat := 0
def theMethod : MethodId := ⟨1, 1⟩
def args0 : Array Value := #[.int 5]
def aboutOver (below : List Frame) : State where
  vm := { classes := classes, interned := interned.toArray }
  heap := heap
  slotsUsed := slotsUsed
  threads := #[{ frames := .invoking theMethod args0 :: below }]
def below0 : List Frame := [.native { method := ⟨0, 0⟩, args := #[] }]
def about1 : State := aboutOver below0
def p0 : Program := .bare "" "" ""
def e0 : Env := launch0.env 0 0 0
theorem w_frames : about1.frames = Frame.invoking theMethod args0 :: below0 := rfl
set_option maxRecDepth 65536 in
theorem w_args : argsFit about1.vm theMethod args0 = true := by decide +kernel
set_option maxRecDepth 65536 in
theorem w_heap : heapFits about1 = true := by decide +kernel
set_option maxRecDepth 65536 in
theorem w_runnable : about1.curStatus? = some .runnable := by decide +kernel
set_option maxRecDepth 65536 in
theorem w_alone : about1.alone = true := by decide +kernel
set_option maxRecDepth 65536 in
theorem w_named : about1.methodNamed? x = some theMethod := by decide +kernel
set_option maxRecDepth 65536 in
theorem w_hears : about1.hears theMethod below0 = true := by decide +kernel
set_option maxRecDepth 65536 in
theorem w_ripe : about1.ripe theMethod args0 below0 = true := by decide +kernel
theorem w_running : about1.status = .running := rfl
set_option maxRecDepth 65536 in
theorem w_room : about1.hasRoom e0.platform room_1 = true :=
  launch0.hasRoom_least _ room_1 (by decide +kernel) (by decide +kernel) (by decide +kernel) (by decide +kernel) (by decide +kernel) (by decide +kernel)
theorem allAtoms_all (ts : List Jvm.Cond) (a : Array Jvm.Value) (st : Jvm.State) : (allAtoms ts).before a st = ts.all (fun c => c.before a st) := by
  induction ts with
  | nil => rfl
  | cons c t ih =>
    show (Jvm.Cond.and c (allAtoms t)).before a st = _
    rw [Jvm.Cond.before_and, ih, List.all_cons]
def words1 : List Jvm.Cond := Jvm.Cond.code x code maxLocals ret :: tables_1
/-- a 'code' word, met by the world's own term for the bytes: nothing is compared byte by byte -/
theorem code_word {y : MethodName} {bytes : ByteArray} {mx : Nat} {rt : Option FieldType} {a : Array Value} {s : State} {m : MethodId} {meth : Method} {c : Code} (h1 : s.methodNamed? y = some m) (h2 : s.vm.method? m = some meth) (h3 : meth.code = some c) (h4 : c.code = bytes)
    (h5 : (c.maxLocals == mx && c.exceptionTable.isEmpty && decide (c.maxStack ≤ mostOperands) && decide (meth.sig.returnType = rt) && !meth.locks && decide (parseMethodDescriptor y.desc = some meth.sig)) = true) : (Jvm.Cond.code y bytes mx rt).before a s = true := by
  simp only [Bool.and_eq_true, beq_iff_eq, Bool.not_eq_true', decide_eq_true_eq] at h5
  obtain ⟨⟨⟨⟨⟨g1, g2⟩, g3⟩, g4⟩, g5⟩, g6⟩ := h5
  simp [Cond.before, Cond.holds, Cond.value, h1, h2, h3, h4, g1, g2, g3, g4, g5, g6]
def isCode : Jvm.Cond → Bool
  | .code _ _ _ _ => true
  | _ => false
theorem all_split {L : List Jvm.Cond} {P : Jvm.Cond → Bool} (h1 : L.all (fun c => isCode c || P c) = true) (h2 : ∀ c ∈ L.filter isCode, P c = true) : L.all P = true := by
  refine List.all_eq_true.mpr fun c hc => ?_
  have h := List.all_eq_true.mp h1 c hc
  rcases Bool.eq_false_or_eq_true (isCode c) with hi | hi
  · exact h2 c (List.mem_filter.mpr ⟨hc, hi⟩)
  · simpa [hi] using h
set_option maxRecDepth 65536 in
theorem w_c0 : (Jvm.Cond.code x code maxLocals ret).before args0 about1 = true := code_word (m := ⟨1, 1⟩) (meth := k1m1) (c := k1c1) (by decide +kernel) rfl rfl rfl (by decide +kernel)
set_option maxRecDepth 65536 in
theorem w_c1 : (Jvm.Cond.code ({ cls := "com/example/wee_capture/weecapture/daemon/StreamRequest", name := "begins", desc := "(B)Z" } : Jvm.MethodName) prog_35_method_2_code (1 : Nat) (Option.some Jvm.ClassFile.FieldType.boolean)).before args0 about1 = true := code_word (m := ⟨3, 0⟩) (meth := k3m0) (c := k3c0) (by decide +kernel) rfl rfl rfl (by decide +kernel)
def codes1 : List Jvm.Cond := [Jvm.Cond.code x code maxLocals ret, Jvm.Cond.code ({ cls := "com/example/wee_capture/weecapture/daemon/StreamRequest", name := "begins", desc := "(B)Z" } : Jvm.MethodName) prog_35_method_2_code (1 : Nat) (Option.some Jvm.ClassFile.FieldType.boolean)]
set_option maxRecDepth 65536 in
theorem codes_eq : words1.filter isCode = codes1 := rfl
theorem w_codes : ∀ c ∈ words1.filter isCode, c.before args0 about1 = true := by
  rw [codes_eq]
  intro c hc
  simp only [codes1, List.mem_cons, List.not_mem_nil, or_false] at hc
  rcases hc with rfl | rfl
  · exact w_c0
  · exact w_c1
set_option maxRecDepth 65536 in
theorem w_t1 : words1.all (fun c => isCode c || c.before args0 about1) = true := by decide +kernel
theorem w_tables : (allAtoms (Jvm.Cond.code x code maxLocals ret :: tables_1)).before args0 about1 = true := by
  rw [allAtoms_all]
  show words1.all (fun c => c.before args0 about1) = true
  refine all_split ?_ w_codes
  rw [w_t1]
set_option maxRecDepth 65536 in
theorem w_case : (Jvm.Cond.and given_1 narrow_1).before args0 about1 = true := by decide +kernel
theorem w_applies : (headSpec (Jvm.Cond.code x code maxLocals ret :: tables_1) room_1).applies x e0.platform about1 = true :=
  (Spec.applies_iff w_frames).mpr ⟨w_running, w_runnable, w_alone, w_named, w_hears, w_ripe, w_room, w_tables⟩
theorem atStart : AtStart classFile x code maxLocals ret World_1 tables_1 room_1 Calls_1 rest_1 Pre_1 launch0 p0 e0 about1 theMethod args0 below0 :=
  ⟨lists_1, trivial, launch0.admits_env _ _ _, launch0.least_env, fairChoices_fair.cas, fairChoices_fair.clock, w_frames, w_args, w_heap, w_applies, trivial, trivial, w_case⟩
end start1
theorem witness_1 : WitnessClaimed_1 := ⟨start1.p0, start1.e0, start1.about1, start1.theMethod, start1.args0, start1.below0, start1.atStart⟩
end Jvm.Pilot.@@N@@
