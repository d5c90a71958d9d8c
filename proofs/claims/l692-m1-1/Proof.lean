import JvmDerived
import JvmDerived.Pilot.@@N@@Statement
import JvmDerived.Pilot.@@N@@Code
set_option linter.unusedVariables false
set_option linter.unusedSimpArgs false
namespace Jvm.RoadKit
open Sem ClassFile Op Lib Jvm.Stand Jvm.Free Jvm.LawKit
section Own
variable {p : Program} {l : Launch} {e : Env} {R : Room} {s : State} {m : MethodId} {args : Array Value} {below : List Frame} {meth : Method} {c : Code} {T T' : State} {locs : List Loc} {cells slots : Nat} {Z : State} {a0 : Array Value} {h h' : Heap}
abbrev own_lv (x : Int64) : Slot := .val (.long x)
abbrev own_S (p : Program) (e : Env) (below : List Frame) (T : State) (m : MethodId) (pc : Nat) (L : Array Slot) (S : List Value) (t : State) : Prop := Steps p.tables e below (T.setTop (mkF m pc L S)) t
/-- in one state, from the second frame to the first -/
abbrev own_V (p : Program) (e : Env) (below : List Frame) (T : State) (f' f : JFrame) : Prop := ∀ t, Steps p.tables e below (T.setTop f') t → Steps p.tables e below (T.setTop f) t
/-- from this frame on the run comes to an end that G says -/
def own_Go (p : Program) (e : Env) (below : List Frame) (G : State → Outcome → Prop) (T : State) (f : JFrame) : Prop :=
  ∃ t o, Steps p.tables e below (T.setTop f) t ∧ G t o
theorem own_st {G : State → Outcome → Prop} {f f' : JFrame} (st : ∀ t, Steps p.tables e below (T'.setTop f') t → Steps p.tables e below (T.setTop f) t) (k : own_Go p e below G T' f') : own_Go p e below G T f := by
  obtain ⟨t, o, h1, h2⟩ := k
  exact ⟨t, o, st t h1, h2⟩
/-- from this frame on the run comes to a state and a frame that P says -/
def own_Pk (p : Program) (e : Env) (below : List Frame) (P : State → JFrame → Prop) (T : State) (f : JFrame) : Prop :=
  ∃ T' f', P T' f' ∧ ∀ t, Steps p.tables e below (T'.setTop f') t → Steps p.tables e below (T.setTop f) t
theorem own_sp {P : State → JFrame → Prop} {f f' : JFrame} (st : ∀ t, Steps p.tables e below (T'.setTop f') t → Steps p.tables e below (T.setTop f) t) (k : own_Pk p e below P T' f') : own_Pk p e below P T f := by
  obtain ⟨T2, f2, h1, h2⟩ := k
  exact ⟨T2, f2, h1, fun t q => st t (h2 t q)⟩
theorem own_pm {P P' : State → JFrame → Prop} {f : JFrame} (k : own_Pk p e below P T f) (q : ∀ T' f', P T' f' → P' T' f') : own_Pk p e below P' T f := by
  obtain ⟨T2, f2, h1, h2⟩ := k
  exact ⟨T2, f2, q _ _ h1, h2⟩
/-- it returned, Q says what, and the frame is kept -/
def own_End (s : State) (below : List Frame) (Q : Option Value → Heap → List Loc → Prop) (C S : Nat) : State → Outcome → Prop := fun t o =>
  t.status = .running ∧ Ended t below o ∧ ∃ v L, o = .returned v ∧ Q v t.heap L ∧ FrameEnd s o t L C S
theorem own_body {y : MethodName} {bytes : ByteArray} {ml : Nat} {rt : Option FieldType} {rm : Room} {as' : Array Value} {h0 : Heap} {Q : Option Value → Heap → List Loc → Prop} {C S : Nat} {ws : List Jvm.Cond} (hp : plainFor y = true)
    (H : ∀ p e s m below meth c s₁, BodyLoose p l y (head1 (Jvm.Cond.code y bytes ml rt :: ws) rm) bytes ml rt e s m as' below meth c s₁ → c.maxLocals = ml → Z.Warmed39 s.vm → s₁.heap = h0 → own_Go p e below (own_End s below Q C S) s₁ (entryFrame m as' ml)) :
    MetFree l y (head1 (Jvm.Cond.code y bytes ml rt :: ws) rm) (fun a U => a = as' ∧ Z.Warmed39 U.vm ∧ U.heap = h0) (fun _ _ _ _ _ => True) (fun _ U o U' => ∃ v L, o = .returned v ∧ Q v U'.heap L ∧ FrameEnd U o U' L C S) := by
  refine MetFree.of_bodySF hp hisR ?_
  intro p e s m args below meth c s₁ Bd hml hP hK
  obtain ⟨rfl, hZ, hh⟩ := hP
  have e0 : s₁.heap = h0 := by rw [← hh, Bd.state]; rfl
  obtain ⟨t, o, h1, h2, h3, h4⟩ := H p e s m below meth c s₁ Bd hml hZ e0
  exact ⟨t, o, h1, h2, h3, h4⟩
/-- a callee's contract -/
abbrev own_Ct (l : Launch) (Z : State) (y : MethodName) (bytes : ByteArray) (ml : Nat) (rt : Option FieldType) (rm : Room) (as' : Array Value) (h0 : Heap) (Q : Option Value → Heap → List Loc → Prop) : Prop :=
  MetFree l y (head1 [Jvm.Cond.code y bytes ml rt] rm) (fun a U => a = as' ∧ Z.Warmed39 U.vm ∧ U.heap = h0) (fun _ _ _ _ _ => True) (fun _ U o U' => ∃ v L, o = .returned v ∧ Q v U'.heap L ∧ FrameEnd U o U' L rm.cells rm.slots)
section Ret
variable {Q : Option Value → Heap → List Loc → Prop} {C S : Nat}
theorem own_out {v : Option Value} {f : JFrame} (X : Stand p l e R s m args below meth c T locs cells slots) (hv : meth.sig.returnType = none → v = none) (hlocks : meth.locks = false) (hC : cells ≤ C) (hS : slots ≤ S) (eT : T.heap = h) (hq : Q v h locs)
    (go : ∀ fs, (∀ (f : JFrame) (acts : List Action), f.method = m → f.locked = none → f.entered = [] → (doReturn e (T.setTop f) acts v).1 = T.setFrames fs) → Steps p.tables e below (T.setTop f) (T.setFrames fs)) :
    own_Go p e below (own_End s below Q C S) T f := by
  obtain ⟨fs, hr, hrun, hended, hW, hsame⟩ := X.leave (v := v) hv hlocks
  refine ⟨_, _, go fs hr, hrun, hended, _, _, rfl, ?_, ⟨_, rfl⟩, hW, hsame.mono hC hS⟩
  show Q v T.heap locs
  rw [eT]; exact hq
theorem own_retI (X : Stand p l e R s m args below meth c T locs cells slots) (hx : p.tables.exec = Jvm.exec) (hlocks : meth.locks = false) (hret : meth.sig.returnType = some .int) {pc : Nat} {Ls : Array Slot} {z : Int32} {rest : List Value} (hd : decode c.code pc = .ok (.ireturn, 1)) (hC : cells ≤ C) (hS : slots ≤ S) (eT : T.heap = h) (hq : Q (some (.int z)) h locs) :
    own_Go p e below (own_End s below Q C S) T (mkF m pc Ls (.int z :: rest)) :=
  own_out X (fun q => by rw [hret] at q; cases q) hlocks hC hS eT hq fun fs hr => retOut X hx hret rfl (Or.inl ⟨rfl, Or.inl rfl, z, rfl⟩) hd hr
theorem own_retZ (X : Stand p l e R s m args below meth c T locs cells slots) (hx : p.tables.exec = Jvm.exec) (hlocks : meth.locks = false) (hret : meth.sig.returnType = some .boolean) {pc : Nat} {Ls : Array Slot} {z : Int32} {rest : List Value} (hd : decode c.code pc = .ok (.ireturn, 1)) (hz : z = 0 ∨ z = 1) (hC : cells ≤ C) (hS : slots ≤ S) (eT : T.heap = h) (hq : Q (some (.int z)) h locs) :
    own_Go p e below (own_End s below Q C S) T (mkF m pc Ls (.int z :: rest)) :=
  own_out X (fun q => by rw [hret] at q; cases q) hlocks hC hS eT hq fun fs hr => retN X hx hret (Or.inl rfl) hd (by
    have : nar .boolean z = z := by rcases hz with rfl | rfl <;> decide
    rw [this]; exact hr)
theorem own_retB (X : Stand p l e R s m args below meth c T locs cells slots) (hx : p.tables.exec = Jvm.exec) (hlocks : meth.locks = false) (hret : meth.sig.returnType = some .byte) {pc : Nat} {Ls : Array Slot} {z : Int32} {rest : List Value} (hd : decode c.code pc = .ok (.ireturn, 1)) (hz : nar .byte z = z) (hC : cells ≤ C) (hS : slots ≤ S) (eT : T.heap = h) (hq : Q (some (.int z)) h locs) :
    own_Go p e below (own_End s below Q C S) T (mkF m pc Ls (.int z :: rest)) :=
  own_out X (fun q => by rw [hret] at q; cases q) hlocks hC hS eT hq fun fs hr => retN X hx hret (Or.inr (Or.inl rfl)) hd (by rw [hz]; exact hr)
theorem own_retJ (X : Stand p l e R s m args below meth c T locs cells slots) (hx : p.tables.exec = Jvm.exec) (hlocks : meth.locks = false) (hret : meth.sig.returnType = some .long) {pc : Nat} {Ls : Array Slot} {z : Int64} {rest : List Value} (hd : decode c.code pc = .ok (.lreturn, 1)) (hC : cells ≤ C) (hS : slots ≤ S) (eT : T.heap = h) (hq : Q (some (.long z)) h locs) :
    own_Go p e below (own_End s below Q C S) T (mkF m pc Ls (.long z :: rest)) :=
  own_out X (fun q => by rw [hret] at q; cases q) hlocks hC hS eT hq fun fs hr => retOut X hx hret rfl (Or.inr (Or.inl ⟨rfl, rfl, z, rfl⟩)) hd hr
theorem own_retR {t : FieldType} {w : Value} (X : Stand p l e R s m args below meth c T locs cells slots) (hx : p.tables.exec = Jvm.exec) (hlocks : meth.locks = false) (hret : meth.sig.returnType = some t) (ht : t.isReference = true) (hw : w.isRef = true) {pc : Nat} {Ls : Array Slot} {rest : List Value} (hd : decode c.code pc = .ok (.areturn, 1)) (hC : cells ≤ C) (hS : slots ≤ S) (eT : T.heap = h) (hq : Q (some w) h locs) :
    own_Go p e below (own_End s below Q C S) T (mkF m pc Ls (w :: rest)) :=
  own_out X (fun q => by rw [hret] at q; cases q) hlocks hC hS eT hq fun fs hr => retOut X hx hret (by cases t <;> cases w <;> first | rfl | (cases ht; done) | (cases hw; done)) (Or.inr (Or.inr (Or.inr (Or.inr ⟨rfl, ht, hw⟩)))) hd hr
theorem own_retV (X : Stand p l e R s m args below meth c T locs cells slots) (hx : p.tables.exec = Jvm.exec) (hlocks : meth.locks = false) (hret : meth.sig.returnType = none) {pc : Nat} {Ls : Array Slot} (hd : decode c.code pc = .ok (.return_, 1)) (hC : cells ≤ C) (hS : slots ≤ S) (eT : T.heap = h) (hq : Q none h locs) :
    own_Go p e below (own_End s below Q C S) T (mkF m pc Ls []) :=
  own_out X (fun _ => rfl) hlocks hC hS eT hq fun fs hr => X.returnOut hx hret hd hr
end Ret
section Call
variable {own : String} {index : Nat} {y : MethodName} {bytes : ByteArray} {ml : Nat} {rt : Option FieldType} {rm : Room} {Q : Option Value → Heap → List Loc → Prop} {g : JFrame} {argsL rest : List Value} {W : Nat}
theorem own_callS (X : Stand p l e R s m args below meth c T locs cells slots) (hx : p.tables.exec = Jvm.exec) (hZ : Z.Warmed39 s.vm) (hown : s.vm.findClass own = some m.cls)
    (w1 : (Jvm.Cond.methodLink own index y).before a0 Z = true) (w2 : (Jvm.Cond.static y).before a0 Z = true) (w3 : (Jvm.Cond.initialized y.cls).before a0 Z = true) (w4 : (Jvm.Cond.code y bytes ml rt).before a0 Z = true)
    (hy : y.cls ≠ "java/lang/invoke/MethodHandle" ∧ y.cls ≠ "java/lang/invoke/VarHandle") (ct : own_Ct l Z y bytes ml rt rm argsL.toArray h Q) (eT : T.heap = h) (hg : g.method = m) (hsize : g.locals.size = c.maxLocals)
    (hlen : ∀ sig, parseMethodDescriptor y.desc = some sig → argsL.length = sig.parameters.length) (hstack : g.stack = argsL.reverse ++ rest) (hW : 2 * g.monitorRoom + (rest.map fun v => v.category).sum ≤ W) (hdg : decode c.code g.pc = .ok (.invokestatic index, 3))
    (hf : rm.frames + 1 ≤ R.frames) (hl : W + (ml + 11) + rm.locals ≤ R.locals) (hc : cells + rm.cells ≤ R.cells) (hs : slots + rm.slots ≤ R.slots) :
    ∃ v T' L, Stand p l e R s m args below meth c T' (locs ++ L) (cells + rm.cells) (slots + rm.slots) ∧ Q v T'.heap L ∧ ∀ target, Steps p.tables e below (T'.setTop { g with pc := g.pc + 3, stack := v.toList ++ rest }) target → Steps p.tables e below (T.setTop g) target := by
  obtain ⟨v, vm1, ⟨T1, L1, k1, n1⟩, -, X1, ⟨L, hQ, h1, h2, h3⟩, st⟩ := Jvm.LawKit.callS X hx hown (mvT hZ w1) (mvT hZ w2) (mvT hZ w3) (mvT hZ w4) hy (backOf (W := W) ct hZ w4 w3 hf hl) hg hsize hlen hstack hW hdg (fun _ _ => ⟨rfl, eT, hc, hs⟩)
  dsimp only [Pt.U, Pt.locs, Pt.cells, Pt.slots] at X1 h1 h2 h3 hQ st
  subst h1 h2 h3
  exact ⟨v, T1, L, X1, hQ, st⟩
theorem own_callI {a : Addr} (X : Stand p l e R s m args below meth c T locs cells slots) (hx : p.tables.exec = Jvm.exec) (hZ : Z.Warmed39 s.vm) (hown : s.vm.findClass own = some m.cls) (hy1 : y.name = "<init>")
    (w1 : (Jvm.Cond.methodLink own index y).before a0 Z = true) (w2 : (Jvm.Cond.instanceMethod y).before a0 Z = true) (w3 : (Jvm.Cond.initialized y.cls).before a0 Z = true) (w4 : (Jvm.Cond.code y bytes ml none).before a0 Z = true)
    (hy : y.cls ≠ "java/lang/invoke/MethodHandle" ∧ y.cls ≠ "java/lang/invoke/VarHandle") (ct : own_Ct l Z y bytes ml none rm (.ref a :: argsL).toArray h Q) (eT : T.heap = h) (hg : g.method = m) (hsize : g.locals.size = c.maxLocals)
    (hlen : ∀ sig, parseMethodDescriptor y.desc = some sig → argsL.length = sig.parameters.length) (hstack : g.stack = argsL.reverse ++ .ref a :: rest) (hW : 2 * g.monitorRoom + (rest.map fun v => v.category).sum ≤ W) (hdg : decode c.code g.pc = .ok (.invokespecial index, 3))
    (hf : rm.frames + 1 ≤ R.frames) (hl : W + (ml + 11) + rm.locals ≤ R.locals) (hc : cells + rm.cells ≤ R.cells) (hs : slots + rm.slots ≤ R.slots) :
    ∃ v T' L, Stand p l e R s m args below meth c T' (locs ++ L) (cells + rm.cells) (slots + rm.slots) ∧ Q v T'.heap L ∧ ∀ target, Steps p.tables e below (T'.setTop { g with pc := g.pc + 3, stack := v.toList ++ rest }) target → Steps p.tables e below (T.setTop g) target := by
  obtain ⟨v, vm1, ⟨T1, L1, k1, n1⟩, -, X1, ⟨L, hQ, h1, h2, h3⟩, st⟩ := X.specialBack hx hy1 hown (mvT hZ w1) (mvT hZ w2) (mvT hZ w4) hy (backOf (W := W) ct hZ w4 w3 hf hl) hg hsize (Steps.refl _) hlen hstack hW hdg (fun _ _ => ⟨rfl, eT, hc, hs⟩)
  dsimp only [Pt.U, Pt.locs, Pt.cells, Pt.slots] at X1 h1 h2 h3 hQ st
  subst h1 h2 h3
  exact ⟨v, T1, L, X1, hQ, fun t k => st.trans k⟩
theorem own_callV {a : Addr} {C : String} (X : Stand p l e R s m args below meth c T locs cells slots) (hx : p.tables.exec = Jvm.exec) (hZ : Z.Warmed39 s.vm) (hown : s.vm.findClass own = some m.cls) (E : Exa Z h a C) {y0 : MethodName}
    (w1 : (Jvm.Cond.methodLink own index y0).before a0 Z = true) (w2 : (Jvm.Cond.declares y0).before a0 Z = true) (w5 : (Jvm.Cond.selects C y0 y).before a0 Z = true) (nf : NotFace s y0) (w6 : (Jvm.Cond.instanceMethod y).before a0 Z = true) (w3 : (Jvm.Cond.initialized y.cls).before a0 Z = true) (w4 : (Jvm.Cond.code y bytes ml rt).before a0 Z = true)
    (hy : y0.cls ≠ "java/lang/invoke/MethodHandle" ∧ y0.cls ≠ "java/lang/invoke/VarHandle") (ct : own_Ct l Z y bytes ml rt rm (.ref a :: argsL).toArray h Q) (eT : T.heap = h) (hg : g.method = m) (hsize : g.locals.size = c.maxLocals)
    (hlen : ∀ sig, parseMethodDescriptor y0.desc = some sig → argsL.length = sig.parameters.length) (hstack : g.stack = argsL.reverse ++ .ref a :: rest) (hW : 2 * g.monitorRoom + (rest.map fun v => v.category).sum ≤ W) (hdg : decode c.code g.pc = .ok (.invokevirtual index, 3))
    (hf : rm.frames + 1 ≤ R.frames) (hl : W + (ml + 11) + rm.locals ≤ R.locals) (hc : cells + rm.cells ≤ R.cells) (hs : slots + rm.slots ≤ R.slots) :
    ∃ v T' L, Stand p l e R s m args below meth c T' (locs ++ L) (cells + rm.cells) (slots + rm.slots) ∧ Q v T'.heap L ∧ ∀ target, Steps p.tables e below (T'.setTop { g with pc := g.pc + 3, stack := v.toList ++ rest }) target → Steps p.tables e below (T.setTop g) target := by
  obtain ⟨cq, kq, qa, qb, qc⟩ := isOf hZ eT E
  obtain ⟨v, vm1, ⟨T1, L1, k1, n1⟩, -, X1, ⟨L, hQ, h1, h2, h3⟩, st⟩ := X.virtualBack hx (y := y0) (z := y) hown (mvT hZ w1) (mvT hZ w2) nf (mvT hZ w5) (mvT hZ w6) hy (backOf (W := W) ct hZ w4 w3 hf hl) qa qc hg hsize (Steps.refl _) hlen hstack hW hdg (fun _ _ => ⟨rfl, eT, hc, hs⟩)
  dsimp only [Pt.U, Pt.locs, Pt.cells, Pt.slots] at X1 h1 h2 h3 hQ st
  subst h1 h2 h3
  exact ⟨v, T1, L, X1, hQ, fun t k => st.trans k⟩
theorem own_callP {a : Addr} {C C0 : String} {x z : MethodName} (X : Stand p l e R s m args below meth c T locs cells slots) (hx : p.tables.exec = Jvm.exec) (hZ : Z.Warmed39 s.vm) (hown : s.vm.findClass own = some m.cls) (E : Exa Z h a C0) (hz : z.cls = y.cls)
    (w1 : (Jvm.Cond.methodLink own index y).before a0 Z = true) (w2 : (Jvm.Cond.instanceMethod y).before a0 Z = true) (w5 : (Jvm.Cond.selects C x z).before a0 Z = true) (wp : (Jvm.Cond.privateMethod y).before a0 Z = true) (w3 : (Jvm.Cond.initialized y.cls).before a0 Z = true) (w4 : (Jvm.Cond.code y bytes ml rt).before a0 Z = true)
    (hy : y.cls ≠ "java/lang/invoke/MethodHandle" ∧ y.cls ≠ "java/lang/invoke/VarHandle") (ct : own_Ct l Z y bytes ml rt rm (.ref a :: argsL).toArray h Q) (eT : T.heap = h) (hg : g.method = m) (hsize : g.locals.size = c.maxLocals)
    (hlen : ∀ sig, parseMethodDescriptor y.desc = some sig → argsL.length = sig.parameters.length) (hstack : g.stack = argsL.reverse ++ .ref a :: rest) (hW : 2 * g.monitorRoom + (rest.map fun v => v.category).sum ≤ W) (hdg : decode c.code g.pc = .ok (.invokevirtual index, 3))
    (hf : rm.frames + 1 ≤ R.frames) (hl : W + (ml + 11) + rm.locals ≤ R.locals) (hc : cells + rm.cells ≤ R.cells) (hs : slots + rm.slots ≤ R.slots) :
    ∃ v T' L, Stand p l e R s m args below meth c T' (locs ++ L) (cells + rm.cells) (slots + rm.slots) ∧ Q v T'.heap L ∧ ∀ target, Steps p.tables e below (T'.setTop { g with pc := g.pc + 3, stack := v.toList ++ rest }) target → Steps p.tables e below (T.setTop g) target := by
  obtain ⟨cq, q1, q2⟩ := E.cell
  have hp : s.PrivateAt y := Cond.privateMethod_at (mvP hZ wp (args := #[]))
  have w5' : (Jvm.Cond.selects C x z).before args s = true := mvT hZ w5
  obtain ⟨c2, r2, m2, -, -, q3, -, kP, hkP, hkPi⟩ := Cond.selects_spec w5'
  have hcl : s.vm.findClass y.cls = some m2.cls := hz ▸ findClass_of_methodNamed q3
  have hsel : (Jvm.Cond.selects y.cls y y).before args s = true := selects_self_of_private hcl hkP hkPi hp (mvT hZ w2) hy
  obtain ⟨v, vm1, ⟨T1, L1, k1, n1⟩, -, X1, ⟨L, hQ, h1, h2, h3⟩, st⟩ := X.privateBack hx hown (mvT hZ w1) (mvT hZ w2) hsel hp (mvT hZ w4) hy (backOf (W := W) ct hZ w4 w3 hf hl) hg hsize (Steps.refl _) (a := a) (by rw [eT]; exact q1) q2 hlen hstack hW hdg (fun _ _ => ⟨rfl, eT, hc, hs⟩)
  dsimp only [Pt.U, Pt.locs, Pt.cells, Pt.slots] at X1 h1 h2 h3 hQ st
  subst h1 h2 h3
  exact ⟨v, T1, L, X1, hQ, fun t k => st.trans k⟩
theorem own_callF {a : Addr} {C : String} {count : Nat} (X : Stand p l e R s m args below meth c T locs cells slots) (hx : p.tables.exec = Jvm.exec) (hZ : Z.Warmed39 s.vm) (hown : s.vm.findClass own = some m.cls) (E : Exa Z h a C) {y0 : MethodName}
    (w1 : (Jvm.Cond.methodLink own index y0).before a0 Z = true) (w2 : (Jvm.Cond.declares y0).before a0 Z = true) (wf : (Jvm.Cond.interfaceMethod y0.cls y0.cls y0.name y0.desc).before args s = true) (w5 : (Jvm.Cond.selects C y0 y).before a0 Z = true) (w6 : (Jvm.Cond.instanceMethod y).before a0 Z = true) (wp : (Jvm.Cond.publicMethod y).before a0 Z = true) (wu : (Jvm.Cond.unhidden C y0.name y0.desc).before a0 Z = true) (wk : (Jvm.Cond.castable C y0.cls).before a0 Z = true) (w3 : (Jvm.Cond.initialized y.cls).before a0 Z = true) (w4 : (Jvm.Cond.code y bytes ml rt).before a0 Z = true)
    (hy : y0.cls ≠ "java/lang/invoke/MethodHandle" ∧ y0.cls ≠ "java/lang/invoke/VarHandle") (ct : own_Ct l Z y bytes ml rt rm (.ref a :: argsL).toArray h Q) (eT : T.heap = h) (hg : g.method = m) (hsize : g.locals.size = c.maxLocals)
    (hlen : ∀ sig, parseMethodDescriptor y0.desc = some sig → argsL.length = sig.parameters.length) (hstack : g.stack = argsL.reverse ++ .ref a :: rest) (hW : 2 * g.monitorRoom + (rest.map fun v => v.category).sum ≤ W) (hdg : decode c.code g.pc = .ok (.invokeinterface index count, 5))
    (hf : rm.frames + 1 ≤ R.frames) (hl : W + (ml + 11) + rm.locals ≤ R.locals) (hc : cells + rm.cells ≤ R.cells) (hs : slots + rm.slots ≤ R.slots) :
    ∃ v T' L, Stand p l e R s m args below meth c T' (locs ++ L) (cells + rm.cells) (slots + rm.slots) ∧ Q v T'.heap L ∧ ∀ target, Steps p.tables e below (T'.setTop { g with pc := g.pc + 5, stack := v.toList ++ rest }) target → Steps p.tables e below (T.setTop g) target := by
  obtain ⟨cq, kq, qa, qb, qc⟩ := isOf hZ eT E
  obtain ⟨v, vm1, ⟨T1, L1, k1, n1⟩, -, X1, ⟨L, hQ, h1, h2, h3⟩, st⟩ := X.interfaceBack hx (xi := y0) (y := y) hown (mvT hZ w1) (mvT hZ w2) wf (mvT hZ w5) (mvT hZ w6) (mvT hZ wp) (mvT hZ wu) (mvT hZ wk) hy (backOf (W := W) ct hZ w4 w3 hf hl) qa qb qc hg hsize (Steps.refl _) hlen hstack hW hdg (fun _ _ => ⟨rfl, eT, hc, hs⟩)
  dsimp only [Pt.U, Pt.locs, Pt.cells, Pt.slots] at X1 h1 h2 h3 hQ st
  subst h1 h2 h3
  exact ⟨v, T1, L, X1, hQ, fun t k => st.trans k⟩
end Call
/-- getfield by an entry that is resolved already -/
theorem own_getR {O n d : String} {a : Addr} {v : Value} (X : Stand p l e R s m args below meth c T locs cells slots) (hx : p.tables.exec = Jvm.exec) (hZ : Z.Warmed39 s.vm) {own : String} {index : Nat} (hown : s.vm.findClass own = some m.cls) (w : (Jvm.Cond.fieldRef own index O n d).before a0 Z = true) (eT : T.heap = h) (F : Fld Z h a O n d v)
    {g : JFrame} (hg : g.method = m) {rest : List Value} (hs : g.stack = .ref a :: rest) (hd : decode c.code g.pc = .ok (.getfield index, 3)) :
    ∀ t, Steps p.tables e below (T.setTop { g with pc := g.pc + 3, stack := v :: rest }) t → Steps p.tables e below (T.setTop g) t := by
  have hT : Z.Warmed39 T.vm := wtrans hZ X.warmed
  have w' := Cond.fieldRef_warmed39 hT w
  have hownT : (Z.setVm T.vm).vm.findClass own = some m.cls := by
    show T.vm.findClass own = _
    rw [X.warmed.alike.findClass]; exact hown
  obtain ⟨c1, k1, i1, f1, q1, q2⟩ := Cond.fieldRef_spec hownT w'
  obtain ⟨cell, cf, k, i, f, h1, h2, h3, h4, -, -, h7⟩ := F
  obtain ⟨k', hi, -⟩ := State.fieldFound?_setVm (s := Z) hT.alike h2
  cases q1.symm.trans hi
  exact fun t kt => (X.getfieldR hx hg q2 h3 hs (by rw [eT]; exact h1) h4 h7 hd (Steps.refl _)).trans kt
theorem own_Sta.keep {C n d : String} {v : Value} (S : Sta Z h C n d v) (K : Keep h h' []) : Sta Z h' C n d v := by
  obtain ⟨cf, i, k, f, st, cell, h1, h2, h3, h4, h5, h6, h7⟩ := S
  exact ⟨cf, i, k, f, st, cell, h1, h2, h3, h4, K.2.1 _ _ h5 nin0, h6, h7⟩
theorem own_imod (x y : Int32) : x - (x / y) * y = x % y := by
  apply Int32.toInt_inj.mp
  have h1 := rng32 (x % y)
  rw [Int32.toInt_sub, Int32.toInt_mul, Int32.toInt_div, Int.bmod_mul_bmod, Int.sub_bmod_bmod, Int.mul_comm (x.toInt.tdiv y.toInt), ← Int.tmod_def, ← Int32.toInt_mod]
  exact Int.bmod_eq_of_le_mul_two (by omega) (by omega)
theorem own_irem {T target : State} {g : JFrame} (h : At T m c below) (hx : p.tables.exec = Jvm.exec) (hg : g.method = m) {x y : Int32} {rest : List Value} (hd : decode c.code g.pc = .ok (.irem, 1)) (hs : g.stack = .int y :: .int x :: rest) (hy : y ≠ 0)
    (hr : Steps p.tables e below (T.setTop { g with pc := g.pc + 1, stack := .int (x % y) :: rest }) target) : Steps p.tables e below (T.setTop g) target := by
  refine XS.irem h hx hg hd hs hy ?_
  rw [own_imod x y]
  exact hr
section Cmp
theorem own_tltL {x y : Int64} (h : x < y) : ifCond.holds .lt (lcmpW x y) = true ∧ ifCond.holds .ge (lcmpW x y) = false := by
  rw [if0, if0]; exact ⟨(tlt ((lw_lt x y).mpr h)).1, (tlt ((lw_lt x y).mpr h)).2.1⟩
theorem own_fltL {x y : Int64} (h : ¬ x < y) : ifCond.holds .lt (lcmpW x y) = false ∧ ifCond.holds .ge (lcmpW x y) = true := by
  have q : ¬ lcmpW x y < 0 := fun q => h ((lw_lt x y).mp q)
  rw [if0, if0]; exact ⟨(flt q).1, (flt q).2.1⟩
theorem own_tgtL {x y : Int64} (h : y < x) : ifCond.holds .gt (lcmpW x y) = true ∧ ifCond.holds .le (lcmpW x y) = false := by
  rw [if0, if0]; exact ⟨(tlt ((lw_gt x y).mpr h)).2.2.1, (tlt ((lw_gt x y).mpr h)).2.2.2⟩
theorem own_fgtL {x y : Int64} (h : ¬ y < x) : ifCond.holds .gt (lcmpW x y) = false ∧ ifCond.holds .le (lcmpW x y) = true := by
  have q : ¬ 0 < lcmpW x y := fun q => h ((lw_gt x y).mp q)
  rw [if0, if0]; exact ⟨(flt q).2.2.1, (flt q).2.2.2⟩
theorem own_teqL {x y : Int64} (h : x = y) : ifCond.holds .eq (lcmpW x y) = true ∧ ifCond.holds .ne (lcmpW x y) = false := by
  rw [if0, if0]; exact ⟨(teq ((lw_eq x y).mpr h)).1, (teq ((lw_eq x y).mpr h)).2⟩
theorem own_feqL {x y : Int64} (h : ¬ x = y) : ifCond.holds .eq (lcmpW x y) = false ∧ ifCond.holds .ne (lcmpW x y) = true := by
  have q : ¬ lcmpW x y = 0 := fun q => h ((lw_eq x y).mp q)
  rw [if0, if0]; exact ⟨(feq q).1, (feq q).2⟩
end Cmp
/-- an array: its kind, its length, its values -/
def own_AV (Z : State) (h : Heap) (a : Addr) (ty : FieldType) (n : Nat) (f : Nat → Value) : Prop :=
  ∃ cl : Cell, Arr Z h a cl ty ∧ cl.slots.size = n ∧ (∀ i, i < n → cl.slots[i]? = some (f i)) ∧ ∀ i, i < n → fits ty (f i) = true
/-- an array of int-like values -/
def own_AI (Z : State) (h : Heap) (a : Addr) (ty : FieldType) (n : Nat) (f : Nat → Int32) : Prop := own_AV Z h a ty n (fun i => .int (f i))
def own_AL (Z : State) (h : Heap) (a : Addr) (n : Nat) (f : Nat → Int64) : Prop := own_AV Z h a .long n (fun i => .long (f i))
def own_updV (f : Nat → Value) (k : Nat) (v : Value) : Nat → Value := fun i => if i = k then v else f i
def own_upd (f : Nat → Int32) (k : Nat) (v : Int32) : Nat → Int32 := fun i => if i = k then v else f i
def own_updL (f : Nat → Int64) (k : Nat) (v : Int64) : Nat → Int64 := fun i => if i = k then v else f i
theorem own_idx {j : Int32} {k n : Nat} {cl : Cell} (S : cl.slots.size = n) (hj : j.toInt = (k : Int)) (hk : k < n) : ¬ (j < 0 ∨ cl.slots.size ≤ j.toNatClampNeg) ∧ j.toNatClampNeg = k := by
  have e0 : (0 : Int32).toInt = 0 := by decide
  have e1 : j.toNatClampNeg = k := by
    show j.toInt.toNat = k
    rw [hj]; rfl
  refine ⟨?_, e1⟩
  rintro (q | q)
  · rw [Int32.lt_iff_toInt_lt, e0, hj] at q; omega
  · rw [e1, S] at q; omega
section AV
variable {a b : Addr} {ty : FieldType} {n : Nat} {f : Nat → Value}
theorem own_AV.lt (A : own_AV Z h a ty n f) : a < h.size := by obtain ⟨cl, h1, -⟩ := A; exact h1.lt
theorem own_AV.ext (A : own_AV Z h a ty n f) (E : Ext h h') : own_AV Z h' a ty n f := by obtain ⟨cl, h1, r⟩ := A; exact ⟨cl, h1.ext E, r⟩
theorem own_AV.other (A : own_AV Z h b ty n f) {sl : Nat} {v : Value} (W : Wr h h' a sl v) (q : b ≠ a) : own_AV Z h' b ty n f := by obtain ⟨cl, h1, r⟩ := A; exact ⟨cl, h1.other W q, r⟩
theorem own_AV.keep {ws : List Addr} (A : own_AV Z h a ty n f) (K : Keep h h' ws) (q : a ∉ ws) : own_AV Z h' a ty n f := by obtain ⟨cl, h1, r⟩ := A; exact ⟨cl, ⟨K.2.1 a cl h1.1 q, h1.2⟩, r⟩
theorem own_AV.congr {g : Nat → Value} (A : own_AV Z h a ty n f) (q : ∀ i, i < n → f i = g i) : own_AV Z h a ty n g := by
  obtain ⟨cl, h1, h2, h3, h4⟩ := A
  exact ⟨cl, h1, h2, fun i hi => by rw [← q i hi]; exact h3 i hi, fun i hi => by rw [← q i hi]; exact h4 i hi⟩
theorem own_AV.new {cA : ClassId} {z : Int32} (A : Arr Z h a (newA cA ty z) ty) (hn : z.toNatClampNeg = n) (hf : fits ty (defaultValue ty) = true) : own_AV Z h a ty n (fun _ => defaultValue ty) :=
  ⟨_, A, by rw [sz_new, hn], fun i hi => by subst hn; simp only [newA, Array.getElem?_replicate, hi, if_true], fun _ _ => hf⟩
theorem own_AV.set {k : Nat} {v : Value} (F : own_AV Z h a ty n f) (hk : k < n) (hv : fits ty v = true) (W : Wr h h' a k v) : own_AV Z h' a ty n (own_updV f k v) := by
  obtain ⟨cl, A, S, H, G⟩ := F
  refine ⟨_, A.same W, by rw [sz_set, S], fun i hi => ?_, fun i hi => ?_⟩
  · by_cases q : i = k
    · subst q; simp [Cell.setSlot, own_updV, S, hk]
    · have q' : ¬ k = i := fun r => q r.symm
      simp only [Cell.setSlot, own_updV, q, if_false]
      rw [Array.getElem?_setIfInBounds_ne q']
      exact H i hi
  · by_cases q : i = k
    · simp only [own_updV, q, if_true]; exact hv
    · simp only [own_updV, q, if_false]; exact G i hi
end AV
section AI
variable {a b : Addr} {ty : FieldType} {n : Nat} {f : Nat → Int32}
theorem own_AI.lt (A : own_AI Z h a ty n f) : a < h.size := own_AV.lt A
theorem own_AI.ext (A : own_AI Z h a ty n f) (E : Ext h h') : own_AI Z h' a ty n f := own_AV.ext A E
theorem own_AI.other (A : own_AI Z h b ty n f) {sl : Nat} {v : Value} (W : Wr h h' a sl v) (q : b ≠ a) : own_AI Z h' b ty n f := own_AV.other A W q
theorem own_AI.keep {ws : List Addr} (A : own_AI Z h a ty n f) (K : Keep h h' ws) (q : a ∉ ws) : own_AI Z h' a ty n f := own_AV.keep A K q
theorem own_AI.congr {g : Nat → Int32} (A : own_AI Z h a ty n f) (q : ∀ i, i < n → f i = g i) : own_AI Z h a ty n g := own_AV.congr A fun i hi => congrArg Value.int (q i hi)
theorem own_AI.set {k : Nat} {v : Int32} (F : own_AI Z h a ty n f) (hk : k < n) (hv : fits ty (.int v) = true) (W : Wr h h' a k (.int v)) : own_AI Z h' a ty n (own_upd f k v) :=
  (own_AV.set F hk hv W).congr fun i _ => by
    by_cases q : i = k <;> simp [own_updV, own_upd, q]
end AI
section Rd
variable {a : Addr} {n k : Nat} {j : Int32} {g : JFrame} {rest : List Value}
theorem own_rdI {f : Nat → Int32} (X : Stand p l e R s m args below meth c T locs cells slots) (hx : p.tables.exec = Jvm.exec) (hZ : Z.Warmed39 s.vm) (eT : T.heap = h) (A : own_AI Z h a .int n f) (hj : j.toInt = (k : Int)) (hk : k < n) (hg : g.method = m) (hs : g.stack = .int j :: .ref a :: rest) (hd : decode c.code g.pc = .ok (.iaload, 1)) :
    ∀ t, Steps p.tables e below (T.setTop { g with pc := g.pc + 1, stack := .int (f k) :: rest }) t → Steps p.tables e below (T.setTop g) t := by
  obtain ⟨cl, A1, S, H, -⟩ := A
  obtain ⟨hin, e1⟩ := own_idx S hj hk
  exact X.iaload hx (by rw [eT]; exact A1.1) (State.isArrayOf_alike hZ.alike A1.2.1) A1.2.2 hin (by rw [e1]; exact H k hk) hg hs hd
theorem own_rdB {f : Nat → Int32} (X : Stand p l e R s m args below meth c T locs cells slots) (hx : p.tables.exec = Jvm.exec) (hZ : Z.Warmed39 s.vm) (eT : T.heap = h) (A : own_AI Z h a .byte n f) (hj : j.toInt = (k : Int)) (hk : k < n) (hg : g.method = m) (hs : g.stack = .int j :: .ref a :: rest) (hd : decode c.code g.pc = .ok (.baload, 1)) :
    ∀ t, Steps p.tables e below (T.setTop { g with pc := g.pc + 1, stack := .int (f k) :: rest }) t → Steps p.tables e below (T.setTop g) t := by
  obtain ⟨cl, A1, S, H, -⟩ := A
  obtain ⟨hin, e1⟩ := own_idx S hj hk
  exact X.baloadBytes hx (by rw [eT]; exact A1.1) (State.isArrayOf_alike hZ.alike A1.2.1) A1.2.2 hin (by rw [e1]; exact H k hk) hg hs hd
theorem own_rdZ {f : Nat → Int32} (X : Stand p l e R s m args below meth c T locs cells slots) (hx : p.tables.exec = Jvm.exec) (hZ : Z.Warmed39 s.vm) (eT : T.heap = h) (A : own_AI Z h a .boolean n f) (hj : j.toInt = (k : Int)) (hk : k < n) (hg : g.method = m) (hs : g.stack = .int j :: .ref a :: rest) (hd : decode c.code g.pc = .ok (.baload, 1)) :
    ∀ t, Steps p.tables e below (T.setTop { g with pc := g.pc + 1, stack := .int (f k) :: rest }) t → Steps p.tables e below (T.setTop g) t := by
  obtain ⟨cl, A1, S, H, -⟩ := A
  obtain ⟨hin, e1⟩ := own_idx S hj hk
  exact X.baloadBooleans hx (by rw [eT]; exact A1.1) (State.isArrayOf_alike hZ.alike A1.2.1) A1.2.2 hin (by rw [e1]; exact H k hk) hg hs hd
theorem own_rdC {f : Nat → Int32} (X : Stand p l e R s m args below meth c T locs cells slots) (hx : p.tables.exec = Jvm.exec) (hZ : Z.Warmed39 s.vm) (eT : T.heap = h) (A : own_AI Z h a .char n f) (hj : j.toInt = (k : Int)) (hk : k < n) (hg : g.method = m) (hs : g.stack = .int j :: .ref a :: rest) (hd : decode c.code g.pc = .ok (.caload, 1)) :
    ∀ t, Steps p.tables e below (T.setTop { g with pc := g.pc + 1, stack := .int (f k) :: rest }) t → Steps p.tables e below (T.setTop g) t := by
  obtain ⟨cl, A1, S, H, -⟩ := A
  obtain ⟨hin, e1⟩ := own_idx S hj hk
  exact X.caload hx (by rw [eT]; exact A1.1) (State.isArrayOf_alike hZ.alike A1.2.1) A1.2.2 hin (by rw [e1]; exact H k hk) hg hs hd
theorem own_wrC {f : Nat → Int32} {x : Int32} (X : Stand p l e R s m args below meth c T locs cells slots) (hx : p.tables.exec = Jvm.exec) (hZ : Z.Warmed39 s.vm) (eT : T.heap = h) (A : own_AI Z h a .char n f) (hj : j.toInt = (k : Int)) (hk : k < n) (hg : g.method = m) (hs : g.stack = .int x :: .int j :: .ref a :: rest) (hd : decode c.code g.pc = .ok (.castore, 1)) :
    ∃ T' h', Stand p l e R s m args below meth c T' (locs ++ [⟨a, k⟩]) cells slots ∧ T'.heap = h' ∧ Wr h h' a k (.int (nar .char x)) ∧ own_AI Z h' a .char n (own_upd f k (nar .char x)) ∧ ∀ t, Steps p.tables e below (T'.setTop { g with pc := g.pc + 1, stack := rest }) t → Steps p.tables e below (T.setTop g) t := by
  have A0 := A
  obtain ⟨cl, A1, S, H, -⟩ := A
  obtain ⟨hin, e1⟩ := own_idx S hj hk
  obtain ⟨T', h', X', e', W', st⟩ := stC X hx hZ eT A1 hin hg hs hd
  rw [e1] at X' W'
  exact ⟨T', h', X', e', W', A0.set hk (fits_nar_char x) W', st⟩
theorem own_rdL {f : Nat → Int64} (X : Stand p l e R s m args below meth c T locs cells slots) (hx : p.tables.exec = Jvm.exec) (hZ : Z.Warmed39 s.vm) (eT : T.heap = h) (A : own_AL Z h a n f) (hj : j.toInt = (k : Int)) (hk : k < n) (hg : g.method = m) (hs : g.stack = .int j :: .ref a :: rest) (hd : decode c.code g.pc = .ok (.laload, 1)) :
    ∀ t, Steps p.tables e below (T.setTop { g with pc := g.pc + 1, stack := .long (f k) :: rest }) t → Steps p.tables e below (T.setTop g) t := by
  obtain ⟨cl, A1, S, H, -⟩ := A
  obtain ⟨hin, e1⟩ := own_idx S hj hk
  exact X.laload hx (by rw [eT]; exact A1.1) (State.isArrayOf_alike hZ.alike A1.2.1) A1.2.2 hin (by rw [e1]; exact H k hk) hg hs hd
theorem own_rdR {f : Nat → Value} {ty : FieldType} (X : Stand p l e R s m args below meth c T locs cells slots) (hx : p.tables.exec = Jvm.exec) (hZ : Z.Warmed39 s.vm) (eT : T.heap = h) (A : own_AV Z h a ty n f) (ht : ty.isReference = true) (hj : j.toInt = (k : Int)) (hk : k < n) (hg : g.method = m) (hs : g.stack = .int j :: .ref a :: rest) (hd : decode c.code g.pc = .ok (.aaload, 1)) :
    ∀ t, Steps p.tables e below (T.setTop { g with pc := g.pc + 1, stack := f k :: rest }) t → Steps p.tables e below (T.setTop g) t := by
  obtain ⟨cl, A1, S, H, -⟩ := A
  obtain ⟨hin, e1⟩ := own_idx S hj hk
  exact X.aaload hx (by rw [eT]; exact A1.1) (State.isArrayOf_alike hZ.alike A1.2.1) ht A1.2.2 hin (by rw [e1]; exact H k hk) hg hs hd
theorem own_len {f : Nat → Value} {ty : FieldType} {z : Int32} (X : Stand p l e R s m args below meth c T locs cells slots) (hx : p.tables.exec = Jvm.exec) (hZ : Z.Warmed39 s.vm) (eT : T.heap = h) (A : own_AV Z h a ty n f) (hz : n.toInt32 = z) (hg : g.method = m) (hs : g.stack = .ref a :: rest) (hd : decode c.code g.pc = .ok (.arraylength, 1)) :
    ∀ t, Steps p.tables e below (T.setTop { g with pc := g.pc + 1, stack := .int z :: rest }) t → Steps p.tables e below (T.setTop g) t := by
  obtain ⟨cl, A1, S, -, -⟩ := A
  subst hz S
  exact X.arraylength hx (by rw [eT]; exact A1.1) (State.isArrayOf_alike hZ.alike A1.2.1) hg hs hd
theorem own_wrI {f : Nat → Int32} {x : Int32} (X : Stand p l e R s m args below meth c T locs cells slots) (hx : p.tables.exec = Jvm.exec) (hZ : Z.Warmed39 s.vm) (eT : T.heap = h) (A : own_AI Z h a .int n f) (hj : j.toInt = (k : Int)) (hk : k < n) (hg : g.method = m) (hs : g.stack = .int x :: .int j :: .ref a :: rest) (hd : decode c.code g.pc = .ok (.iastore, 1)) :
    ∃ T' h', Stand p l e R s m args below meth c T' (locs ++ [⟨a, k⟩]) cells slots ∧ T'.heap = h' ∧ Wr h h' a k (.int x) ∧ own_AI Z h' a .int n (own_upd f k x) ∧ ∀ t, Steps p.tables e below (T'.setTop { g with pc := g.pc + 1, stack := rest }) t → Steps p.tables e below (T.setTop g) t := by
  have A0 := A
  obtain ⟨cl, A1, S, H, -⟩ := A
  obtain ⟨hin, e1⟩ := own_idx S hj hk
  obtain ⟨T', h', X', e', W', st⟩ := stI X hx hZ eT A1 hin hg hs hd
  rw [e1] at X' W'
  exact ⟨T', h', X', e', W', A0.set hk rfl W', st⟩
theorem own_wrB {f : Nat → Int32} {x : Int32} (X : Stand p l e R s m args below meth c T locs cells slots) (hx : p.tables.exec = Jvm.exec) (hZ : Z.Warmed39 s.vm) (eT : T.heap = h) (A : own_AI Z h a .byte n f) (hj : j.toInt = (k : Int)) (hk : k < n) (hg : g.method = m) (hs : g.stack = .int x :: .int j :: .ref a :: rest) (hd : decode c.code g.pc = .ok (.bastore, 1)) :
    ∃ T' h', Stand p l e R s m args below meth c T' (locs ++ [⟨a, k⟩]) cells slots ∧ T'.heap = h' ∧ Wr h h' a k (.int (nar .byte x)) ∧ own_AI Z h' a .byte n (own_upd f k (nar .byte x)) ∧ ∀ t, Steps p.tables e below (T'.setTop { g with pc := g.pc + 1, stack := rest }) t → Steps p.tables e below (T.setTop g) t := by
  have A0 := A
  obtain ⟨cl, A1, S, H, -⟩ := A
  obtain ⟨hin, e1⟩ := own_idx S hj hk
  obtain ⟨T', h', X', e', W', st⟩ := stB X hx hZ eT A1 hin hg hs hd
  rw [e1] at X' W'
  exact ⟨T', h', X', e', W', A0.set hk (fits_nar_byte x) W', st⟩
theorem own_wrZ {f : Nat → Int32} {x : Int32} (X : Stand p l e R s m args below meth c T locs cells slots) (hx : p.tables.exec = Jvm.exec) (hZ : Z.Warmed39 s.vm) (eT : T.heap = h) (A : own_AI Z h a .boolean n f) (hj : j.toInt = (k : Int)) (hk : k < n) (hg : g.method = m) (hs : g.stack = .int x :: .int j :: .ref a :: rest) (hd : decode c.code g.pc = .ok (.bastore, 1)) :
    ∃ T' h', Stand p l e R s m args below meth c T' (locs ++ [⟨a, k⟩]) cells slots ∧ T'.heap = h' ∧ Wr h h' a k (.int (nar .boolean x)) ∧ own_AI Z h' a .boolean n (own_upd f k (nar .boolean x)) ∧ ∀ t, Steps p.tables e below (T'.setTop { g with pc := g.pc + 1, stack := rest }) t → Steps p.tables e below (T.setTop g) t := by
  have A0 := A
  obtain ⟨cl, A1, S, H, -⟩ := A
  obtain ⟨hin, e1⟩ := own_idx S hj hk
  obtain ⟨T', h', X', e', W', st⟩ := stZ X hx hZ eT A1 hin hg hs hd
  rw [e1] at X' W'
  exact ⟨T', h', X', e', W', A0.set hk (fits_nar_bool x) W', st⟩
theorem own_wrL {f : Nat → Int64} {x : Int64} (X : Stand p l e R s m args below meth c T locs cells slots) (hx : p.tables.exec = Jvm.exec) (hZ : Z.Warmed39 s.vm) (eT : T.heap = h) (A : own_AL Z h a n f) (hj : j.toInt = (k : Int)) (hk : k < n) (hg : g.method = m) (hs : g.stack = .long x :: .int j :: .ref a :: rest) (hd : decode c.code g.pc = .ok (.lastore, 1)) :
    ∃ T' h', Stand p l e R s m args below meth c T' (locs ++ [⟨a, k⟩]) cells slots ∧ T'.heap = h' ∧ Wr h h' a k (.long x) ∧ own_AL Z h' a n (own_updL f k x) ∧ ∀ t, Steps p.tables e below (T'.setTop { g with pc := g.pc + 1, stack := rest }) t → Steps p.tables e below (T.setTop g) t := by
  have A0 := A
  obtain ⟨cl, A1, S, H, -⟩ := A
  obtain ⟨hin, e1⟩ := own_idx S hj hk
  obtain ⟨T', h', X', e', W', st⟩ := stJ X hx hZ eT A1 hin hg hs hd
  rw [e1] at X' W'
  exact ⟨T', h', X', e', W', (own_AV.set A0 hk rfl W').congr fun i _ => by by_cases q : i = k <;> simp [own_updV, own_updL, q], st⟩
theorem own_wrR {f : Nat → Value} {ty : FieldType} {v : Value} (X : Stand p l e R s m args below meth c T locs cells slots) (hx : p.tables.exec = Jvm.exec) (hZ : Z.Warmed39 s.vm) (eT : T.heap = h) (A : own_AV Z h a ty n f) (ht : ty.isReference = true) (hv : fits ty v = true) (F : Sto Z h a v) (hj : j.toInt = (k : Int)) (hk : k < n) (hg : g.method = m) (hs : g.stack = v :: .int j :: .ref a :: rest) (hd : decode c.code g.pc = .ok (.aastore, 1)) :
    ∃ T' h', Stand p l e R s m args below meth c T' (locs ++ [⟨a, k⟩]) cells slots ∧ T'.heap = h' ∧ Wr h h' a k v ∧ own_AV Z h' a ty n (own_updV f k v) ∧ ∀ t, Steps p.tables e below (T'.setTop { g with pc := g.pc + 1, stack := rest }) t → Steps p.tables e below (T.setTop g) t := by
  have A0 := A
  obtain ⟨cl, A1, S, H, -⟩ := A
  obtain ⟨hin, e1⟩ := own_idx S hj hk
  obtain ⟨T', h', X', e', W', st⟩ := stR X hx hZ eT A1 hin ht F hg hs hd
  rw [e1] at X' W'
  exact ⟨T', h', X', e', W', A0.set hk hv W', st⟩
/-- newarray: the fresh array at a = the heap's old size -/
theorem own_newP {aty : ArrayType} {z : Int32} (X : Stand p l e R s m args below meth c T locs cells slots) (hx : p.tables.exec = Jvm.exec) (hZ : Z.Warmed39 s.vm) (w : (Jvm.Cond.arrayClass (newarray.typeOf aty)).before a0 Z = true) (eT : T.heap = h) (hz : z.toInt = (n : Int)) (hf : fits (newarray.typeOf aty) (defaultValue (newarray.typeOf aty)) = true) (hg : g.method = m) (hs : g.stack = .int z :: rest) (hd : decode c.code g.pc = .ok (.newarray aty, 2)) {cap : Nat} (hcap : n ≤ cap) (hb : cap * 8 ≤ 536870912) (hc : cells + 1 ≤ R.cells) (hl : slots + cap ≤ R.slots) :
    ∃ T' h' a, a = h.size ∧ Stand p l e R s m args below meth c T' locs (cells + 1) (slots + cap) ∧ T'.heap = h' ∧ Ext h h' ∧ own_AV Z h' a (newarray.typeOf aty) n (fun _ => defaultValue (newarray.typeOf aty)) ∧ ∀ t, Steps p.tables e below (T'.setTop { g with pc := g.pc + 2, stack := .ref a :: rest }) t → Steps p.tables e below (T.setTop g) t := by
  have e0 : (0 : Int32).toInt = 0 := by decide
  have e1 : z.toNatClampNeg = n := by show z.toInt.toNat = n; rw [hz]; rfl
  have hn : ¬ z < 0 := by rw [Int32.lt_iff_toInt_lt, e0, hz]; omega
  obtain ⟨T', h', cA, X', e', E', A', st⟩ := newP X hx hZ w eT hg hd hs hn (by rw [e1]; exact hcap) hb hc hl
  exact ⟨T', h', _, rfl, X', e', E', own_AV.new A' e1 hf, st⟩
/-- newarray: the fresh array, its class besides -/
theorem own_newPE {aty : ArrayType} {z : Int32} (X : Stand p l e R s m args below meth c T locs cells slots) (hx : p.tables.exec = Jvm.exec) (hZ : Z.Warmed39 s.vm) (w : (Jvm.Cond.arrayClass (newarray.typeOf aty)).before a0 Z = true) (eT : T.heap = h) (hz : z.toInt = (n : Int)) (hf : fits (newarray.typeOf aty) (defaultValue (newarray.typeOf aty)) = true) (hg : g.method = m) (hs : g.stack = .int z :: rest) (hd : decode c.code g.pc = .ok (.newarray aty, 2)) {cap : Nat} (hcap : n ≤ cap) (hb : cap * 8 ≤ 536870912) (hc : cells + 1 ≤ R.cells) (hl : slots + cap ≤ R.slots) {ad : String} (had : "[" ++ (newarray.typeOf aty).toString = ad) :
    ∃ T' h' a, a = h.size ∧ Stand p l e R s m args below meth c T' locs (cells + 1) (slots + cap) ∧ T'.heap = h' ∧ Ext h h' ∧ own_AV Z h' a (newarray.typeOf aty) n (fun _ => defaultValue (newarray.typeOf aty)) ∧ Exa Z h' a ad ∧ ∀ t, Steps p.tables e below (T'.setTop { g with pc := g.pc + 2, stack := .ref a :: rest }) t → Steps p.tables e below (T.setTop g) t := by
  have e0 : (0 : Int32).toInt = 0 := by decide
  have e1 : z.toNatClampNeg = n := by show z.toInt.toNat = n; rw [hz]; rfl
  have hn : ¬ z < 0 := by rw [Int32.lt_iff_toInt_lt, e0, hz]; omega
  obtain ⟨T', h', cA, X', e', E', A', E2, st⟩ := newPE X hx hZ w eT hg hd hs hn (by rw [e1]; exact hcap) hb hc hl had
  exact ⟨T', h', _, rfl, X', e', E', own_AV.new A' e1 hf, E2, st⟩
/-- anewarray: the fresh array of references, all null; what may lie in it -/
theorem own_newR {C : String} {z : Int32} {own : String} {index : Nat} (X : Stand p l e R s m args below meth c T locs cells slots) (hx : p.tables.exec = Jvm.exec) (hZ : Z.Warmed39 s.vm) (hown : s.vm.findClass own = some m.cls) (w1 : (Jvm.Cond.classLink own index C).before a0 Z = true) (w2 : (Jvm.Cond.arrayOver (.object C)).before a0 Z = true) (eT : T.heap = h) (hz : z.toInt = (n : Int)) (hg : g.method = m) (hs : g.stack = .int z :: rest) (hd : decode c.code g.pc = .ok (.anewarray index, 3)) {cap : Nat} (hcap : n ≤ cap) (hb : cap * 8 ≤ 536870912) (hc : cells + 1 ≤ R.cells) (hl : slots + cap ≤ R.slots) :
    ∃ T' h' a, a = h.size ∧ Stand p l e R s m args below meth c T' locs (cells + 1) (slots + cap) ∧ T'.heap = h' ∧ Ext h h' ∧ own_AV Z h' a (.object C) n (fun _ => .null) ∧ (∃ cl : Cell, h'[a]? = some cl ∧ Ovr Z cl.cls C) ∧ ∀ t, Steps p.tables e below (T'.setTop { g with pc := g.pc + 3, stack := .ref a :: rest }) t → Steps p.tables e below (T.setTop g) t := by
  have e0 : (0 : Int32).toInt = 0 := by decide
  have e1 : z.toNatClampNeg = n := by show z.toInt.toNat = n; rw [hz]; rfl
  have hn : ¬ z < 0 := by rw [Int32.lt_iff_toInt_lt, e0, hz]; omega
  obtain ⟨T', h', cA, X', e', E', A', O', st⟩ := newR X hx hZ hown w1 w2 eT hg hd hs hn (by rw [e1]; exact hcap) hb hc hl
  exact ⟨T', h', _, rfl, X', e', E', own_AV.new A' e1 rfl, ⟨_, A'.1, O'⟩, st⟩
/-- the array over class C at a takes an object of C -/
def own_Ov (Z : State) (h : Heap) (a : Addr) (C : String) : Prop := ∃ cl : Cell, h[a]? = some cl ∧ Ovr Z cl.cls C
theorem own_Ov.keep {a : Addr} {C : String} {ws : List Addr} (O : own_Ov Z h a C) (K : Keep h h' ws) : own_Ov Z h' a C := by
  obtain ⟨cl, h1, h2⟩ := O
  obtain ⟨c', q1, q2, -, -⟩ := K.2.2 a cl h1
  exact ⟨c', q1, by rw [q2]; exact h2⟩
theorem own_Ov.sto {a y : Addr} {C : String} {ty : FieldType} {f : Nat → Value} (O : own_Ov Z h a C) (A : own_AV Z h a ty n f) (I : Ins Z h y C true) : Sto Z h a (.ref y) := by
  obtain ⟨cl, h1, h2⟩ := O
  obtain ⟨c2, A2, -⟩ := A
  cases h1.symm.trans A2.1
  exact Sto.of A2 h2 I
/-- clone() of an array -/
theorem own_clone {own ad : String} {index : Nat} {ty : FieldType} {f : Nat → Value} (X : Stand p l e R s m args below meth c T locs cells slots) (hx : p.tables.exec = Jvm.exec) (hZ : Z.Warmed39 s.vm) (hown : s.vm.findClass own = some m.cls)
    (w1 : (Jvm.Cond.methodLink own index ⟨ad, "clone", "()Ljava/lang/Object;"⟩).before a0 Z = true) (w2 : (Jvm.Cond.sameMethod ad "java/lang/Object" "clone" "()Ljava/lang/Object;").before a0 Z = true) (w3 : (Jvm.Cond.native ⟨"java/lang/Object", "clone", "()Ljava/lang/Object;"⟩).before a0 Z = true)
    (w4 : (Jvm.Cond.instanceMethod ⟨"java/lang/Object", "clone", "()Ljava/lang/Object;"⟩).before a0 Z = true) (w5 : (Jvm.Cond.selects ad ⟨ad, "clone", "()Ljava/lang/Object;"⟩ ⟨"java/lang/Object", "clone", "()Ljava/lang/Object;"⟩).before a0 Z = true) (w6 : (Jvm.Cond.castable ad "java/lang/Cloneable").before a0 Z = true)
    (eT : T.heap = h) (A : own_AV Z h a ty n f) (E : Exa Z h a ad) (hg : g.method = m) (hsize : g.locals.size = c.maxLocals) (hs : g.stack = .ref a :: rest) (hd : decode c.code g.pc = .ok (.invokevirtual index, 3))
    (hf : 1 ≤ R.frames) {W : Nat} (hW : 2 * g.monitorRoom + (rest.map fun v => v.category).sum ≤ W) (hl : W + 14 ≤ R.locals) (hc : cells + 1 ≤ R.cells) (hsl : slots + n ≤ R.slots) :
    ∃ T' h' b, b = h.size ∧ Stand p l e R s m args below meth c T' locs (cells + 1) (slots + n) ∧ T'.heap = h' ∧ Ext h h' ∧ own_AV Z h' b ty n f ∧ Exa Z h' b ad ∧ ∀ t, Steps p.tables e below (T'.setTop { g with pc := g.pc + 3, stack := .ref b :: rest }) t → Steps p.tables e below (T.setTop g) t := by
  obtain ⟨cl, A1, S, H, G⟩ := A
  have F : FitC Z cl := fitC_of A1 fun i hi v hv => by
    rw [S] at hi
    rw [H i hi] at hv
    cases hv
    exact G i hi
  obtain ⟨T', h', X', e', E', A', E2, st⟩ := cloneA X hx hZ hown w1 w2 w3 w4 w5 w6 eT A1 E F hg hsize hs hd hf hW hl (Nat.le_of_eq S) hc hsl
  exact ⟨T', h', _, rfl, X', e', E', ⟨_, A', S, H, G⟩, E2, st⟩
end Rd
end Own
end Jvm.RoadKit
namespace Jvm.Pilot.@@N@@
open Jvm Jvm.ClassFile Sem Op Lib Jvm.Free Jvm.Stand Jvm.LawKit Jvm.RoadKit Bundle Jvm.Pilot.@@N@@.Jvm.D
theorem own_d2_0 : decode prog_29_method_3_code 0 = .ok (.iload_n 0, 1) := by decide +kernel
theorem own_d2_1 : decode prog_29_method_3_code 1 = .ok (.bipush 97, 2) := by decide +kernel
theorem own_d2_3 : decode prog_29_method_3_code 3 = .ok (.if_icmp .lt 9, 3) := by decide +kernel
theorem own_d2_6 : decode prog_29_method_3_code 6 = .ok (.iload_n 0, 1) := by decide +kernel
theorem own_d2_7 : decode prog_29_method_3_code 7 = .ok (.bipush 122, 2) := by decide +kernel
theorem own_d2_9 : decode prog_29_method_3_code 9 = .ok (.if_icmp .le 27, 3) := by decide +kernel
theorem own_d2_12 : decode prog_29_method_3_code 12 = .ok (.iload_n 0, 1) := by decide +kernel
theorem own_d2_13 : decode prog_29_method_3_code 13 = .ok (.bipush 65, 2) := by decide +kernel
theorem own_d2_15 : decode prog_29_method_3_code 15 = .ok (.if_icmp .lt 9, 3) := by decide +kernel
theorem own_d2_18 : decode prog_29_method_3_code 18 = .ok (.iload_n 0, 1) := by decide +kernel
theorem own_d2_19 : decode prog_29_method_3_code 19 = .ok (.bipush 90, 2) := by decide +kernel
theorem own_d2_21 : decode prog_29_method_3_code 21 = .ok (.if_icmp .le 15, 3) := by decide +kernel
theorem own_d2_24 : decode prog_29_method_3_code 24 = .ok (.iload_n 0, 1) := by decide +kernel
theorem own_d2_25 : decode prog_29_method_3_code 25 = .ok (.bipush 48, 2) := by decide +kernel
theorem own_d2_27 : decode prog_29_method_3_code 27 = .ok (.if_icmp .lt 13, 3) := by decide +kernel
theorem own_d2_30 : decode prog_29_method_3_code 30 = .ok (.iload_n 0, 1) := by decide +kernel
theorem own_d2_31 : decode prog_29_method_3_code 31 = .ok (.bipush 57, 2) := by decide +kernel
theorem own_d2_33 : decode prog_29_method_3_code 33 = .ok (.if_icmp .gt 7, 3) := by decide +kernel
theorem own_d2_36 : decode prog_29_method_3_code 36 = .ok (.iconst 1, 1) := by decide +kernel
theorem own_d2_37 : decode prog_29_method_3_code 37 = .ok (.goto 4, 3) := by decide +kernel
theorem own_d2_40 : decode prog_29_method_3_code 40 = .ok (.iconst 0, 1) := by decide +kernel
theorem own_d2_41 : decode prog_29_method_3_code 41 = .ok (.ireturn, 1) := by decide +kernel
def own_aln (x : Int32) : Int32 := (if x < (97 : Int32) then (if x < (65 : Int32) then (if x < (48 : Int32) then (0 : Int32) else (if (57 : Int32) < x then (0 : Int32) else (1 : Int32))) else (if (90 : Int32) < x then (if x < (48 : Int32) then (0 : Int32) else (if (57 : Int32) < x then (0 : Int32) else (1 : Int32))) else (1 : Int32))) else (if (122 : Int32) < x then (if x < (65 : Int32) then (if x < (48 : Int32) then (0 : Int32) else (if (57 : Int32) < x then (0 : Int32) else (1 : Int32))) else (if (90 : Int32) < x then (if x < (48 : Int32) then (0 : Int32) else (if (57 : Int32) < x then (0 : Int32) else (1 : Int32))) else (1 : Int32))) else (1 : Int32)))
theorem own_aln01 (x : Int32) : own_aln x = 0 ∨ own_aln x = 1 := by
  unfold own_aln; repeat' (first | exact Or.inl rfl | exact Or.inr rfl | split)
theorem own_pn0 : plainName "dev/countersign/core/HttpSyntax" = true := by first | (simp [plainName, overriddenIn]; done) | decide +kernel
theorem own_efaln (m : MethodId) (x : Int32) : entryFrame m #[(.int x)] 1 = mkF m 0 #[iv x] [] := by first | (simp [entryFrame, mkF, argsToLocals, Value.category]; done) | rfl
set_option maxRecDepth 65536 in
set_option maxHeartbeats 40000000 in
theorem own_rmaln (l : Launch) (Z : State) (a0 : Array Value) (hw : ∀ d ∈ tables_1, d.before a0 Z = true) (x : Int32) (h0 : Heap) (n0 : Nat) (Z0 : n0 ≤ h0.size) :
    own_Ct l Z (⟨"dev/countersign/core/HttpSyntax", "isAlphanumeric", "(I)Z"⟩ : MethodName) prog_29_method_3_code 1 (some .boolean) ({ frames := 0, cells := 0, slots := 0, locals := 0 } : Room) #[(.int x)] h0 (fun v h L => v = some (.int (own_aln x)) ∧ Fr n0 L ∧ h = h0) := by
  refine own_body (y := (⟨"dev/countersign/core/HttpSyntax", "isAlphanumeric", "(I)Z"⟩ : MethodName)) (Q := fun v h L => v = some (.int (own_aln x)) ∧ Fr n0 L ∧ h = h0) (plainFor_of_name own_pn0) ?_
  intro p e s m below meth c s₁ Bd hml0 hZ e0
  have hx := Bd.exec
  have hby := Bd.bytes
  have hml : c.maxLocals = 1 := hml0
  have hown : s.vm.findClass "dev/countersign/core/HttpSyntax" = some m.cls := findClass_of_methodNamed Bd.named
  have hnm := (name_of_methodNamed Bd.named Bd.method).1
  have X0 : Stand p l e ({ frames := 0, cells := 0, slots := 0, locals := 0 } : Room) s m #[(.int x)] below meth c s₁ [] 0 0 := Stand.of_body Bd
  have N0 := Fr.nil n0
  rw [own_efaln]
  obtain ⟨r, hr⟩ : ∃ z : Int32, z = (if x < (97 : Int32) then (if x < (65 : Int32) then (if x < (48 : Int32) then (0 : Int32) else (if (57 : Int32) < x then (0 : Int32) else (1 : Int32))) else (if (90 : Int32) < x then (if x < (48 : Int32) then (0 : Int32) else (if (57 : Int32) < x then (0 : Int32) else (1 : Int32))) else (1 : Int32))) else (if (122 : Int32) < x then (if x < (65 : Int32) then (if x < (48 : Int32) then (0 : Int32) else (if (57 : Int32) < x then (0 : Int32) else (1 : Int32))) else (if (90 : Int32) < x then (if x < (48 : Int32) then (0 : Int32) else (if (57 : Int32) < x then (0 : Int32) else (1 : Int32))) else (1 : Int32))) else (1 : Int32))) := ⟨_, rfl⟩
  have sg15 : own_V p e below s₁ (mkF m 41 #[iv x] [(.int r)]) (mkF m 0 #[iv x] []) := by
    intro t kt
    refine XS.iloadN X0.here hx rfl (hb hby own_d2_0) rfl ?_
    show own_S p e below s₁ m 1 #[iv x] [(.int x)] _
    refine XS.bipush X0.here hx rfl (hb hby own_d2_1) ?_
    show own_S p e below s₁ m 3 #[iv x] [(.int (97 : Int32)), (.int x)] _
    by_cases hc1 : x < (97 : Int32)
    · refine XS.icmpYes X0.here hx rfl (pc0 := 3) (pc' := 12) rfl (hb hby own_d2_3) rfl (tlt hc1).1 (by decide) (by decide) ?_
      show own_S p e below s₁ m 12 #[iv x] [] _
      refine XS.iloadN X0.here hx rfl (hb hby own_d2_12) rfl ?_
      show own_S p e below s₁ m 13 #[iv x] [(.int x)] _
      refine XS.bipush X0.here hx rfl (hb hby own_d2_13) ?_
      show own_S p e below s₁ m 15 #[iv x] [(.int (65 : Int32)), (.int x)] _
      by_cases hc2 : x < (65 : Int32)
      · refine XS.icmpYes X0.here hx rfl (pc0 := 15) (pc' := 24) rfl (hb hby own_d2_15) rfl (tlt hc2).1 (by decide) (by decide) ?_
        show own_S p e below s₁ m 24 #[iv x] [] _
        refine XS.iloadN X0.here hx rfl (hb hby own_d2_24) rfl ?_
        show own_S p e below s₁ m 25 #[iv x] [(.int x)] _
        refine XS.bipush X0.here hx rfl (hb hby own_d2_25) ?_
        show own_S p e below s₁ m 27 #[iv x] [(.int (48 : Int32)), (.int x)] _
        by_cases hc3 : x < (48 : Int32)
        · refine XS.icmpYes X0.here hx rfl (pc0 := 27) (pc' := 40) rfl (hb hby own_d2_27) rfl (tlt hc3).1 (by decide) (by decide) ?_
          show own_S p e below s₁ m 40 #[iv x] [] _
          refine XS.iconst X0.here hx rfl (hb hby own_d2_40) ?_
          show own_S p e below s₁ m 41 #[iv x] [(.int (0 : Int32))] _
          rw [show r = (0 : Int32) from by rw [hr, if_pos hc1, if_pos hc2, if_pos hc3]] at kt
          exact kt
        · refine XS.icmpNo X0.here hx rfl (hb hby own_d2_27) rfl (flt hc3).1 ?_
          show own_S p e below s₁ m 30 #[iv x] [] _
          refine XS.iloadN X0.here hx rfl (hb hby own_d2_30) rfl ?_
          show own_S p e below s₁ m 31 #[iv x] [(.int x)] _
          refine XS.bipush X0.here hx rfl (hb hby own_d2_31) ?_
          show own_S p e below s₁ m 33 #[iv x] [(.int (57 : Int32)), (.int x)] _
          by_cases hc4 : (57 : Int32) < x
          · refine XS.icmpYes X0.here hx rfl (pc0 := 33) (pc' := 40) rfl (hb hby own_d2_33) rfl (tlt hc4).2.2.1 (by decide) (by decide) ?_
            show own_S p e below s₁ m 40 #[iv x] [] _
            refine XS.iconst X0.here hx rfl (hb hby own_d2_40) ?_
            show own_S p e below s₁ m 41 #[iv x] [(.int (0 : Int32))] _
            rw [show r = (0 : Int32) from by rw [hr, if_pos hc1, if_pos hc2, if_neg hc3, if_pos hc4]] at kt
            exact kt
          · refine XS.icmpNo X0.here hx rfl (hb hby own_d2_33) rfl (flt hc4).2.2.1 ?_
            show own_S p e below s₁ m 36 #[iv x] [] _
            refine XS.iconst X0.here hx rfl (hb hby own_d2_36) ?_
            show own_S p e below s₁ m 37 #[iv x] [(.int (1 : Int32))] _
            refine XS.goto X0.here hx rfl (pc0 := 37) (pc' := 41) rfl (hb hby own_d2_37) (by decide) (by decide) ?_
            show own_S p e below s₁ m 41 #[iv x] [(.int (1 : Int32))] _
            rw [show r = (1 : Int32) from by rw [hr, if_pos hc1, if_pos hc2, if_neg hc3, if_neg hc4]] at kt
            exact kt
      · refine XS.icmpNo X0.here hx rfl (hb hby own_d2_15) rfl (flt hc2).1 ?_
        show own_S p e below s₁ m 18 #[iv x] [] _
        refine XS.iloadN X0.here hx rfl (hb hby own_d2_18) rfl ?_
        show own_S p e below s₁ m 19 #[iv x] [(.int x)] _
        refine XS.bipush X0.here hx rfl (hb hby own_d2_19) ?_
        show own_S p e below s₁ m 21 #[iv x] [(.int (90 : Int32)), (.int x)] _
        by_cases hc5 : (90 : Int32) < x
        · refine XS.icmpNo X0.here hx rfl (hb hby own_d2_21) rfl (tlt hc5).2.2.2 ?_
          show own_S p e below s₁ m 24 #[iv x] [] _
          refine XS.iloadN X0.here hx rfl (hb hby own_d2_24) rfl ?_
          show own_S p e below s₁ m 25 #[iv x] [(.int x)] _
          refine XS.bipush X0.here hx rfl (hb hby own_d2_25) ?_
          show own_S p e below s₁ m 27 #[iv x] [(.int (48 : Int32)), (.int x)] _
          by_cases hc6 : x < (48 : Int32)
          · refine XS.icmpYes X0.here hx rfl (pc0 := 27) (pc' := 40) rfl (hb hby own_d2_27) rfl (tlt hc6).1 (by decide) (by decide) ?_
            show own_S p e below s₁ m 40 #[iv x] [] _
            refine XS.iconst X0.here hx rfl (hb hby own_d2_40) ?_
            show own_S p e below s₁ m 41 #[iv x] [(.int (0 : Int32))] _
            rw [show r = (0 : Int32) from by rw [hr, if_pos hc1, if_neg hc2, if_pos hc5, if_pos hc6]] at kt
            exact kt
          · refine XS.icmpNo X0.here hx rfl (hb hby own_d2_27) rfl (flt hc6).1 ?_
            show own_S p e below s₁ m 30 #[iv x] [] _
            refine XS.iloadN X0.here hx rfl (hb hby own_d2_30) rfl ?_
            show own_S p e below s₁ m 31 #[iv x] [(.int x)] _
            refine XS.bipush X0.here hx rfl (hb hby own_d2_31) ?_
            show own_S p e below s₁ m 33 #[iv x] [(.int (57 : Int32)), (.int x)] _
            by_cases hc7 : (57 : Int32) < x
            · refine XS.icmpYes X0.here hx rfl (pc0 := 33) (pc' := 40) rfl (hb hby own_d2_33) rfl (tlt hc7).2.2.1 (by decide) (by decide) ?_
              show own_S p e below s₁ m 40 #[iv x] [] _
              refine XS.iconst X0.here hx rfl (hb hby own_d2_40) ?_
              show own_S p e below s₁ m 41 #[iv x] [(.int (0 : Int32))] _
              rw [show r = (0 : Int32) from by rw [hr, if_pos hc1, if_neg hc2, if_pos hc5, if_neg hc6, if_pos hc7]] at kt
              exact kt
            · refine XS.icmpNo X0.here hx rfl (hb hby own_d2_33) rfl (flt hc7).2.2.1 ?_
              show own_S p e below s₁ m 36 #[iv x] [] _
              refine XS.iconst X0.here hx rfl (hb hby own_d2_36) ?_
              show own_S p e below s₁ m 37 #[iv x] [(.int (1 : Int32))] _
              refine XS.goto X0.here hx rfl (pc0 := 37) (pc' := 41) rfl (hb hby own_d2_37) (by decide) (by decide) ?_
              show own_S p e below s₁ m 41 #[iv x] [(.int (1 : Int32))] _
              rw [show r = (1 : Int32) from by rw [hr, if_pos hc1, if_neg hc2, if_pos hc5, if_neg hc6, if_neg hc7]] at kt
              exact kt
        · refine XS.icmpYes X0.here hx rfl (pc0 := 21) (pc' := 36) rfl (hb hby own_d2_21) rfl (flt hc5).2.2.2 (by decide) (by decide) ?_
          show own_S p e below s₁ m 36 #[iv x] [] _
          refine XS.iconst X0.here hx rfl (hb hby own_d2_36) ?_
          show own_S p e below s₁ m 37 #[iv x] [(.int (1 : Int32))] _
          refine XS.goto X0.here hx rfl (pc0 := 37) (pc' := 41) rfl (hb hby own_d2_37) (by decide) (by decide) ?_
          show own_S p e below s₁ m 41 #[iv x] [(.int (1 : Int32))] _
          rw [show r = (1 : Int32) from by rw [hr, if_pos hc1, if_neg hc2, if_neg hc5]] at kt
          exact kt
    · refine XS.icmpNo X0.here hx rfl (hb hby own_d2_3) rfl (flt hc1).1 ?_
      show own_S p e below s₁ m 6 #[iv x] [] _
      refine XS.iloadN X0.here hx rfl (hb hby own_d2_6) rfl ?_
      show own_S p e below s₁ m 7 #[iv x] [(.int x)] _
      refine XS.bipush X0.here hx rfl (hb hby own_d2_7) ?_
      show own_S p e below s₁ m 9 #[iv x] [(.int (122 : Int32)), (.int x)] _
      by_cases hc8 : (122 : Int32) < x
      · refine XS.icmpNo X0.here hx rfl (hb hby own_d2_9) rfl (tlt hc8).2.2.2 ?_
        show own_S p e below s₁ m 12 #[iv x] [] _
        refine XS.iloadN X0.here hx rfl (hb hby own_d2_12) rfl ?_
        show own_S p e below s₁ m 13 #[iv x] [(.int x)] _
        refine XS.bipush X0.here hx rfl (hb hby own_d2_13) ?_
        show own_S p e below s₁ m 15 #[iv x] [(.int (65 : Int32)), (.int x)] _
        by_cases hc9 : x < (65 : Int32)
        · refine XS.icmpYes X0.here hx rfl (pc0 := 15) (pc' := 24) rfl (hb hby own_d2_15) rfl (tlt hc9).1 (by decide) (by decide) ?_
          show own_S p e below s₁ m 24 #[iv x] [] _
          refine XS.iloadN X0.here hx rfl (hb hby own_d2_24) rfl ?_
          show own_S p e below s₁ m 25 #[iv x] [(.int x)] _
          refine XS.bipush X0.here hx rfl (hb hby own_d2_25) ?_
          show own_S p e below s₁ m 27 #[iv x] [(.int (48 : Int32)), (.int x)] _
          by_cases hc10 : x < (48 : Int32)
          · refine XS.icmpYes X0.here hx rfl (pc0 := 27) (pc' := 40) rfl (hb hby own_d2_27) rfl (tlt hc10).1 (by decide) (by decide) ?_
            show own_S p e below s₁ m 40 #[iv x] [] _
            refine XS.iconst X0.here hx rfl (hb hby own_d2_40) ?_
            show own_S p e below s₁ m 41 #[iv x] [(.int (0 : Int32))] _
            rw [show r = (0 : Int32) from by rw [hr, if_neg hc1, if_pos hc8, if_pos hc9, if_pos hc10]] at kt
            exact kt
          · refine XS.icmpNo X0.here hx rfl (hb hby own_d2_27) rfl (flt hc10).1 ?_
            show own_S p e below s₁ m 30 #[iv x] [] _
            refine XS.iloadN X0.here hx rfl (hb hby own_d2_30) rfl ?_
            show own_S p e below s₁ m 31 #[iv x] [(.int x)] _
            refine XS.bipush X0.here hx rfl (hb hby own_d2_31) ?_
            show own_S p e below s₁ m 33 #[iv x] [(.int (57 : Int32)), (.int x)] _
            by_cases hc11 : (57 : Int32) < x
            · refine XS.icmpYes X0.here hx rfl (pc0 := 33) (pc' := 40) rfl (hb hby own_d2_33) rfl (tlt hc11).2.2.1 (by decide) (by decide) ?_
              show own_S p e below s₁ m 40 #[iv x] [] _
              refine XS.iconst X0.here hx rfl (hb hby own_d2_40) ?_
              show own_S p e below s₁ m 41 #[iv x] [(.int (0 : Int32))] _
              rw [show r = (0 : Int32) from by rw [hr, if_neg hc1, if_pos hc8, if_pos hc9, if_neg hc10, if_pos hc11]] at kt
              exact kt
            · refine XS.icmpNo X0.here hx rfl (hb hby own_d2_33) rfl (flt hc11).2.2.1 ?_
              show own_S p e below s₁ m 36 #[iv x] [] _
              refine XS.iconst X0.here hx rfl (hb hby own_d2_36) ?_
              show own_S p e below s₁ m 37 #[iv x] [(.int (1 : Int32))] _
              refine XS.goto X0.here hx rfl (pc0 := 37) (pc' := 41) rfl (hb hby own_d2_37) (by decide) (by decide) ?_
              show own_S p e below s₁ m 41 #[iv x] [(.int (1 : Int32))] _
              rw [show r = (1 : Int32) from by rw [hr, if_neg hc1, if_pos hc8, if_pos hc9, if_neg hc10, if_neg hc11]] at kt
              exact kt
        · refine XS.icmpNo X0.here hx rfl (hb hby own_d2_15) rfl (flt hc9).1 ?_
          show own_S p e below s₁ m 18 #[iv x] [] _
          refine XS.iloadN X0.here hx rfl (hb hby own_d2_18) rfl ?_
          show own_S p e below s₁ m 19 #[iv x] [(.int x)] _
          refine XS.bipush X0.here hx rfl (hb hby own_d2_19) ?_
          show own_S p e below s₁ m 21 #[iv x] [(.int (90 : Int32)), (.int x)] _
          by_cases hc12 : (90 : Int32) < x
          · refine XS.icmpNo X0.here hx rfl (hb hby own_d2_21) rfl (tlt hc12).2.2.2 ?_
            show own_S p e below s₁ m 24 #[iv x] [] _
            refine XS.iloadN X0.here hx rfl (hb hby own_d2_24) rfl ?_
            show own_S p e below s₁ m 25 #[iv x] [(.int x)] _
            refine XS.bipush X0.here hx rfl (hb hby own_d2_25) ?_
            show own_S p e below s₁ m 27 #[iv x] [(.int (48 : Int32)), (.int x)] _
            by_cases hc13 : x < (48 : Int32)
            · refine XS.icmpYes X0.here hx rfl (pc0 := 27) (pc' := 40) rfl (hb hby own_d2_27) rfl (tlt hc13).1 (by decide) (by decide) ?_
              show own_S p e below s₁ m 40 #[iv x] [] _
              refine XS.iconst X0.here hx rfl (hb hby own_d2_40) ?_
              show own_S p e below s₁ m 41 #[iv x] [(.int (0 : Int32))] _
              rw [show r = (0 : Int32) from by rw [hr, if_neg hc1, if_pos hc8, if_neg hc9, if_pos hc12, if_pos hc13]] at kt
              exact kt
            · refine XS.icmpNo X0.here hx rfl (hb hby own_d2_27) rfl (flt hc13).1 ?_
              show own_S p e below s₁ m 30 #[iv x] [] _
              refine XS.iloadN X0.here hx rfl (hb hby own_d2_30) rfl ?_
              show own_S p e below s₁ m 31 #[iv x] [(.int x)] _
              refine XS.bipush X0.here hx rfl (hb hby own_d2_31) ?_
              show own_S p e below s₁ m 33 #[iv x] [(.int (57 : Int32)), (.int x)] _
              by_cases hc14 : (57 : Int32) < x
              · refine XS.icmpYes X0.here hx rfl (pc0 := 33) (pc' := 40) rfl (hb hby own_d2_33) rfl (tlt hc14).2.2.1 (by decide) (by decide) ?_
                show own_S p e below s₁ m 40 #[iv x] [] _
                refine XS.iconst X0.here hx rfl (hb hby own_d2_40) ?_
                show own_S p e below s₁ m 41 #[iv x] [(.int (0 : Int32))] _
                rw [show r = (0 : Int32) from by rw [hr, if_neg hc1, if_pos hc8, if_neg hc9, if_pos hc12, if_neg hc13, if_pos hc14]] at kt
                exact kt
              · refine XS.icmpNo X0.here hx rfl (hb hby own_d2_33) rfl (flt hc14).2.2.1 ?_
                show own_S p e below s₁ m 36 #[iv x] [] _
                refine XS.iconst X0.here hx rfl (hb hby own_d2_36) ?_
                show own_S p e below s₁ m 37 #[iv x] [(.int (1 : Int32))] _
                refine XS.goto X0.here hx rfl (pc0 := 37) (pc' := 41) rfl (hb hby own_d2_37) (by decide) (by decide) ?_
                show own_S p e below s₁ m 41 #[iv x] [(.int (1 : Int32))] _
                rw [show r = (1 : Int32) from by rw [hr, if_neg hc1, if_pos hc8, if_neg hc9, if_pos hc12, if_neg hc13, if_neg hc14]] at kt
                exact kt
          · refine XS.icmpYes X0.here hx rfl (pc0 := 21) (pc' := 36) rfl (hb hby own_d2_21) rfl (flt hc12).2.2.2 (by decide) (by decide) ?_
            show own_S p e below s₁ m 36 #[iv x] [] _
            refine XS.iconst X0.here hx rfl (hb hby own_d2_36) ?_
            show own_S p e below s₁ m 37 #[iv x] [(.int (1 : Int32))] _
            refine XS.goto X0.here hx rfl (pc0 := 37) (pc' := 41) rfl (hb hby own_d2_37) (by decide) (by decide) ?_
            show own_S p e below s₁ m 41 #[iv x] [(.int (1 : Int32))] _
            rw [show r = (1 : Int32) from by rw [hr, if_neg hc1, if_pos hc8, if_neg hc9, if_neg hc12]] at kt
            exact kt
      · refine XS.icmpYes X0.here hx rfl (pc0 := 9) (pc' := 36) rfl (hb hby own_d2_9) rfl (flt hc8).2.2.2 (by decide) (by decide) ?_
        show own_S p e below s₁ m 36 #[iv x] [] _
        refine XS.iconst X0.here hx rfl (hb hby own_d2_36) ?_
        show own_S p e below s₁ m 37 #[iv x] [(.int (1 : Int32))] _
        refine XS.goto X0.here hx rfl (pc0 := 37) (pc' := 41) rfl (hb hby own_d2_37) (by decide) (by decide) ?_
        show own_S p e below s₁ m 41 #[iv x] [(.int (1 : Int32))] _
        rw [show r = (1 : Int32) from by rw [hr, if_neg hc1, if_neg hc8]] at kt
        exact kt
  refine own_st sg15 ?_
  have hrr : r = own_aln x := hr
  exact own_retZ X0 hx Bd.notSynchronized Bd.returns (hb hby own_d2_41) (hrr ▸ own_aln01 x) (by decide) (by decide) e0 ⟨by rw [hrr], N0, rfl⟩
theorem own_d3_0 : decode method_4_code 0 = .ok (.iload_n 0, 1) := by decide +kernel
theorem own_d3_1 : decode method_4_code 1 = .ok (.bipush 48, 2) := by decide +kernel
theorem own_d3_3 : decode method_4_code 3 = .ok (.isub, 1) := by decide +kernel
theorem own_d3_4 : decode method_4_code 4 = .ok (.i2l, 1) := by decide +kernel
theorem own_d3_5 : decode method_4_code 5 = .ok (.ldc2_w 25, 3) := by decide +kernel
theorem own_d3_8 : decode method_4_code 8 = .ok (.land, 1) := by decide +kernel
theorem own_d3_9 : decode method_4_code 9 = .ok (.ldc2_w 27, 3) := by decide +kernel
theorem own_d3_12 : decode method_4_code 12 = .ok (.lcmp, 1) := by decide +kernel
theorem own_d3_13 : decode method_4_code 13 = .ok (.ifCond .ge 7, 3) := by decide +kernel
theorem own_d3_16 : decode method_4_code 16 = .ok (.iconst 1, 1) := by decide +kernel
theorem own_d3_17 : decode method_4_code 17 = .ok (.goto 4, 3) := by decide +kernel
theorem own_d3_20 : decode method_4_code 20 = .ok (.iconst 0, 1) := by decide +kernel
theorem own_d3_21 : decode method_4_code 21 = .ok (.istore_n 1, 1) := by decide +kernel
theorem own_d3_22 : decode method_4_code 22 = .ok (.iload_n 0, 1) := by decide +kernel
theorem own_d3_23 : decode method_4_code 23 = .ok (.bipush 32, 2) := by decide +kernel
theorem own_d3_25 : decode method_4_code 25 = .ok (.ior, 1) := by decide +kernel
theorem own_d3_26 : decode method_4_code 26 = .ok (.bipush 97, 2) := by decide +kernel
theorem own_d3_28 : decode method_4_code 28 = .ok (.isub, 1) := by decide +kernel
theorem own_d3_29 : decode method_4_code 29 = .ok (.i2l, 1) := by decide +kernel
theorem own_d3_30 : decode method_4_code 30 = .ok (.ldc2_w 25, 3) := by decide +kernel
theorem own_d3_33 : decode method_4_code 33 = .ok (.land, 1) := by decide +kernel
theorem own_d3_34 : decode method_4_code 34 = .ok (.ldc2_w 29, 3) := by decide +kernel
theorem own_d3_37 : decode method_4_code 37 = .ok (.lcmp, 1) := by decide +kernel
theorem own_d3_38 : decode method_4_code 38 = .ok (.ifCond .ge 7, 3) := by decide +kernel
theorem own_d3_41 : decode method_4_code 41 = .ok (.iconst 1, 1) := by decide +kernel
theorem own_d3_42 : decode method_4_code 42 = .ok (.goto 4, 3) := by decide +kernel
theorem own_d3_45 : decode method_4_code 45 = .ok (.iconst 0, 1) := by decide +kernel
theorem own_d3_46 : decode method_4_code 46 = .ok (.istore_n 2, 1) := by decide +kernel
theorem own_d3_47 : decode method_4_code 47 = .ok (.iload_n 1, 1) := by decide +kernel
theorem own_d3_48 : decode method_4_code 48 = .ok (.ifCond .ne 7, 3) := by decide +kernel
theorem own_d3_51 : decode method_4_code 51 = .ok (.iload_n 2, 1) := by decide +kernel
theorem own_d3_52 : decode method_4_code 52 = .ok (.ifCond .eq 7, 3) := by decide +kernel
theorem own_d3_55 : decode method_4_code 55 = .ok (.iconst 1, 1) := by decide +kernel
theorem own_d3_56 : decode method_4_code 56 = .ok (.goto 4, 3) := by decide +kernel
theorem own_d3_59 : decode method_4_code 59 = .ok (.iconst 0, 1) := by decide +kernel
theorem own_d3_60 : decode method_4_code 60 = .ok (.ireturn, 1) := by decide +kernel
def own_ref (x : Int32) : Int32 := (if (if ((x - (48 : Int32)).toInt64 &&& (4294967295 : Int64)) < (10 : Int64) then (1 : Int32) else (0 : Int32)) = (0 : Int32) then (if (if (((x ||| (32 : Int32)) - (97 : Int32)).toInt64 &&& (4294967295 : Int64)) < (26 : Int64) then (1 : Int32) else (0 : Int32)) = (0 : Int32) then (0 : Int32) else (1 : Int32)) else (1 : Int32))
theorem own_ref01 (x : Int32) : own_ref x = 0 ∨ own_ref x = 1 := by
  unfold own_ref; repeat' (first | exact Or.inl rfl | exact Or.inr rfl | split)
theorem own_pn1 : plainName "dev/countersign/core/HttpSyntaxIsAlphanumericPinLaw" = true := by first | (simp [plainName, overriddenIn]; done) | decide +kernel
theorem own_efref (m : MethodId) (x : Int32) : entryFrame m #[(.int x)] 3 = mkF m 0 #[iv x, .unset, .unset] [] := by first | (simp [entryFrame, mkF, argsToLocals, Value.category]; done) | rfl
set_option maxRecDepth 65536 in
set_option maxHeartbeats 40000000 in
theorem own_rmref (l : Launch) (Z : State) (a0 : Array Value) (hw : ∀ d ∈ tables_1, d.before a0 Z = true) (x : Int32) (h0 : Heap) (n0 : Nat) (Z0 : n0 ≤ h0.size) :
    own_Ct l Z (⟨"dev/countersign/core/HttpSyntaxIsAlphanumericPinLaw", "reference", "(I)Z"⟩ : MethodName) method_4_code 3 (some .boolean) ({ frames := 0, cells := 0, slots := 0, locals := 0 } : Room) #[(.int x)] h0 (fun v h L => v = some (.int (own_ref x)) ∧ Fr n0 L ∧ h = h0) := by
  refine own_body (y := (⟨"dev/countersign/core/HttpSyntaxIsAlphanumericPinLaw", "reference", "(I)Z"⟩ : MethodName)) (Q := fun v h L => v = some (.int (own_ref x)) ∧ Fr n0 L ∧ h = h0) (plainFor_of_name own_pn1) ?_
  intro p e s m below meth c s₁ Bd hml0 hZ e0
  have hx := Bd.exec
  have hby := Bd.bytes
  have hml : c.maxLocals = 3 := hml0
  have hown : s.vm.findClass "dev/countersign/core/HttpSyntaxIsAlphanumericPinLaw" = some m.cls := findClass_of_methodNamed Bd.named
  have hnm := (name_of_methodNamed Bd.named Bd.method).1
  have X0 : Stand p l e ({ frames := 0, cells := 0, slots := 0, locals := 0 } : Room) s m #[(.int x)] below meth c s₁ [] 0 0 := Stand.of_body Bd
  have N0 := Fr.nil n0
  rw [own_efref]
  obtain ⟨b1, hb1⟩ : ∃ z : Int32, z = (if ((x - (48 : Int32)).toInt64 &&& (4294967295 : Int64)) < (10 : Int64) then (1 : Int32) else (0 : Int32)) := ⟨_, rfl⟩
  have sg2 : own_V p e below s₁ (mkF m 21 #[iv x, .unset, .unset] [(.int b1)]) (mkF m 0 #[iv x, .unset, .unset] []) := by
    intro t kt
    refine XS.iloadN X0.here hx rfl (hb hby own_d3_0) rfl ?_
    show own_S p e below s₁ m 1 #[iv x, .unset, .unset] [(.int x)] _
    refine XS.bipush X0.here hx rfl (hb hby own_d3_1) ?_
    show own_S p e below s₁ m 3 #[iv x, .unset, .unset] [(.int (48 : Int32)), (.int x)] _
    refine XS.isub X0.here hx rfl (hb hby own_d3_3) rfl ?_
    show own_S p e below s₁ m 4 #[iv x, .unset, .unset] [(.int (x - (48 : Int32)))] _
    refine XS.i2l X0.here hx rfl (hb hby own_d3_4) rfl ?_
    show own_S p e below s₁ m 5 #[iv x, .unset, .unset] [(.long (x - (48 : Int32)).toInt64)] _
    refine X0.ldc2Long hx hown (mvT hZ (hw _ (List.mem_of_getElem? (i := 14) rfl))) (g := (mkF m 5 #[iv x, .unset, .unset] [(.long (x - (48 : Int32)).toInt64)])) rfl (hb hby own_d3_5) _ ?_
    show own_S p e below s₁ m 8 #[iv x, .unset, .unset] [(.long (4294967295 : Int64)), (.long (x - (48 : Int32)).toInt64)] _
    refine XS.land X0.here hx rfl (hb hby own_d3_8) rfl ?_
    show own_S p e below s₁ m 9 #[iv x, .unset, .unset] [(.long ((x - (48 : Int32)).toInt64 &&& (4294967295 : Int64)))] _
    refine X0.ldc2Long hx hown (mvT hZ (hw _ (List.mem_of_getElem? (i := 15) rfl))) (g := (mkF m 9 #[iv x, .unset, .unset] [(.long ((x - (48 : Int32)).toInt64 &&& (4294967295 : Int64)))])) rfl (hb hby own_d3_9) _ ?_
    show own_S p e below s₁ m 12 #[iv x, .unset, .unset] [(.long (10 : Int64)), (.long ((x - (48 : Int32)).toInt64 &&& (4294967295 : Int64)))] _
    refine XS.lcmp X0.here hx rfl (hb hby own_d3_12) rfl ?_
    show own_S p e below s₁ m 13 #[iv x, .unset, .unset] [(.int (lcmpW ((x - (48 : Int32)).toInt64 &&& (4294967295 : Int64)) (10 : Int64)))] _
    by_cases hc1 : ((x - (48 : Int32)).toInt64 &&& (4294967295 : Int64)) < (10 : Int64)
    · refine XS.ifNo X0.here hx rfl (hb hby own_d3_13) rfl (own_tltL hc1).2 ?_
      show own_S p e below s₁ m 16 #[iv x, .unset, .unset] [] _
      refine XS.iconst X0.here hx rfl (hb hby own_d3_16) ?_
      show own_S p e below s₁ m 17 #[iv x, .unset, .unset] [(.int (1 : Int32))] _
      refine XS.goto X0.here hx rfl (pc0 := 17) (pc' := 21) rfl (hb hby own_d3_17) (by decide) (by decide) ?_
      show own_S p e below s₁ m 21 #[iv x, .unset, .unset] [(.int (1 : Int32))] _
      rw [show b1 = (1 : Int32) from by rw [hb1, if_pos hc1]] at kt
      exact kt
    · refine XS.ifYes X0.here hx rfl (pc0 := 13) (pc' := 20) rfl (hb hby own_d3_13) rfl (own_fltL hc1).2 (by decide) (by decide) ?_
      show own_S p e below s₁ m 20 #[iv x, .unset, .unset] [] _
      refine XS.iconst X0.here hx rfl (hb hby own_d3_20) ?_
      show own_S p e below s₁ m 21 #[iv x, .unset, .unset] [(.int (0 : Int32))] _
      rw [show b1 = (0 : Int32) from by rw [hb1, if_neg hc1]] at kt
      exact kt
  refine own_st sg2 ?_
  obtain ⟨b2, hb2⟩ : ∃ z : Int32, z = (if (((x ||| (32 : Int32)) - (97 : Int32)).toInt64 &&& (4294967295 : Int64)) < (26 : Int64) then (1 : Int32) else (0 : Int32)) := ⟨_, rfl⟩
  have sg4 : own_V p e below s₁ (mkF m 46 #[iv x, iv b1, .unset] [(.int b2)]) (mkF m 21 #[iv x, .unset, .unset] [(.int b1)]) := by
    intro t kt
    refine XS.istoreN X0.here hx rfl (hb hby own_d3_21) rfl (l' := #[iv x, iv b1, .unset]) rfl ?_
    show own_S p e below s₁ m 22 #[iv x, iv b1, .unset] [] _
    refine XS.iloadN X0.here hx rfl (hb hby own_d3_22) rfl ?_
    show own_S p e below s₁ m 23 #[iv x, iv b1, .unset] [(.int x)] _
    refine XS.bipush X0.here hx rfl (hb hby own_d3_23) ?_
    show own_S p e below s₁ m 25 #[iv x, iv b1, .unset] [(.int (32 : Int32)), (.int x)] _
    refine XS.ior X0.here hx rfl (hb hby own_d3_25) rfl ?_
    show own_S p e below s₁ m 26 #[iv x, iv b1, .unset] [(.int (x ||| (32 : Int32)))] _
    refine XS.bipush X0.here hx rfl (hb hby own_d3_26) ?_
    show own_S p e below s₁ m 28 #[iv x, iv b1, .unset] [(.int (97 : Int32)), (.int (x ||| (32 : Int32)))] _
    refine XS.isub X0.here hx rfl (hb hby own_d3_28) rfl ?_
    show own_S p e below s₁ m 29 #[iv x, iv b1, .unset] [(.int ((x ||| (32 : Int32)) - (97 : Int32)))] _
    refine XS.i2l X0.here hx rfl (hb hby own_d3_29) rfl ?_
    show own_S p e below s₁ m 30 #[iv x, iv b1, .unset] [(.long ((x ||| (32 : Int32)) - (97 : Int32)).toInt64)] _
    refine X0.ldc2Long hx hown (mvT hZ (hw _ (List.mem_of_getElem? (i := 14) rfl))) (g := (mkF m 30 #[iv x, iv b1, .unset] [(.long ((x ||| (32 : Int32)) - (97 : Int32)).toInt64)])) rfl (hb hby own_d3_30) _ ?_
    show own_S p e below s₁ m 33 #[iv x, iv b1, .unset] [(.long (4294967295 : Int64)), (.long ((x ||| (32 : Int32)) - (97 : Int32)).toInt64)] _
    refine XS.land X0.here hx rfl (hb hby own_d3_33) rfl ?_
    show own_S p e below s₁ m 34 #[iv x, iv b1, .unset] [(.long (((x ||| (32 : Int32)) - (97 : Int32)).toInt64 &&& (4294967295 : Int64)))] _
    refine X0.ldc2Long hx hown (mvT hZ (hw _ (List.mem_of_getElem? (i := 16) rfl))) (g := (mkF m 34 #[iv x, iv b1, .unset] [(.long (((x ||| (32 : Int32)) - (97 : Int32)).toInt64 &&& (4294967295 : Int64)))])) rfl (hb hby own_d3_34) _ ?_
    show own_S p e below s₁ m 37 #[iv x, iv b1, .unset] [(.long (26 : Int64)), (.long (((x ||| (32 : Int32)) - (97 : Int32)).toInt64 &&& (4294967295 : Int64)))] _
    refine XS.lcmp X0.here hx rfl (hb hby own_d3_37) rfl ?_
    show own_S p e below s₁ m 38 #[iv x, iv b1, .unset] [(.int (lcmpW (((x ||| (32 : Int32)) - (97 : Int32)).toInt64 &&& (4294967295 : Int64)) (26 : Int64)))] _
    by_cases hc3 : (((x ||| (32 : Int32)) - (97 : Int32)).toInt64 &&& (4294967295 : Int64)) < (26 : Int64)
    · refine XS.ifNo X0.here hx rfl (hb hby own_d3_38) rfl (own_tltL hc3).2 ?_
      show own_S p e below s₁ m 41 #[iv x, iv b1, .unset] [] _
      refine XS.iconst X0.here hx rfl (hb hby own_d3_41) ?_
      show own_S p e below s₁ m 42 #[iv x, iv b1, .unset] [(.int (1 : Int32))] _
      refine XS.goto X0.here hx rfl (pc0 := 42) (pc' := 46) rfl (hb hby own_d3_42) (by decide) (by decide) ?_
      show own_S p e below s₁ m 46 #[iv x, iv b1, .unset] [(.int (1 : Int32))] _
      rw [show b2 = (1 : Int32) from by rw [hb2, if_pos hc3]] at kt
      exact kt
    · refine XS.ifYes X0.here hx rfl (pc0 := 38) (pc' := 45) rfl (hb hby own_d3_38) rfl (own_fltL hc3).2 (by decide) (by decide) ?_
      show own_S p e below s₁ m 45 #[iv x, iv b1, .unset] [] _
      refine XS.iconst X0.here hx rfl (hb hby own_d3_45) ?_
      show own_S p e below s₁ m 46 #[iv x, iv b1, .unset] [(.int (0 : Int32))] _
      rw [show b2 = (0 : Int32) from by rw [hb2, if_neg hc3]] at kt
      exact kt
  refine own_st sg4 ?_
  obtain ⟨r, hr⟩ : ∃ z : Int32, z = (if b1 = (0 : Int32) then (if b2 = (0 : Int32) then (0 : Int32) else (1 : Int32)) else (1 : Int32)) := ⟨_, rfl⟩
  have sg7 : own_V p e below s₁ (mkF m 60 #[iv x, iv b1, iv b2] [(.int r)]) (mkF m 46 #[iv x, iv b1, .unset] [(.int b2)]) := by
    intro t kt
    refine XS.istoreN X0.here hx rfl (hb hby own_d3_46) rfl (l' := #[iv x, iv b1, iv b2]) rfl ?_
    show own_S p e below s₁ m 47 #[iv x, iv b1, iv b2] [] _
    refine XS.iloadN X0.here hx rfl (hb hby own_d3_47) rfl ?_
    show own_S p e below s₁ m 48 #[iv x, iv b1, iv b2] [(.int b1)] _
    by_cases hc5 : b1 = (0 : Int32)
    · refine XS.ifNo X0.here hx rfl (hb hby own_d3_48) rfl ((if0 _ _).trans (teq hc5).2) ?_
      show own_S p e below s₁ m 51 #[iv x, iv b1, iv b2] [] _
      refine XS.iloadN X0.here hx rfl (hb hby own_d3_51) rfl ?_
      show own_S p e below s₁ m 52 #[iv x, iv b1, iv b2] [(.int b2)] _
      by_cases hc6 : b2 = (0 : Int32)
      · refine XS.ifYes X0.here hx rfl (pc0 := 52) (pc' := 59) rfl (hb hby own_d3_52) rfl ((if0 _ _).trans (teq hc6).1) (by decide) (by decide) ?_
        show own_S p e below s₁ m 59 #[iv x, iv b1, iv b2] [] _
        refine XS.iconst X0.here hx rfl (hb hby own_d3_59) ?_
        show own_S p e below s₁ m 60 #[iv x, iv b1, iv b2] [(.int (0 : Int32))] _
        rw [show r = (0 : Int32) from by rw [hr, if_pos hc5, if_pos hc6]] at kt
        exact kt
      · refine XS.ifNo X0.here hx rfl (hb hby own_d3_52) rfl ((if0 _ _).trans (feq hc6).1) ?_
        show own_S p e below s₁ m 55 #[iv x, iv b1, iv b2] [] _
        refine XS.iconst X0.here hx rfl (hb hby own_d3_55) ?_
        show own_S p e below s₁ m 56 #[iv x, iv b1, iv b2] [(.int (1 : Int32))] _
        refine XS.goto X0.here hx rfl (pc0 := 56) (pc' := 60) rfl (hb hby own_d3_56) (by decide) (by decide) ?_
        show own_S p e below s₁ m 60 #[iv x, iv b1, iv b2] [(.int (1 : Int32))] _
        rw [show r = (1 : Int32) from by rw [hr, if_pos hc5, if_neg hc6]] at kt
        exact kt
    · refine XS.ifYes X0.here hx rfl (pc0 := 48) (pc' := 55) rfl (hb hby own_d3_48) rfl ((if0 _ _).trans (feq hc5).2) (by decide) (by decide) ?_
      show own_S p e below s₁ m 55 #[iv x, iv b1, iv b2] [] _
      refine XS.iconst X0.here hx rfl (hb hby own_d3_55) ?_
      show own_S p e below s₁ m 56 #[iv x, iv b1, iv b2] [(.int (1 : Int32))] _
      refine XS.goto X0.here hx rfl (pc0 := 56) (pc' := 60) rfl (hb hby own_d3_56) (by decide) (by decide) ?_
      show own_S p e below s₁ m 60 #[iv x, iv b1, iv b2] [(.int (1 : Int32))] _
      rw [show r = (1 : Int32) from by rw [hr, if_neg hc5]] at kt
      exact kt
  refine own_st sg7 ?_
  have hrr : r = own_ref x := by rw [hr, hb1, hb2]; rfl
  exact own_retZ X0 hx Bd.notSynchronized Bd.returns (hb hby own_d3_60) (hrr ▸ own_ref01 x) (by decide) (by decide) e0 ⟨by rw [hrr], N0, rfl⟩
theorem own_natmod (X : Nat) : (X ||| 32) / 64 = X / 64 ∧ (X ||| 32) % 64 = (if X % 64 / 32 = 1 then X % 64 else X % 64 + 32) := by
  have h1 : (X ||| 32) / 2 ^ 6 = X / 2 ^ 6 ||| 32 / 2 ^ 6 := Nat.or_div_two_pow
  have h2 : (X ||| 32) % 2 ^ 6 = X % 2 ^ 6 ||| 32 % 2 ^ 6 := Nat.or_mod_two_pow
  have h3 : ∀ y : Fin 64, y.1 ||| 32 = if y.1 / 32 = 1 then y.1 else y.1 + 32 := by decide
  constructor
  · have : X / 2 ^ 6 ||| 32 / 2 ^ 6 = X / 64 ||| 0 := rfl
    rw [this, Nat.or_zero] at h1; exact h1
  · have : X % 2 ^ 6 ||| 32 % 2 ^ 6 = X % 64 ||| 32 := rfl
    rw [this] at h2
    have h4 := h3 ⟨X % 64, Nat.mod_lt _ (by decide)⟩
    exact h2.trans h4
theorem own_or32 (x : Int32) : (x ||| (32 : Int32)).toInt = (if x.toInt / 32 % 2 = 1 then x.toInt else x.toInt + 32) := by
  have hX := x.toBitVec.isLt
  have hY := (x ||| (32 : Int32)).toBitVec.isLt
  have e1 : x.toInt = if 2 * x.toBitVec.toNat < 2 ^ 32 then (x.toBitVec.toNat : Int) else (x.toBitVec.toNat : Int) - (2 ^ 32 : Nat) := BitVec.toInt_eq_toNat_cond x.toBitVec
  have e2 : (x ||| (32 : Int32)).toInt = if 2 * (x ||| (32 : Int32)).toBitVec.toNat < 2 ^ 32 then ((x ||| (32 : Int32)).toBitVec.toNat : Int) else ((x ||| (32 : Int32)).toBitVec.toNat : Int) - (2 ^ 32 : Nat) := BitVec.toInt_eq_toNat_cond _
  have e3 : (x ||| (32 : Int32)).toBitVec.toNat = x.toBitVec.toNat ||| 32 := rfl
  rw [e3] at e2 hY
  obtain ⟨d1, d2⟩ := own_natmod x.toBitVec.toNat
  generalize x.toBitVec.toNat ||| 32 = Y at *
  generalize x.toBitVec.toNat = X at *
  rw [e1, e2]
  by_cases q : X % 64 / 32 = 1
  · rw [if_pos q] at d2
    split <;> split <;> split <;> omega
  · rw [if_neg q] at d2
    split <;> split <;> split <;> omega
theorem own_un (y : Int32) : (y.toInt64 &&& (4294967295 : Int64)).toInt = y.toInt % 4294967296 := by
  have := c_maskL y.toInt64 4294967295 32 (by decide) (by decide)
  rw [c_i2l] at this
  exact this
theorem own_same (x : Int32) : (own_aln x) = (own_ref x) := by
  have rx := rng32 x
  have c1 := c_isub x 48
  have r1 := rng32 (x - 48)
  have e48 : (48 : Int32).toInt = 48 := by decide
  have e97 : (97 : Int32).toInt = 97 := by decide
  have e122 : (122 : Int32).toInt = 122 := by decide
  have e65 : (65 : Int32).toInt = 65 := by decide
  have e90 : (90 : Int32).toInt = 90 := by decide
  have e57 : (57 : Int32).toInt = 57 := by decide
  have e10 : (10 : Int64).toInt = 10 := by decide
  have e26 : (26 : Int64).toInt = 26 := by decide
  rw [e48] at c1
  have o := own_or32 x
  have c2 := c_isub (x ||| (32 : Int32)) 97
  have r2 := rng32 ((x ||| (32 : Int32)) - 97)
  have r3 := rng32 (x ||| (32 : Int32))
  rw [e97] at c2
  have b1 : ((x - (48 : Int32)).toInt64 &&& (4294967295 : Int64)) < (10 : Int64) ↔ (48 ≤ x.toInt ∧ x.toInt ≤ 57) := by
    rw [Int64.lt_iff_toInt_lt, own_un, e10]; omega
  have b2 : (((x ||| (32 : Int32)) - (97 : Int32)).toInt64 &&& (4294967295 : Int64)) < (26 : Int64) ↔ ((97 ≤ x.toInt ∧ x.toInt ≤ 122) ∨ (65 ≤ x.toInt ∧ x.toInt ≤ 90)) := by
    rw [Int64.lt_iff_toInt_lt, own_un, e26]
    split at o <;> omega
  have A : own_aln x = if ((48 ≤ x.toInt ∧ x.toInt ≤ 57) ∨ (97 ≤ x.toInt ∧ x.toInt ≤ 122) ∨ (65 ≤ x.toInt ∧ x.toInt ≤ 90)) then 1 else 0 := by
    unfold own_aln
    simp only [Int32.lt_iff_toInt_lt, e48, e97, e122, e65, e90, e57]
    repeat' split
    all_goals first | rfl | (exfalso; omega)
  have B : own_ref x = if ((48 ≤ x.toInt ∧ x.toInt ≤ 57) ∨ (97 ≤ x.toInt ∧ x.toInt ≤ 122) ∨ (65 ≤ x.toInt ∧ x.toInt ≤ 90)) then 1 else 0 := by
    unfold own_ref
    by_cases q1 : (48 ≤ x.toInt ∧ x.toInt ≤ 57)
    · rw [if_pos (b1.mpr q1), if_neg (by decide), if_pos (Or.inl q1)]
    · rw [if_neg (fun z => q1 (b1.mp z)), if_pos rfl]
      by_cases q2 : ((97 ≤ x.toInt ∧ x.toInt ≤ 122) ∨ (65 ≤ x.toInt ∧ x.toInt ≤ 90))
      · rw [if_pos (b2.mpr q2), if_neg (by decide), if_pos (Or.inr q2)]
      · rw [if_neg (fun z => q2 (b2.mp z)), if_pos rfl, if_neg (by omega)]
  rw [A, B]
theorem own_and7 (k : Int32) : (k &&& (7 : Int32)).toInt = (((k &&& (7 : Int32)).toInt.toNat : Nat) : Int) ∧ (k &&& (7 : Int32)).toInt.toNat < 8 := by
  have m : (k &&& (7 : Int32)).toInt = k.toInt % ((2 ^ 3 : Nat) : Int) := c_mask k 7 3 (by decide) (by decide)
  have m' : (k &&& (7 : Int32)).toInt = k.toInt % 8 := m
  omega
theorem own_d1_0 : decode method_3_code 0 = .ok (.iload_n 0, 1) := by decide +kernel
theorem own_d1_1 : decode method_3_code 1 = .ok (.invokestatic 17, 3) := by decide +kernel
theorem own_d1_4 : decode method_3_code 4 = .ok (.iload_n 0, 1) := by decide +kernel
theorem own_d1_5 : decode method_3_code 5 = .ok (.invokestatic 22, 3) := by decide +kernel
theorem own_d1_8 : decode method_3_code 8 = .ok (.if_icmp .ne 7, 3) := by decide +kernel
theorem own_d1_11 : decode method_3_code 11 = .ok (.iconst 1, 1) := by decide +kernel
theorem own_d1_12 : decode method_3_code 12 = .ok (.goto 4, 3) := by decide +kernel
theorem own_d1_15 : decode method_3_code 15 = .ok (.iconst 0, 1) := by decide +kernel
theorem own_d1_16 : decode method_3_code 16 = .ok (.ireturn, 1) := by decide +kernel
theorem own_pd0 : parseMethodDescriptor "(I)Z" = some ⟨[.int], some .boolean⟩ := by decide +kernel
theorem own_efagr (m : MethodId) (x : Int32) : entryFrame m #[(.int x)] 1 = mkF m 0 #[iv x] [] := by first | (simp [entryFrame, mkF, argsToLocals, Value.category]; done) | rfl
set_option maxRecDepth 65536 in
set_option maxHeartbeats 40000000 in
theorem own_rmagr (l : Launch) (Z : State) (a0 : Array Value) (hw : ∀ d ∈ tables_1, d.before a0 Z = true) (x : Int32) (h0 : Heap) (n0 : Nat) (Z0 : n0 ≤ h0.size) :
    own_Ct l Z (⟨"dev/countersign/core/HttpSyntaxIsAlphanumericPinLaw", "agrees", "(I)Z"⟩ : MethodName) method_3_code 1 (some .boolean) ({ frames := 1, cells := 0, slots := 0, locals := 15 } : Room) #[(.int x)] h0 (fun v h L => v = some (.int 1) ∧ Fr n0 L ∧ h = h0) := by
  refine own_body (y := (⟨"dev/countersign/core/HttpSyntaxIsAlphanumericPinLaw", "agrees", "(I)Z"⟩ : MethodName)) (Q := fun v h L => v = some (.int 1) ∧ Fr n0 L ∧ h = h0) (plainFor_of_name own_pn1) ?_
  intro p e s m below meth c s₁ Bd hml0 hZ e0
  have hx := Bd.exec
  have hby := Bd.bytes
  have hml : c.maxLocals = 1 := hml0
  have hown : s.vm.findClass "dev/countersign/core/HttpSyntaxIsAlphanumericPinLaw" = some m.cls := findClass_of_methodNamed Bd.named
  have hnm := (name_of_methodNamed Bd.named Bd.method).1
  have X0 : Stand p l e ({ frames := 1, cells := 0, slots := 0, locals := 15 } : Room) s m #[(.int x)] below meth c s₁ [] 0 0 := Stand.of_body Bd
  have N0 := Fr.nil n0
  rw [own_efagr]
  have sg1 : own_V p e below s₁ (mkF m 1 #[iv x] [(.int x)]) (mkF m 0 #[iv x] []) := by
    intro t kt
    refine XS.iloadN X0.here hx rfl (hb hby own_d1_0) rfl ?_
    show own_S p e below s₁ m 1 #[iv x] [(.int x)] _
    exact kt
  refine own_st sg1 ?_
  obtain ⟨_, T2, L2, X2, hQ2, st2⟩ := own_callS (y := (⟨"dev/countersign/core/HttpSyntax", "isAlphanumeric", "(I)Z"⟩ : MethodName)) X0 hx hZ hown (hw _ (List.mem_of_getElem? (i := 7) rfl)) (hw _ (List.mem_of_getElem? (i := 8) rfl)) (hw _ (List.mem_of_getElem? (i := 9) rfl)) (hw _ (List.mem_of_getElem? (i := 10) rfl)) (by decide) (own_rmaln l Z a0 hw x h0 n0 Z0) e0 (g := (mkF m 1 #[iv x] [(.int x)])) rfl (by rw [hml]; rfl) (argsL := [(.int x)]) (rest := []) (lenOf own_pd0 rfl) rfl (W := 0) (by show 2 * 0 + _ ≤ _; exact Nat.le_of_eq rfl) (hb hby own_d1_1) (by decide) (by decide) (by decide) (by decide)
  obtain ⟨rfl, Nq2, e2⟩ := hQ2
  refine own_st st2 ?_
  have N2 := Fr.app N0 Nq2
  show own_Go p e below _ T2 (mkF m 4 #[iv x] [(.int (own_aln x))])
  have sg3 : own_V p e below T2 (mkF m 5 #[iv x] [(.int x), (.int (own_aln x))]) (mkF m 4 #[iv x] [(.int (own_aln x))]) := by
    intro t kt
    refine XS.iloadN X2.here hx rfl (hb hby own_d1_4) rfl ?_
    show own_S p e below T2 m 5 #[iv x] [(.int x), (.int (own_aln x))] _
    exact kt
  refine own_st sg3 ?_
  obtain ⟨_, T4, L4, X4, hQ4, st4⟩ := own_callS (y := (⟨"dev/countersign/core/HttpSyntaxIsAlphanumericPinLaw", "reference", "(I)Z"⟩ : MethodName)) X2 hx hZ hown (hw _ (List.mem_of_getElem? (i := 11) rfl)) (hw _ (List.mem_of_getElem? (i := 12) rfl)) (hw _ (List.mem_of_getElem? (i := 5) rfl)) (hw _ (List.mem_of_getElem? (i := 13) rfl)) (by decide) (own_rmref l Z a0 hw x h0 n0 Z0) e2 (g := (mkF m 5 #[iv x] [(.int x), (.int (own_aln x))])) rfl (by rw [hml]; rfl) (argsL := [(.int x)]) (rest := [(.int (own_aln x))]) (lenOf own_pd0 rfl) rfl (W := 1) (by show 2 * 0 + _ ≤ _; exact Nat.le_of_eq rfl) (hb hby own_d1_5) (by decide) (by decide) (by decide) (by decide)
  obtain ⟨rfl, Nq4, e4⟩ := hQ4
  refine own_st st4 ?_
  have N4 := Fr.app N2 Nq4
  show own_Go p e below _ T4 (mkF m 8 #[iv x] [(.int (own_ref x)), (.int (own_aln x))])
  have hc5 : (own_aln x) = (own_ref x) := own_same x
  have sg6 : own_V p e below T4 (mkF m 11 #[iv x] []) (mkF m 8 #[iv x] [(.int (own_ref x)), (.int (own_aln x))]) := by
    intro t kt
    refine XS.icmpNo X4.here hx rfl (hb hby own_d1_8) rfl (teq hc5).2 ?_
    exact kt
  refine own_st sg6 ?_
  have sg7 : own_V p e below T4 (mkF m 16 #[iv x] [(.int (1 : Int32))]) (mkF m 11 #[iv x] []) := by
    intro t kt
    refine XS.iconst X4.here hx rfl (hb hby own_d1_11) ?_
    show own_S p e below T4 m 12 #[iv x] [(.int (1 : Int32))] _
    refine XS.goto X4.here hx rfl (pc0 := 12) (pc' := 16) rfl (hb hby own_d1_12) (by decide) (by decide) ?_
    show own_S p e below T4 m 16 #[iv x] [(.int (1 : Int32))] _
    exact kt
  refine own_st sg7 ?_
  exact own_retZ X4 hx Bd.notSynchronized Bd.returns (hb hby own_d1_16) (by decide) (by decide) (by decide) e4 ⟨rfl, N4, rfl⟩
theorem own_eflaw (m : MethodId) (x : Int32) (k : Int32) : entryFrame m #[(.int x), (.int k)] maxLocals = mkF m 0 #[iv x, iv k, .unset, .unset, .unset] [] := by first | (simp [entryFrame, mkF, argsToLocals, Value.category, maxLocals]; done) | rfl
set_option maxRecDepth 65536 in
set_option maxHeartbeats 40000000 in
theorem own_rmlaw (l : Launch) (Z : State) (a0 : Array Value) (hw : ∀ d ∈ tables_1, d.before a0 Z = true) (x : Int32) (k : Int32) (h0 : Heap) (n0 : Nat) (Z0 : n0 ≤ h0.size) :
    MetFree l Jvm.Pilot.@@N@@.x (head1 (Jvm.Cond.code Jvm.Pilot.@@N@@.x code maxLocals ret :: tables_1) room_1) (fun a U => a = #[(.int x), (.int k)] ∧ Z.Warmed39 U.vm ∧ U.heap = h0) (fun _ _ _ _ _ => True) (fun _ U o U' => ∃ v L, o = .returned v ∧ (fun v h L => v = some (.int 1) ∧ Fr n0 L) v U'.heap L ∧ FrameEnd U o U' L 1 8) := by
  refine own_body (y := Jvm.Pilot.@@N@@.x) (Q := fun v h L => v = some (.int 1) ∧ Fr n0 L) (plainFor_of_name own_pn1) ?_
  intro p e s m below meth c s₁ Bd hml0 hZ e0
  have hx := Bd.exec
  have hby := Bd.bytes
  have hml : c.maxLocals = 5 := hml0
  have hown : s.vm.findClass "dev/countersign/core/HttpSyntaxIsAlphanumericPinLaw" = some m.cls := findClass_of_methodNamed Bd.named
  have hnm := (name_of_methodNamed Bd.named Bd.method).1
  have X0 : Stand p l e room_1 s m #[(.int x), (.int k)] below meth c s₁ [] 0 0 := Stand.of_body Bd
  have N0 := Fr.nil n0
  rw [own_eflaw]
  have sg1 : own_V p e below s₁ (mkF m 2 #[iv x, iv k, .unset, .unset, .unset] [(.int (8 : Int32))]) (mkF m 0 #[iv x, iv k, .unset, .unset, .unset] []) := by
    intro t kt
    refine XS.bipush X0.here hx rfl (hb hby at_0) ?_
    show own_S p e below s₁ m 2 #[iv x, iv k, .unset, .unset, .unset] [(.int (8 : Int32))] _
    exact kt
  refine own_st sg1 ?_
  obtain ⟨T2, h2, a2, g2, X2, e2, E2, A2, st2⟩ := own_newP (n := 8) X0 hx hZ (hw _ (List.mem_of_getElem? (i := 0) rfl)) e0 (by decide) rfl (g := (mkF m 2 #[iv x, iv k, .unset, .unset, .unset] [(.int (8 : Int32))])) rfl rfl (hb hby at_2) (cap := 8) (by decide) (by decide) (by decide) (by decide)
  refine own_st st2 ?_
  have g_a2 : n0 ≤ a2 := by rw [g2]; exact Z0
  have Z2 : n0 ≤ h2.size := Nat.le_trans Z0 E2.1
  have B2 : own_AI Z h2 a2 .int 8 (fun _ => 0) := A2
  show own_Go p e below _ T2 (mkF m 4 #[iv x, iv k, .unset, .unset, .unset] [(.ref a2)])
  have sg3 : own_V p e below T2 (mkF m 8 #[iv x, iv k, .unset, .unset, .unset] [(.int (48 : Int32)), (.int (0 : Int32)), (.ref a2), (.ref a2)]) (mkF m 4 #[iv x, iv k, .unset, .unset, .unset] [(.ref a2)]) := by
    intro t kt
    refine XS.dup X2.here hx rfl (hb hby at_4) rfl rfl ?_
    show own_S p e below T2 m 5 #[iv x, iv k, .unset, .unset, .unset] [(.ref a2), (.ref a2)] _
    refine XS.iconst X2.here hx rfl (hb hby at_5) ?_
    show own_S p e below T2 m 6 #[iv x, iv k, .unset, .unset, .unset] [(.int (0 : Int32)), (.ref a2), (.ref a2)] _
    refine XS.bipush X2.here hx rfl (hb hby at_6) ?_
    show own_S p e below T2 m 8 #[iv x, iv k, .unset, .unset, .unset] [(.int (48 : Int32)), (.int (0 : Int32)), (.ref a2), (.ref a2)] _
    exact kt
  refine own_st sg3 ?_
  obtain ⟨T4, h4, X4, e4, W4, A4, st4⟩ := own_wrI X2 hx hZ e2 B2 (k := 0) (by decide) (by decide) (g := (mkF m 8 #[iv x, iv k, .unset, .unset, .unset] [(.int (48 : Int32)), (.int (0 : Int32)), (.ref a2), (.ref a2)])) rfl rfl (hb hby at_8)
  refine own_st st4 ?_
  have Z4 : n0 ≤ h4.size := by rw [Wr.size W4]; exact Z2
  have N4 := Fr.snoc X4 N0 g_a2
  show own_Go p e below _ T4 (mkF m 9 #[iv x, iv k, .unset, .unset, .unset] [(.ref a2)])
  have sg5 : own_V p e below T4 (mkF m 13 #[iv x, iv k, .unset, .unset, .unset] [(.int (57 : Int32)), (.int (1 : Int32)), (.ref a2), (.ref a2)]) (mkF m 9 #[iv x, iv k, .unset, .unset, .unset] [(.ref a2)]) := by
    intro t kt
    refine XS.dup X4.here hx rfl (hb hby at_9) rfl rfl ?_
    show own_S p e below T4 m 10 #[iv x, iv k, .unset, .unset, .unset] [(.ref a2), (.ref a2)] _
    refine XS.iconst X4.here hx rfl (hb hby at_10) ?_
    show own_S p e below T4 m 11 #[iv x, iv k, .unset, .unset, .unset] [(.int (1 : Int32)), (.ref a2), (.ref a2)] _
    refine XS.bipush X4.here hx rfl (hb hby at_11) ?_
    show own_S p e below T4 m 13 #[iv x, iv k, .unset, .unset, .unset] [(.int (57 : Int32)), (.int (1 : Int32)), (.ref a2), (.ref a2)] _
    exact kt
  refine own_st sg5 ?_
  obtain ⟨T6, h6, X6, e6, W6, A6, st6⟩ := own_wrI X4 hx hZ e4 A4 (k := 1) (by decide) (by decide) (g := (mkF m 13 #[iv x, iv k, .unset, .unset, .unset] [(.int (57 : Int32)), (.int (1 : Int32)), (.ref a2), (.ref a2)])) rfl rfl (hb hby at_13)
  refine own_st st6 ?_
  have Z6 : n0 ≤ h6.size := by rw [Wr.size W6]; exact Z4
  have N6 := Fr.snoc X6 N4 g_a2
  show own_Go p e below _ T6 (mkF m 14 #[iv x, iv k, .unset, .unset, .unset] [(.ref a2)])
  have sg7 : own_V p e below T6 (mkF m 18 #[iv x, iv k, .unset, .unset, .unset] [(.int (65 : Int32)), (.int (2 : Int32)), (.ref a2), (.ref a2)]) (mkF m 14 #[iv x, iv k, .unset, .unset, .unset] [(.ref a2)]) := by
    intro t kt
    refine XS.dup X6.here hx rfl (hb hby at_14) rfl rfl ?_
    show own_S p e below T6 m 15 #[iv x, iv k, .unset, .unset, .unset] [(.ref a2), (.ref a2)] _
    refine XS.iconst X6.here hx rfl (hb hby at_15) ?_
    show own_S p e below T6 m 16 #[iv x, iv k, .unset, .unset, .unset] [(.int (2 : Int32)), (.ref a2), (.ref a2)] _
    refine XS.bipush X6.here hx rfl (hb hby at_16) ?_
    show own_S p e below T6 m 18 #[iv x, iv k, .unset, .unset, .unset] [(.int (65 : Int32)), (.int (2 : Int32)), (.ref a2), (.ref a2)] _
    exact kt
  refine own_st sg7 ?_
  obtain ⟨T8, h8, X8, e8, W8, A8, st8⟩ := own_wrI X6 hx hZ e6 A6 (k := 2) (by decide) (by decide) (g := (mkF m 18 #[iv x, iv k, .unset, .unset, .unset] [(.int (65 : Int32)), (.int (2 : Int32)), (.ref a2), (.ref a2)])) rfl rfl (hb hby at_18)
  refine own_st st8 ?_
  have Z8 : n0 ≤ h8.size := by rw [Wr.size W8]; exact Z6
  have N8 := Fr.snoc X8 N6 g_a2
  show own_Go p e below _ T8 (mkF m 19 #[iv x, iv k, .unset, .unset, .unset] [(.ref a2)])
  have sg9 : own_V p e below T8 (mkF m 23 #[iv x, iv k, .unset, .unset, .unset] [(.int (90 : Int32)), (.int (3 : Int32)), (.ref a2), (.ref a2)]) (mkF m 19 #[iv x, iv k, .unset, .unset, .unset] [(.ref a2)]) := by
    intro t kt
    refine XS.dup X8.here hx rfl (hb hby at_19) rfl rfl ?_
    show own_S p e below T8 m 20 #[iv x, iv k, .unset, .unset, .unset] [(.ref a2), (.ref a2)] _
    refine XS.iconst X8.here hx rfl (hb hby at_20) ?_
    show own_S p e below T8 m 21 #[iv x, iv k, .unset, .unset, .unset] [(.int (3 : Int32)), (.ref a2), (.ref a2)] _
    refine XS.bipush X8.here hx rfl (hb hby at_21) ?_
    show own_S p e below T8 m 23 #[iv x, iv k, .unset, .unset, .unset] [(.int (90 : Int32)), (.int (3 : Int32)), (.ref a2), (.ref a2)] _
    exact kt
  refine own_st sg9 ?_
  obtain ⟨T10, h10, X10, e10, W10, A10, st10⟩ := own_wrI X8 hx hZ e8 A8 (k := 3) (by decide) (by decide) (g := (mkF m 23 #[iv x, iv k, .unset, .unset, .unset] [(.int (90 : Int32)), (.int (3 : Int32)), (.ref a2), (.ref a2)])) rfl rfl (hb hby at_23)
  refine own_st st10 ?_
  have Z10 : n0 ≤ h10.size := by rw [Wr.size W10]; exact Z8
  have N10 := Fr.snoc X10 N8 g_a2
  show own_Go p e below _ T10 (mkF m 24 #[iv x, iv k, .unset, .unset, .unset] [(.ref a2)])
  have sg11 : own_V p e below T10 (mkF m 28 #[iv x, iv k, .unset, .unset, .unset] [(.int (97 : Int32)), (.int (4 : Int32)), (.ref a2), (.ref a2)]) (mkF m 24 #[iv x, iv k, .unset, .unset, .unset] [(.ref a2)]) := by
    intro t kt
    refine XS.dup X10.here hx rfl (hb hby at_24) rfl rfl ?_
    show own_S p e below T10 m 25 #[iv x, iv k, .unset, .unset, .unset] [(.ref a2), (.ref a2)] _
    refine XS.iconst X10.here hx rfl (hb hby at_25) ?_
    show own_S p e below T10 m 26 #[iv x, iv k, .unset, .unset, .unset] [(.int (4 : Int32)), (.ref a2), (.ref a2)] _
    refine XS.bipush X10.here hx rfl (hb hby at_26) ?_
    show own_S p e below T10 m 28 #[iv x, iv k, .unset, .unset, .unset] [(.int (97 : Int32)), (.int (4 : Int32)), (.ref a2), (.ref a2)] _
    exact kt
  refine own_st sg11 ?_
  obtain ⟨T12, h12, X12, e12, W12, A12, st12⟩ := own_wrI X10 hx hZ e10 A10 (k := 4) (by decide) (by decide) (g := (mkF m 28 #[iv x, iv k, .unset, .unset, .unset] [(.int (97 : Int32)), (.int (4 : Int32)), (.ref a2), (.ref a2)])) rfl rfl (hb hby at_28)
  refine own_st st12 ?_
  have Z12 : n0 ≤ h12.size := by rw [Wr.size W12]; exact Z10
  have N12 := Fr.snoc X12 N10 g_a2
  show own_Go p e below _ T12 (mkF m 29 #[iv x, iv k, .unset, .unset, .unset] [(.ref a2)])
  have sg13 : own_V p e below T12 (mkF m 33 #[iv x, iv k, .unset, .unset, .unset] [(.int (122 : Int32)), (.int (5 : Int32)), (.ref a2), (.ref a2)]) (mkF m 29 #[iv x, iv k, .unset, .unset, .unset] [(.ref a2)]) := by
    intro t kt
    refine XS.dup X12.here hx rfl (hb hby at_29) rfl rfl ?_
    show own_S p e below T12 m 30 #[iv x, iv k, .unset, .unset, .unset] [(.ref a2), (.ref a2)] _
    refine XS.iconst X12.here hx rfl (hb hby at_30) ?_
    show own_S p e below T12 m 31 #[iv x, iv k, .unset, .unset, .unset] [(.int (5 : Int32)), (.ref a2), (.ref a2)] _
    refine XS.bipush X12.here hx rfl (hb hby at_31) ?_
    show own_S p e below T12 m 33 #[iv x, iv k, .unset, .unset, .unset] [(.int (122 : Int32)), (.int (5 : Int32)), (.ref a2), (.ref a2)] _
    exact kt
  refine own_st sg13 ?_
  obtain ⟨T14, h14, X14, e14, W14, A14, st14⟩ := own_wrI X12 hx hZ e12 A12 (k := 5) (by decide) (by decide) (g := (mkF m 33 #[iv x, iv k, .unset, .unset, .unset] [(.int (122 : Int32)), (.int (5 : Int32)), (.ref a2), (.ref a2)])) rfl rfl (hb hby at_33)
  refine own_st st14 ?_
  have Z14 : n0 ≤ h14.size := by rw [Wr.size W14]; exact Z12
  have N14 := Fr.snoc X14 N12 g_a2
  show own_Go p e below _ T14 (mkF m 34 #[iv x, iv k, .unset, .unset, .unset] [(.ref a2)])
  have sg15 : own_V p e below T14 (mkF m 39 #[iv x, iv k, .unset, .unset, .unset] [(.int (-2147483648 : Int32)), (.int (6 : Int32)), (.ref a2), (.ref a2)]) (mkF m 34 #[iv x, iv k, .unset, .unset, .unset] [(.ref a2)]) := by
    intro t kt
    refine XS.dup X14.here hx rfl (hb hby at_34) rfl rfl ?_
    show own_S p e below T14 m 35 #[iv x, iv k, .unset, .unset, .unset] [(.ref a2), (.ref a2)] _
    refine XS.bipush X14.here hx rfl (hb hby at_35) ?_
    show own_S p e below T14 m 37 #[iv x, iv k, .unset, .unset, .unset] [(.int (6 : Int32)), (.ref a2), (.ref a2)] _
    refine X14.ldcInt hx hown (mvT hZ (hw _ (List.mem_of_getElem? (i := 1) rfl))) (g := (mkF m 37 #[iv x, iv k, .unset, .unset, .unset] [(.int (6 : Int32)), (.ref a2), (.ref a2)])) rfl (hb hby at_37) _ ?_
    show own_S p e below T14 m 39 #[iv x, iv k, .unset, .unset, .unset] [(.int (-2147483648 : Int32)), (.int (6 : Int32)), (.ref a2), (.ref a2)] _
    exact kt
  refine own_st sg15 ?_
  obtain ⟨T16, h16, X16, e16, W16, A16, st16⟩ := own_wrI X14 hx hZ e14 A14 (k := 6) (by decide) (by decide) (g := (mkF m 39 #[iv x, iv k, .unset, .unset, .unset] [(.int (-2147483648 : Int32)), (.int (6 : Int32)), (.ref a2), (.ref a2)])) rfl rfl (hb hby at_39)
  refine own_st st16 ?_
  have Z16 : n0 ≤ h16.size := by rw [Wr.size W16]; exact Z14
  have N16 := Fr.snoc X16 N14 g_a2
  show own_Go p e below _ T16 (mkF m 40 #[iv x, iv k, .unset, .unset, .unset] [(.ref a2)])
  have sg17 : own_V p e below T16 (mkF m 45 #[iv x, iv k, .unset, .unset, .unset] [(.int (2147483647 : Int32)), (.int (7 : Int32)), (.ref a2), (.ref a2)]) (mkF m 40 #[iv x, iv k, .unset, .unset, .unset] [(.ref a2)]) := by
    intro t kt
    refine XS.dup X16.here hx rfl (hb hby at_40) rfl rfl ?_
    show own_S p e below T16 m 41 #[iv x, iv k, .unset, .unset, .unset] [(.ref a2), (.ref a2)] _
    refine XS.bipush X16.here hx rfl (hb hby at_41) ?_
    show own_S p e below T16 m 43 #[iv x, iv k, .unset, .unset, .unset] [(.int (7 : Int32)), (.ref a2), (.ref a2)] _
    refine X16.ldcInt hx hown (mvT hZ (hw _ (List.mem_of_getElem? (i := 2) rfl))) (g := (mkF m 43 #[iv x, iv k, .unset, .unset, .unset] [(.int (7 : Int32)), (.ref a2), (.ref a2)])) rfl (hb hby at_43) _ ?_
    show own_S p e below T16 m 45 #[iv x, iv k, .unset, .unset, .unset] [(.int (2147483647 : Int32)), (.int (7 : Int32)), (.ref a2), (.ref a2)] _
    exact kt
  refine own_st sg17 ?_
  obtain ⟨T18, h18, X18, e18, W18, A18, st18⟩ := own_wrI X16 hx hZ e16 A16 (k := 7) (by decide) (by decide) (g := (mkF m 45 #[iv x, iv k, .unset, .unset, .unset] [(.int (2147483647 : Int32)), (.int (7 : Int32)), (.ref a2), (.ref a2)])) rfl rfl (hb hby at_45)
  refine own_st st18 ?_
  have Z18 : n0 ≤ h18.size := by rw [Wr.size W18]; exact Z16
  have N18 := Fr.snoc X18 N16 g_a2
  show own_Go p e below _ T18 (mkF m 46 #[iv x, iv k, .unset, .unset, .unset] [(.ref a2)])
  have sg19 : own_V p e below T18 (mkF m 52 #[iv x, iv k, rv a2, .unset, .unset] [(.int (k &&& (7 : Int32))), (.ref a2)]) (mkF m 46 #[iv x, iv k, .unset, .unset, .unset] [(.ref a2)]) := by
    intro t kt
    refine XS.astoreN X18.here hx rfl (hb hby at_46) rfl rfl (l' := #[iv x, iv k, rv a2, .unset, .unset]) rfl ?_
    show own_S p e below T18 m 47 #[iv x, iv k, rv a2, .unset, .unset] [] _
    refine XS.aloadN X18.here hx rfl (hb hby at_47) rfl rfl ?_
    show own_S p e below T18 m 48 #[iv x, iv k, rv a2, .unset, .unset] [(.ref a2)] _
    refine XS.iloadN X18.here hx rfl (hb hby at_48) rfl ?_
    show own_S p e below T18 m 49 #[iv x, iv k, rv a2, .unset, .unset] [(.int k), (.ref a2)] _
    refine XS.bipush X18.here hx rfl (hb hby at_49) ?_
    show own_S p e below T18 m 51 #[iv x, iv k, rv a2, .unset, .unset] [(.int (7 : Int32)), (.int k), (.ref a2)] _
    refine XS.iand X18.here hx rfl (hb hby at_51) rfl ?_
    show own_S p e below T18 m 52 #[iv x, iv k, rv a2, .unset, .unset] [(.int (k &&& (7 : Int32))), (.ref a2)] _
    exact kt
  refine own_st sg19 ?_
  have hj : (k &&& (7 : Int32)).toInt = (((k &&& (7 : Int32)).toInt.toNat : Nat) : Int) ∧ (k &&& (7 : Int32)).toInt.toNat < 8 := own_and7 k
  obtain ⟨f8, A8⟩ : ∃ f, own_AI Z h18 a2 .int 8 f := ⟨_, A18⟩
  obtain ⟨b3, hb3⟩ : ∃ z : Int32, z = (((f8 (k &&& (7 : Int32)).toInt.toNat) + ((k >>> ((3 : Int32) &&& 31)) &&& (3 : Int32))) - (1 : Int32)) := ⟨_, rfl⟩
  obtain ⟨low, hlow⟩ : ∃ z : Int32, z = (x &&& (255 : Int32)) := ⟨_, rfl⟩
  have sg20 : own_V p e below T18 (mkF m 70 #[iv x, iv k, rv a2, iv b3, iv low] [(.int x)]) (mkF m 52 #[iv x, iv k, rv a2, .unset, .unset] [(.int (k &&& (7 : Int32))), (.ref a2)]) := by
    intro t kt
    refine own_rdI X18 hx hZ e18 A8 hj.1 hj.2 (g := (mkF m 52 #[iv x, iv k, rv a2, .unset, .unset] [(.int (k &&& (7 : Int32))), (.ref a2)])) rfl rfl (hb hby at_52) _ ?_
    show own_S p e below T18 m 53 #[iv x, iv k, rv a2, .unset, .unset] [(.int (f8 (k &&& (7 : Int32)).toInt.toNat))] _
    refine XS.iloadN X18.here hx rfl (hb hby at_53) rfl ?_
    show own_S p e below T18 m 54 #[iv x, iv k, rv a2, .unset, .unset] [(.int k), (.int (f8 (k &&& (7 : Int32)).toInt.toNat))] _
    refine XS.iconst X18.here hx rfl (hb hby at_54) ?_
    show own_S p e below T18 m 55 #[iv x, iv k, rv a2, .unset, .unset] [(.int (3 : Int32)), (.int k), (.int (f8 (k &&& (7 : Int32)).toInt.toNat))] _
    refine XS.ishr X18.here hx rfl (hb hby at_55) rfl ?_
    show own_S p e below T18 m 56 #[iv x, iv k, rv a2, .unset, .unset] [(.int (k >>> ((3 : Int32) &&& 31))), (.int (f8 (k &&& (7 : Int32)).toInt.toNat))] _
    refine XS.iconst X18.here hx rfl (hb hby at_56) ?_
    show own_S p e below T18 m 57 #[iv x, iv k, rv a2, .unset, .unset] [(.int (3 : Int32)), (.int (k >>> ((3 : Int32) &&& 31))), (.int (f8 (k &&& (7 : Int32)).toInt.toNat))] _
    refine XS.iand X18.here hx rfl (hb hby at_57) rfl ?_
    show own_S p e below T18 m 58 #[iv x, iv k, rv a2, .unset, .unset] [(.int ((k >>> ((3 : Int32) &&& 31)) &&& (3 : Int32))), (.int (f8 (k &&& (7 : Int32)).toInt.toNat))] _
    refine XS.iadd X18.here hx rfl (hb hby at_58) rfl ?_
    show own_S p e below T18 m 59 #[iv x, iv k, rv a2, .unset, .unset] [(.int ((f8 (k &&& (7 : Int32)).toInt.toNat) + ((k >>> ((3 : Int32) &&& 31)) &&& (3 : Int32))))] _
    refine XS.iconst X18.here hx rfl (hb hby at_59) ?_
    show own_S p e below T18 m 60 #[iv x, iv k, rv a2, .unset, .unset] [(.int (1 : Int32)), (.int ((f8 (k &&& (7 : Int32)).toInt.toNat) + ((k >>> ((3 : Int32) &&& 31)) &&& (3 : Int32))))] _
    refine XS.isub X18.here hx rfl (hb hby at_60) rfl ?_
    show own_S p e below T18 m 61 #[iv x, iv k, rv a2, .unset, .unset] [(.int (((f8 (k &&& (7 : Int32)).toInt.toNat) + ((k >>> ((3 : Int32) &&& 31)) &&& (3 : Int32))) - (1 : Int32)))] _
    refine XS.istoreN X18.here hx rfl (hb hby at_61) rfl (l' := #[iv x, iv k, rv a2, iv (((f8 (k &&& (7 : Int32)).toInt.toNat) + ((k >>> ((3 : Int32) &&& 31)) &&& (3 : Int32))) - (1 : Int32)), .unset]) rfl ?_
    show own_S p e below T18 m 62 #[iv x, iv k, rv a2, iv (((f8 (k &&& (7 : Int32)).toInt.toNat) + ((k >>> ((3 : Int32) &&& 31)) &&& (3 : Int32))) - (1 : Int32)), .unset] [] _
    refine XS.iloadN X18.here hx rfl (hb hby at_62) rfl ?_
    show own_S p e below T18 m 63 #[iv x, iv k, rv a2, iv (((f8 (k &&& (7 : Int32)).toInt.toNat) + ((k >>> ((3 : Int32) &&& 31)) &&& (3 : Int32))) - (1 : Int32)), .unset] [(.int x)] _
    refine XS.sipush X18.here hx rfl (hb hby at_63) ?_
    show own_S p e below T18 m 66 #[iv x, iv k, rv a2, iv (((f8 (k &&& (7 : Int32)).toInt.toNat) + ((k >>> ((3 : Int32) &&& 31)) &&& (3 : Int32))) - (1 : Int32)), .unset] [(.int (255 : Int32)), (.int x)] _
    refine XS.iand X18.here hx rfl (hb hby at_66) rfl ?_
    show own_S p e below T18 m 67 #[iv x, iv k, rv a2, iv (((f8 (k &&& (7 : Int32)).toInt.toNat) + ((k >>> ((3 : Int32) &&& 31)) &&& (3 : Int32))) - (1 : Int32)), .unset] [(.int (x &&& (255 : Int32)))] _
    refine XS.istore X18.here hx rfl (hb hby at_67) rfl (l' := #[iv x, iv k, rv a2, iv (((f8 (k &&& (7 : Int32)).toInt.toNat) + ((k >>> ((3 : Int32) &&& 31)) &&& (3 : Int32))) - (1 : Int32)), iv (x &&& (255 : Int32))]) rfl ?_
    show own_S p e below T18 m 69 #[iv x, iv k, rv a2, iv (((f8 (k &&& (7 : Int32)).toInt.toNat) + ((k >>> ((3 : Int32) &&& 31)) &&& (3 : Int32))) - (1 : Int32)), iv (x &&& (255 : Int32))] [] _
    refine XS.iloadN X18.here hx rfl (hb hby at_69) rfl ?_
    show own_S p e below T18 m 70 #[iv x, iv k, rv a2, iv (((f8 (k &&& (7 : Int32)).toInt.toNat) + ((k >>> ((3 : Int32) &&& 31)) &&& (3 : Int32))) - (1 : Int32)), iv (x &&& (255 : Int32))] [(.int x)] _
    rw [hb3] at kt
    rw [hlow] at kt
    exact kt
  refine own_st sg20 ?_
  obtain ⟨_, T21, L21, X21, hQ21, st21⟩ := own_callS (y := (⟨"dev/countersign/core/HttpSyntaxIsAlphanumericPinLaw", "agrees", "(I)Z"⟩ : MethodName)) X18 hx hZ hown (hw _ (List.mem_of_getElem? (i := 3) rfl)) (hw _ (List.mem_of_getElem? (i := 4) rfl)) (hw _ (List.mem_of_getElem? (i := 5) rfl)) (hw _ (List.mem_of_getElem? (i := 6) rfl)) (by decide) (own_rmagr l Z a0 hw x h18 n0 Z18) e18 (g := (mkF m 70 #[iv x, iv k, rv a2, iv b3, iv low] [(.int x)])) rfl (by rw [hml]; rfl) (argsL := [(.int x)]) (rest := []) (lenOf own_pd0 rfl) rfl (W := 0) (by show 2 * 0 + _ ≤ _; exact Nat.le_of_eq rfl) (hb hby at_70) (by decide) (by decide) (by decide) (by decide)
  obtain ⟨rfl, Nq21, e21⟩ := hQ21
  refine own_st st21 ?_
  have N21 := Fr.app N18 Nq21
  show own_Go p e below _ T21 (mkF m 73 #[iv x, iv k, rv a2, iv b3, iv low] [(.int (1 : Int32))])
  have sg23 : own_V p e below T21 (mkF m 76 #[iv x, iv k, rv a2, iv b3, iv low] []) (mkF m 73 #[iv x, iv k, rv a2, iv b3, iv low] [(.int (1 : Int32))]) := by
    intro t kt
    refine XS.ifNo X21.here hx rfl (hb hby at_73) rfl ((if0 _ _).trans (feq (by decide : ¬ (1 : Int32) = (0 : Int32))).1) ?_
    exact kt
  refine own_st sg23 ?_
  have sg24 : own_V p e below T21 (mkF m 77 #[iv x, iv k, rv a2, iv b3, iv low] [(.int b3)]) (mkF m 76 #[iv x, iv k, rv a2, iv b3, iv low] []) := by
    intro t kt
    refine XS.iloadN X21.here hx rfl (hb hby at_76) rfl ?_
    show own_S p e below T21 m 77 #[iv x, iv k, rv a2, iv b3, iv low] [(.int b3)] _
    exact kt
  refine own_st sg24 ?_
  obtain ⟨_, T25, L25, X25, hQ25, st25⟩ := own_callS (y := (⟨"dev/countersign/core/HttpSyntaxIsAlphanumericPinLaw", "agrees", "(I)Z"⟩ : MethodName)) X21 hx hZ hown (hw _ (List.mem_of_getElem? (i := 3) rfl)) (hw _ (List.mem_of_getElem? (i := 4) rfl)) (hw _ (List.mem_of_getElem? (i := 5) rfl)) (hw _ (List.mem_of_getElem? (i := 6) rfl)) (by decide) (own_rmagr l Z a0 hw b3 h18 n0 Z18) e21 (g := (mkF m 77 #[iv x, iv k, rv a2, iv b3, iv low] [(.int b3)])) rfl (by rw [hml]; rfl) (argsL := [(.int b3)]) (rest := []) (lenOf own_pd0 rfl) rfl (W := 0) (by show 2 * 0 + _ ≤ _; exact Nat.le_of_eq rfl) (hb hby at_77) (by decide) (by decide) (by decide) (by decide)
  obtain ⟨rfl, Nq25, e25⟩ := hQ25
  refine own_st st25 ?_
  have N25 := Fr.app N21 Nq25
  show own_Go p e below _ T25 (mkF m 80 #[iv x, iv k, rv a2, iv b3, iv low] [(.int (1 : Int32))])
  have sg27 : own_V p e below T25 (mkF m 83 #[iv x, iv k, rv a2, iv b3, iv low] []) (mkF m 80 #[iv x, iv k, rv a2, iv b3, iv low] [(.int (1 : Int32))]) := by
    intro t kt
    refine XS.ifNo X25.here hx rfl (hb hby at_80) rfl ((if0 _ _).trans (feq (by decide : ¬ (1 : Int32) = (0 : Int32))).1) ?_
    exact kt
  refine own_st sg27 ?_
  have sg28 : own_V p e below T25 (mkF m 85 #[iv x, iv k, rv a2, iv b3, iv low] [(.int low)]) (mkF m 83 #[iv x, iv k, rv a2, iv b3, iv low] []) := by
    intro t kt
    refine XS.iload X25.here hx rfl (hb hby at_83) rfl ?_
    show own_S p e below T25 m 85 #[iv x, iv k, rv a2, iv b3, iv low] [(.int low)] _
    exact kt
  refine own_st sg28 ?_
  obtain ⟨_, T29, L29, X29, hQ29, st29⟩ := own_callS (y := (⟨"dev/countersign/core/HttpSyntaxIsAlphanumericPinLaw", "agrees", "(I)Z"⟩ : MethodName)) X25 hx hZ hown (hw _ (List.mem_of_getElem? (i := 3) rfl)) (hw _ (List.mem_of_getElem? (i := 4) rfl)) (hw _ (List.mem_of_getElem? (i := 5) rfl)) (hw _ (List.mem_of_getElem? (i := 6) rfl)) (by decide) (own_rmagr l Z a0 hw low h18 n0 Z18) e25 (g := (mkF m 85 #[iv x, iv k, rv a2, iv b3, iv low] [(.int low)])) rfl (by rw [hml]; rfl) (argsL := [(.int low)]) (rest := []) (lenOf own_pd0 rfl) rfl (W := 0) (by show 2 * 0 + _ ≤ _; exact Nat.le_of_eq rfl) (hb hby at_85) (by decide) (by decide) (by decide) (by decide)
  obtain ⟨rfl, Nq29, e29⟩ := hQ29
  refine own_st st29 ?_
  have N29 := Fr.app N25 Nq29
  show own_Go p e below _ T29 (mkF m 88 #[iv x, iv k, rv a2, iv b3, iv low] [(.int (1 : Int32))])
  have sg31 : own_V p e below T29 (mkF m 91 #[iv x, iv k, rv a2, iv b3, iv low] []) (mkF m 88 #[iv x, iv k, rv a2, iv b3, iv low] [(.int (1 : Int32))]) := by
    intro t kt
    refine XS.ifNo X29.here hx rfl (hb hby at_88) rfl ((if0 _ _).trans (feq (by decide : ¬ (1 : Int32) = (0 : Int32))).1) ?_
    exact kt
  refine own_st sg31 ?_
  have sg32 : own_V p e below T29 (mkF m 96 #[iv x, iv k, rv a2, iv b3, iv low] [(.int (1 : Int32))]) (mkF m 91 #[iv x, iv k, rv a2, iv b3, iv low] []) := by
    intro t kt
    refine XS.iconst X29.here hx rfl (hb hby at_91) ?_
    show own_S p e below T29 m 92 #[iv x, iv k, rv a2, iv b3, iv low] [(.int (1 : Int32))] _
    refine XS.goto X29.here hx rfl (pc0 := 92) (pc' := 96) rfl (hb hby at_92) (by decide) (by decide) ?_
    show own_S p e below T29 m 96 #[iv x, iv k, rv a2, iv b3, iv low] [(.int (1 : Int32))] _
    exact kt
  refine own_st sg32 ?_
  exact own_retZ X29 hx Bd.notSynchronized Bd.returns (hb hby at_96) (by decide) (by decide) (by decide) e29 ⟨rfl, N29⟩
set_option maxRecDepth 65536 in
set_option maxHeartbeats 40000000 in
theorem comes_1 {Post : Tables → Env → Array Value → State → Outcome → State → Prop} (hpost : ∀ tb e args s v u, (limb_1_1.after args s (.returned v) u = true ∧ limb_1_2.after args s (.returned v) u = true ∧ True) → FrameEnd s (.returned v) u (Jvm.fieldLocs frame_1_writes args s ++ Jvm.arrayLocs frame_1_arrays args s ++ Jvm.staticLocs frame_1_statics s) 16 128 → Post tb e args s (.returned v) u) :
    ArmFor flags0 classFile x code maxLocals ret World_1 tables_1 room_1 Calls_1 rest_1 Pre_1 Post := by
  intro l hfl _ _ p e ha hc hk s m args below hf hA hF happ hP
  obtain ⟨hcalls, hrest, hpre⟩ := hP
  obtain ⟨-, -, -, hnamed, -, -, -, hat⟩ := (Spec.applies_iff hf).mp happ
  obtain ⟨hg, hn⟩ := and_e (Cond.before_iff.mp (show (Jvm.Cond.and given_1 narrow_1).before args s = true from hpre))
  obtain ⟨g1, g2⟩ := and_e hg
  obtain ⟨g3, g4⟩ := and_e g2
  obtain ⟨w0, w1, rfl⟩ : ∃ w0 w1 : Value, args = #[w0, w1] := by
    have hs : args.size = 2 := by simpa [Cond.value, given_1] using g1
    obtain ⟨L⟩ := args
    match L, hs with
    | [w0, w1], _ => exact ⟨w0, w1, rfl⟩
  have hw := fun d (hd : d ∈ tables_1) => atoms_spec (ws := Jvm.Cond.code x code maxLocals ret :: tables_1) hat d (List.mem_cons_of_mem _ hd)
  have hfit : Fit s := fun {y c} hc i hi => by
    obtain ⟨ha, rfl⟩ := Array.getElem?_eq_some_iff.mp hc
    have q := List.all_eq_true.mp ((Array.all_eq_true_iff_forall_mem.mp hF) _ (Array.getElem_mem ha)) i (List.mem_range.mpr hi)
    simpa [Array.getElem?_eq_getElem hi] using q
  obtain ⟨i0, ei0⟩ := is_v g3
  obtain rfl : w0 = (.int i0) := Option.some.inj ei0
  obtain ⟨i1, ei1⟩ := is_v g4
  obtain rfl : w1 = (.int i1) := Option.some.inj ei1
  obtain ⟨n, o, h1, h2, h3, _, L, rfl, ⟨rfl, N⟩, hq⟩ := own_rmlaw l s _ hw i0 i1 s.heap s.heap.size (Nat.le_refl _) p e ha hc hk s m _ below hf ((Spec.applies_iff_loose hf).mp happ).1 ⟨rfl, State.Warmed39.refl s, rfl⟩ trivial
  refine ⟨n, _, h1, h2, h3, hpost _ _ _ _ _ _ ⟨Cond.after_iff.mpr rfl, Cond.after_iff.mpr (eq_i res_at (Term.int_eval (1)) rfl), trivial⟩ ⟨hq.1, hq.2.1, (hq.2.2.sift fun y hy => Or.inr (N y hy)).mono (by decide) (by decide)⟩⟩
theorem main_1_1 : Claimed_1_1 := comes_1 fun _ _ _ _ _ _ h hF => ⟨h.1, hF⟩
theorem main_1_2 : Claimed_1_2 := comes_1 fun _ _ _ _ _ _ h hF => ⟨h.2.1, hF⟩
end Jvm.Pilot.@@N@@
namespace Jvm.Pilot.@@N@@
open Jvm Jvm.ClassFile Sem Op Lib Jvm.Free Jvm.Stand Jvm.Pilot.@@N@@.Jvm.D
/-! MADE BY PROGRAM (witnessworld.py) out of the Statement's table words and the real class files: 9 classes; the members and pool entries that the words name. The judged class is class 1, her method 1. -/
namespace start1
open Jvm.ClassFile
def u (s : String) : CpInfo := .utf8 (stringToUtf16 s)
/-- a pool by its gaps: so many unusable entries, then the entry; so many at the end -/
def gap : Nat → List CpInfo → List CpInfo
  | 0, r => r
  | n + 1, r => .unusable :: gap n r
def poolList (es : List (Nat × CpInfo)) (last : Nat) : List CpInfo := es.foldr (fun e r => gap e.1 (e.2 :: r)) (gap last [])
def pool (es : List (Nat × CpInfo)) (last : Nat) : Array CpInfo := ⟨poolList es last⟩
def fileOf (pool : Array CpInfo) (this : Nat) (attrs : Array Attribute := #[]) (ms : Array MethodInfo := #[]) (fl : Nat := 33) (sup : Nat := 0) (ifs : Array Nat := #[]) (fds : Array FieldInfo := #[]) : ClassFile where
  minorVersion := 0
  majorVersion := 65
  constantPool := pool
  accessFlags := fl
  thisClass := this
  superClass := sup
  interfaces := ifs
  fields := fds
  methods := ms
  attributes := attrs
def plain (name : String) (sup : Option ClassId) : Class where
  name := name
  kind := .ordinary
  loader := none
  accessFlags := 33
  super := sup
  interfaces := #[]
  cf := none
  fields := #[]
  methods := #[]
  instanceTypes := #[]
  staticTypes := #[]
  resolved := #[]
  callSites := []
  init := .initialized
  statics := none
  mirror := none

def pool0 : Array CpInfo := pool [(5, u "<init>"), (0, u "()V"), (1, .class_ 10), (1, u "java/lang/Object")] 113

def k0m0 : Method := { name := "<init>", desc := "()V", sig := { parameters := [], returnType := none }, accessFlags := 1, code := none }
/-- java/lang/Object -/
def k0 : Class := { plain "java/lang/Object" none with
  accessFlags := 33
  interfaces := #[]
  cf := some (fileOf pool0 8 #[] #[{ accessFlags := 1, nameIndex := 5, descriptorIndex := 6, attributes := #[] }] 33 0 #[] #[])
  fields := #[]
  methods := #[k0m0]
  instanceTypes := #[]
  staticTypes := #[]
  resolved := Array.replicate 124 none
  statics := none }

def pool1 : Array CpInfo := pool [(2, .class_ 4), (1, u "java/lang/Object"), (0, u "<init>"), (0, u "()V"), (2, .integer 2147483648), (0, .integer 2147483647), (0, .methodref 12 13), (0, .class_ 14), (0, .nameAndType 15 16), (0, u "dev/countersign/core/HttpSyntaxIsAlphanumericPinLaw"), (0, u "agrees"), (0, u "(I)Z"), (0, .methodref 18 19), (0, .class_ 20), (0, .nameAndType 21 16), (0, u "dev/countersign/core/HttpSyntax"), (0, u "isAlphanumeric"), (0, .methodref 12 23), (0, .nameAndType 24 16), (0, u "reference"), (0, .long 4294967295), (1, .long 10), (1, .long 26), (3, u "law"), (0, u "(II)Z")] 5

def k1m0 : Method := { name := "<init>", desc := "()V", sig := { parameters := [], returnType := none }, accessFlags := 1, code := none }
def k1c1 : Code := { maxStack := 4, maxLocals := 5, code := code, exceptionTable := #[], attributes := #[] }
def k1m1 : Method := { name := "law", desc := "(II)Z", sig := { parameters := [.int, .int], returnType := some .boolean }, accessFlags := 9, code := some k1c1 }
def k1c2 : Code := { maxStack := 2, maxLocals := 1, code := method_3_code, exceptionTable := #[], attributes := #[] }
def k1m2 : Method := { name := "agrees", desc := "(I)Z", sig := { parameters := [.int], returnType := some .boolean }, accessFlags := 10, code := some k1c2 }
def k1c3 : Code := { maxStack := 4, maxLocals := 3, code := method_4_code, exceptionTable := #[], attributes := #[] }
def k1m3 : Method := { name := "reference", desc := "(I)Z", sig := { parameters := [.int], returnType := some .boolean }, accessFlags := 10, code := some k1c3 }
/-- dev/countersign/core/HttpSyntaxIsAlphanumericPinLaw -/
def k1 : Class := { plain "dev/countersign/core/HttpSyntaxIsAlphanumericPinLaw" (some 0) with
  accessFlags := 49
  interfaces := #[]
  cf := some (fileOf pool1 12 #[] #[{ accessFlags := 1, nameIndex := 5, descriptorIndex := 6, attributes := #[] }, { accessFlags := 9, nameIndex := 33, descriptorIndex := 34, attributes := #[] }, { accessFlags := 10, nameIndex := 15, descriptorIndex := 16, attributes := #[] }, { accessFlags := 10, nameIndex := 24, descriptorIndex := 16, attributes := #[] }] 49 2 #[] #[])
  fields := #[]
  methods := #[k1m0, k1m1, k1m2, k1m3]
  instanceTypes := #[]
  staticTypes := #[]
  resolved := Array.replicate 40 none
  statics := none }

def pool2 : Array CpInfo := pool [(2, .class_ 4), (1, u "java/lang/Object"), (0, u "<init>"), (0, u "()V"), (15, .class_ 24), (1, u "dev/countersign/core/HttpSyntax"), (0, u "isAlphanumeric"), (0, u "(I)Z"), (21, u "TOKEN_SYMBOLS"), (0, u "Ljava/lang/String;")] 11

def k2m0 : Method := { name := "<init>", desc := "()V", sig := { parameters := [], returnType := none }, accessFlags := 2, code := none }
def k2c1 : Code := { maxStack := 2, maxLocals := 1, code := prog_29_method_3_code, exceptionTable := #[], attributes := #[] }
def k2m1 : Method := { name := "isAlphanumeric", desc := "(I)Z", sig := { parameters := [.int], returnType := some .boolean }, accessFlags := 8, code := some k2c1 }
/-- dev/countersign/core/HttpSyntax -/
def k2 : Class := { plain "dev/countersign/core/HttpSyntax" (some 0) with
  accessFlags := 48
  interfaces := #[]
  cf := some (fileOf pool2 22 #[] #[{ accessFlags := 2, nameIndex := 5, descriptorIndex := 6, attributes := #[] }, { accessFlags := 8, nameIndex := 25, descriptorIndex := 26, attributes := #[] }] 48 2 #[] #[{ accessFlags := 26, nameIndex := 48, descriptorIndex := 49, attributes := #[] }])
  fields := #[{ name := "TOKEN_SYMBOLS", type := (.object "java/lang/String"), accessFlags := 26, slot := 0, constantValue := 0 }]
  methods := #[k2m0, k2m1]
  instanceTypes := #[]
  staticTypes := #[(.object "java/lang/String")]
  resolved := Array.replicate 61 none
  statics := none }

def pool3 : Array CpInfo := pool [(1, u "java/lang/Cloneable"), (0, .class_ 1), (0, u "java/lang/Object"), (0, .class_ 3)] 3

/-- java/lang/Cloneable -/
def k3 : Class := { plain "java/lang/Cloneable" (some 0) with
  accessFlags := 1537
  interfaces := #[]
  cf := some (fileOf pool3 2 #[] #[] 1537 4 #[] #[])
  fields := #[]
  methods := #[]
  instanceTypes := #[]
  staticTypes := #[]
  resolved := Array.replicate 8 none
  statics := none }

def pool4 : Array CpInfo := pool [(1, u "java/io/Serializable"), (0, .class_ 1), (0, u "java/lang/Object"), (0, .class_ 3)] 3

/-- java/io/Serializable -/
def k4 : Class := { plain "java/io/Serializable" (some 0) with
  accessFlags := 1537
  interfaces := #[]
  cf := some (fileOf pool4 2 #[] #[] 1537 4 #[] #[])
  fields := #[]
  methods := #[]
  instanceTypes := #[]
  staticTypes := #[]
  resolved := Array.replicate 8 none
  statics := none }

/-- the primitive byte -/
def k5 : Class := { plain "byte" none with kind := .primitive 'B', accessFlags := 0x411 }
/-- [B -/
def k6 : Class := { plain "[B" (some 0) with kind := .array 5 .byte, interfaces := #[3, 4], accessFlags := 1041 }

/-- the primitive int -/
def k7 : Class := { plain "int" none with kind := .primitive 'I', accessFlags := 0x411 }
/-- [I -/
def k8 : Class := { plain "[I" (some 0) with kind := .array 7 .int, interfaces := #[3, 4], accessFlags := 1041 }

def heap : Heap := #[]
def classes : Array Class := #[k0, k1, k2, k3, k4, k5, k6, k7, k8]
def interned : List (Array UInt16 × Addr) := []
def slotsUsed : Nat := 0
def theMethod : MethodId := ⟨1, 1⟩
def args0 : Array Value := #[.int 1, .int 1]
def aboutOver (below : List Frame) : State where
  vm := { classes := classes, interned := interned.toArray }
  heap := heap
  slotsUsed := slotsUsed
  threads := #[{ frames := .invoking theMethod args0 :: below }]
def below0 : List Frame := [.native { method := ⟨0, 0⟩, args := #[] }]
def about1 : State := aboutOver below0
def p0 : Program := .bare "" "" ""
def e0 : Env := launch0.env 0 0 0
theorem w_frames : about1.frames = Frame.invoking theMethod args0 :: below0 := rfl
set_option maxRecDepth 65536 in
theorem w_args : argsFit about1.vm theMethod args0 = true := by decide +kernel
set_option maxRecDepth 65536 in
theorem w_heap : heapFits about1 = true := by decide +kernel
set_option maxRecDepth 65536 in
theorem w_runnable : about1.curStatus? = some .runnable := by decide +kernel
set_option maxRecDepth 65536 in
theorem w_alone : about1.alone = true := by decide +kernel
set_option maxRecDepth 65536 in
theorem w_named : about1.methodNamed? x = some theMethod := by decide +kernel
set_option maxRecDepth 65536 in
theorem w_hears : about1.hears theMethod below0 = true := by decide +kernel
set_option maxRecDepth 65536 in
theorem w_ripe : about1.ripe theMethod args0 below0 = true := by decide +kernel
theorem w_running : about1.status = .running := rfl
set_option maxRecDepth 65536 in
theorem w_room : about1.hasRoom e0.platform room_1 = true :=
  launch0.hasRoom_least _ room_1 (by decide +kernel) (by decide +kernel) (by decide +kernel) (by decide +kernel) (by decide +kernel) (by decide +kernel)
theorem allAtoms_all (ts : List Jvm.Cond) (a : Array Jvm.Value) (st : Jvm.State) : (allAtoms ts).before a st = ts.all (fun c => c.before a st) := by
  induction ts with
  | nil => rfl
  | cons c t ih =>
    show (Jvm.Cond.and c (allAtoms t)).before a st = _
    rw [Jvm.Cond.before_and, ih, List.all_cons]
def words1 : List Jvm.Cond := Jvm.Cond.code x code maxLocals ret :: tables_1
/-- a 'code' word, met by the world's own term for the bytes: nothing is compared byte by byte -/
theorem code_word {y : MethodName} {bytes : ByteArray} {mx : Nat} {rt : Option FieldType} {a : Array Value} {s : State} {m : MethodId} {meth : Method} {c : Code} (h1 : s.methodNamed? y = some m) (h2 : s.vm.method? m = some meth) (h3 : meth.code = some c) (h4 : c.code = bytes)
    (h5 : (c.maxLocals == mx && c.exceptionTable.isEmpty && decide (c.maxStack ≤ mostOperands) && decide (meth.sig.returnType = rt) && !meth.locks && decide (parseMethodDescriptor y.desc = some meth.sig)) = true) : (Jvm.Cond.code y bytes mx rt).before a s = true := by
  simp only [Bool.and_eq_true, beq_iff_eq, Bool.not_eq_true', decide_eq_true_eq] at h5
  obtain ⟨⟨⟨⟨⟨g1, g2⟩, g3⟩, g4⟩, g5⟩, g6⟩ := h5
  simp [Cond.before, Cond.holds, Cond.value, h1, h2, h3, h4, g1, g2, g3, g4, g5, g6]
def isCode : Jvm.Cond → Bool
  | .code _ _ _ _ => true
  | _ => false
theorem all_split {L : List Jvm.Cond} {P : Jvm.Cond → Bool} (h1 : L.all (fun c => isCode c || P c) = true) (h2 : ∀ c ∈ L.filter isCode, P c = true) : L.all P = true := by
  refine List.all_eq_true.mpr fun c hc => ?_
  have h := List.all_eq_true.mp h1 c hc
  rcases Bool.eq_false_or_eq_true (isCode c) with hi | hi
  · exact h2 c (List.mem_filter.mpr ⟨hc, hi⟩)
  · simpa [hi] using h
set_option maxRecDepth 65536 in
theorem w_c0 : (Jvm.Cond.code x code maxLocals ret).before args0 about1 = true := code_word (m := ⟨1, 1⟩) (meth := k1m1) (c := k1c1) (by decide +kernel) rfl rfl rfl (by decide +kernel)
set_option maxRecDepth 65536 in
theorem w_c1 : (Jvm.Cond.code ({ cls := "dev/countersign/core/HttpSyntaxIsAlphanumericPinLaw", name := "agrees", desc := "(I)Z" } : Jvm.MethodName) method_3_code (1 : Nat) (Option.some Jvm.ClassFile.FieldType.boolean)).before args0 about1 = true := code_word (m := ⟨1, 2⟩) (meth := k1m2) (c := k1c2) (by decide +kernel) rfl rfl rfl (by decide +kernel)
set_option maxRecDepth 65536 in
theorem w_c2 : (Jvm.Cond.code ({ cls := "dev/countersign/core/HttpSyntax", name := "isAlphanumeric", desc := "(I)Z" } : Jvm.MethodName) prog_29_method_3_code (1 : Nat) (Option.some Jvm.ClassFile.FieldType.boolean)).before args0 about1 = true := code_word (m := ⟨2, 1⟩) (meth := k2m1) (c := k2c1) (by decide +kernel) rfl rfl rfl (by decide +kernel)
set_option maxRecDepth 65536 in
theorem w_c3 : (Jvm.Cond.code ({ cls := "dev/countersign/core/HttpSyntaxIsAlphanumericPinLaw", name := "reference", desc := "(I)Z" } : Jvm.MethodName) method_4_code (3 : Nat) (Option.some Jvm.ClassFile.FieldType.boolean)).before args0 about1 = true := code_word (m := ⟨1, 3⟩) (meth := k1m3) (c := k1c3) (by decide +kernel) rfl rfl rfl (by decide +kernel)
def codes1 : List Jvm.Cond := [Jvm.Cond.code x code maxLocals ret, Jvm.Cond.code ({ cls := "dev/countersign/core/HttpSyntaxIsAlphanumericPinLaw", name := "agrees", desc := "(I)Z" } : Jvm.MethodName) method_3_code (1 : Nat) (Option.some Jvm.ClassFile.FieldType.boolean), Jvm.Cond.code ({ cls := "dev/countersign/core/HttpSyntax", name := "isAlphanumeric", desc := "(I)Z" } : Jvm.MethodName) prog_29_method_3_code (1 : Nat) (Option.some Jvm.ClassFile.FieldType.boolean), Jvm.Cond.code ({ cls := "dev/countersign/core/HttpSyntaxIsAlphanumericPinLaw", name := "reference", desc := "(I)Z" } : Jvm.MethodName) method_4_code (3 : Nat) (Option.some Jvm.ClassFile.FieldType.boolean)]
set_option maxRecDepth 65536 in
theorem codes_eq : words1.filter isCode = codes1 := rfl
theorem w_codes : ∀ c ∈ words1.filter isCode, c.before args0 about1 = true := by
  rw [codes_eq]
  intro c hc
  simp only [codes1, List.mem_cons, List.not_mem_nil, or_false] at hc
  rcases hc with rfl | rfl | rfl | rfl
  · exact w_c0
  · exact w_c1
  · exact w_c2
  · exact w_c3
set_option maxRecDepth 65536 in
theorem w_t1 : words1.all (fun c => isCode c || c.before args0 about1) = true := by decide +kernel
theorem w_tables : (allAtoms (Jvm.Cond.code x code maxLocals ret :: tables_1)).before args0 about1 = true := by
  rw [allAtoms_all]
  show words1.all (fun c => c.before args0 about1) = true
  refine all_split ?_ w_codes
  rw [w_t1]
set_option maxRecDepth 65536 in
theorem w_case : (Jvm.Cond.and given_1 narrow_1).before args0 about1 = true := by decide +kernel
theorem w_applies : (headSpec (Jvm.Cond.code x code maxLocals ret :: tables_1) room_1).applies x e0.platform about1 = true :=
  (Spec.applies_iff w_frames).mpr ⟨w_running, w_runnable, w_alone, w_named, w_hears, w_ripe, w_room, w_tables⟩
theorem atStart : AtStart classFile x code maxLocals ret World_1 tables_1 room_1 Calls_1 rest_1 Pre_1 launch0 p0 e0 about1 theMethod args0 below0 :=
  ⟨lists_1, trivial, launch0.admits_env _ _ _, launch0.least_env, fairChoices_fair.cas, fairChoices_fair.clock, w_frames, w_args, w_heap, w_applies, trivial, trivial, w_case⟩
end start1
theorem witness_1 : WitnessClaimed_1 := ⟨start1.p0, start1.e0, start1.about1, start1.theMethod, start1.args0, start1.below0, start1.atStart⟩
end Jvm.Pilot.@@N@@
