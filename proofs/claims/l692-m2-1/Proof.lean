import JvmDerived
import JvmDerived.Pilot.@@N@@Statement
import JvmDerived.Pilot.@@N@@Code
set_option linter.unusedVariables false
set_option linter.unusedSimpArgs false
namespace Jvm.RoadKit
open Sem ClassFile Op Lib Jvm.Stand Jvm.Free Jvm.LawKit
section Own
variable {p : Program} {l : Launch} {e : Env} {R : Room} {s : State} {m : MethodId} {args : Array Value} {below : List Frame} {meth : Method} {c : Code} {T T' : State} {locs : List Loc} {cells slots : Nat} {Z : State} {a0 : Array Value} {h h' : Heap}
abbrev own_lv (x : Int64) : Slot := .val (.long x)
abbrev own_S (p : Program) (e : Env) (below : List Frame) (T : State) (m : MethodId) (pc : Nat) (L : Array Slot) (S : List Value) (t : State) : Prop := Steps p.tables e below (T.setTop (mkF m pc L S)) t
/-- in one state, from the second frame to the first -/
abbrev own_V (p : Program) (e : Env) (below : List Frame) (T : State) (f' f : JFrame) : Prop := ∀ t, Steps p.tables e below (T.setTop f') t → Steps p.tables e below (T.setTop f) t
/-- from this frame on the run comes to an end that G says -/
def own_Go (p : Program) (e : Env) (below : List Frame) (G : State → Outcome → Prop) (T : State) (f : JFrame) : Prop :=
  ∃ t o, Steps p.tables e below (T.setTop f) t ∧ G t o
theorem own_st {G : State → Outcome → Prop} {f f' : JFrame} (st : ∀ t, Steps p.tables e below (T'.setTop f') t → Steps p.tables e below (T.setTop f) t) (k : own_Go p e below G T' f') : own_Go p e below G T f := by
  obtain ⟨t, o, h1, h2⟩ := k
  exact ⟨t, o, st t h1, h2⟩
/-- from this frame on the run comes to a state and a frame that P says -/
def own_Pk (p : Program) (e : Env) (below : List Frame) (P : State → JFrame → Prop) (T : State) (f : JFrame) : Prop :=
  ∃ T' f', P T' f' ∧ ∀ t, Steps p.tables e below (T'.setTop f') t → Steps p.tables e below (T.setTop f) t
theorem own_sp {P : State → JFrame → Prop} {f f' : JFrame} (st : ∀ t, Steps p.tables e below (T'.setTop f') t → Steps p.tables e below (T.setTop f) t) (k : own_Pk p e below P T' f') : own_Pk p e below P T f := by
  obtain ⟨T2, f2, h1, h2⟩ := k
  exact ⟨T2, f2, h1, fun t q => st t (h2 t q)⟩
theorem own_pm {P P' : State → JFrame → Prop} {f : JFrame} (k : own_Pk p e below P T f) (q : ∀ T' f', P T' f' → P' T' f') : own_Pk p e below P' T f := by
  obtain ⟨T2, f2, h1, h2⟩ := k
  exact ⟨T2, f2, q _ _ h1, h2⟩
/-- it returned, Q says what, and the frame is kept -/
def own_End (s : State) (below : List Frame) (Q : Option Value → Heap → List Loc → Prop) (C S : Nat) : State → Outcome → Prop := fun t o =>
  t.status = .running ∧ Ended t below o ∧ ∃ v L, o = .returned v ∧ Q v t.heap L ∧ FrameEnd s o t L C S
theorem own_body {y : MethodName} {bytes : ByteArray} {ml : Nat} {rt : Option FieldType} {rm : Room} {as' : Array Value} {h0 : Heap} {Q : Option Value → Heap → List Loc → Prop} {C S : Nat} {ws : List Jvm.Cond} (hp : plainFor y = true)
    (H : ∀ p e s m below meth c s₁, BodyLoose p l y (head1 (Jvm.Cond.code y bytes ml rt :: ws) rm) bytes ml rt e s m as' below meth c s₁ → c.maxLocals = ml → Z.Warmed39 s.vm → s₁.heap = h0 → own_Go p e below (own_End s below Q C S) s₁ (entryFrame m as' ml)) :
    MetFree l y (head1 (Jvm.Cond.code y bytes ml rt :: ws) rm) (fun a U => a = as' ∧ Z.Warmed39 U.vm ∧ U.heap = h0) (fun _ _ _ _ _ => True) (fun _ U o U' => ∃ v L, o = .returned v ∧ Q v U'.heap L ∧ FrameEnd U o U' L C S) := by
  refine MetFree.of_bodySF hp hisR ?_
  intro p e s m args below meth c s₁ Bd hml hP hK
  obtain ⟨rfl, hZ, hh⟩ := hP
  have e0 : s₁.heap = h0 := by rw [← hh, Bd.state]; rfl
  obtain ⟨t, o, h1, h2, h3, h4⟩ := H p e s m below meth c s₁ Bd hml hZ e0
  exact ⟨t, o, h1, h2, h3, h4⟩
/-- a callee's contract -/
abbrev own_Ct (l : Launch) (Z : State) (y : MethodName) (bytes : ByteArray) (ml : Nat) (rt : Option FieldType) (rm : Room) (as' : Array Value) (h0 : Heap) (Q : Option Value → Heap → List Loc → Prop) : Prop :=
  MetFree l y (head1 [Jvm.Cond.code y bytes ml rt] rm) (fun a U => a = as' ∧ Z.Warmed39 U.vm ∧ U.heap = h0) (fun _ _ _ _ _ => True) (fun _ U o U' => ∃ v L, o = .returned v ∧ Q v U'.heap L ∧ FrameEnd U o U' L rm.cells rm.slots)
section Ret
variable {Q : Option Value → Heap → List Loc → Prop} {C S : Nat}
theorem own_out {v : Option Value} {f : JFrame} (X : Stand p l e R s m args below meth c T locs cells slots) (hv : meth.sig.returnType = none → v = none) (hlocks : meth.locks = false) (hC : cells ≤ C) (hS : slots ≤ S) (eT : T.heap = h) (hq : Q v h locs)
    (go : ∀ fs, (∀ (f : JFrame) (acts : List Action), f.method = m → f.locked = none → f.entered = [] → (doReturn e (T.setTop f) acts v).1 = T.setFrames fs) → Steps p.tables e below (T.setTop f) (T.setFrames fs)) :
    own_Go p e below (own_End s below Q C S) T f := by
  obtain ⟨fs, hr, hrun, hended, hW, hsame⟩ := X.leave (v := v) hv hlocks
  refine ⟨_, _, go fs hr, hrun, hended, _, _, rfl, ?_, ⟨_, rfl⟩, hW, hsame.mono hC hS⟩
  show Q v T.heap locs
  rw [eT]; exact hq
theorem own_retI (X : Stand p l e R s m args below meth c T locs cells slots) (hx : p.tables.exec = Jvm.exec) (hlocks : meth.locks = false) (hret : meth.sig.returnType = some .int) {pc : Nat} {Ls : Array Slot} {z : Int32} {rest : List Value} (hd : decode c.code pc = .ok (.ireturn, 1)) (hC : cells ≤ C) (hS : slots ≤ S) (eT : T.heap = h) (hq : Q (some (.int z)) h locs) :
    own_Go p e below (own_End s below Q C S) T (mkF m pc Ls (.int z :: rest)) :=
  own_out X (fun q => by rw [hret] at q; cases q) hlocks hC hS eT hq fun fs hr => retOut X hx hret rfl (Or.inl ⟨rfl, Or.inl rfl, z, rfl⟩) hd hr
theorem own_retZ (X : Stand p l e R s m args below meth c T locs cells slots) (hx : p.tables.exec = Jvm.exec) (hlocks : meth.locks = false) (hret : meth.sig.returnType = some .boolean) {pc : Nat} {Ls : Array Slot} {z : Int32} {rest : List Value} (hd : decode c.code pc = .ok (.ireturn, 1)) (hz : z = 0 ∨ z = 1) (hC : cells ≤ C) (hS : slots ≤ S) (eT : T.heap = h) (hq : Q (some (.int z)) h locs) :
    own_Go p e below (own_End s below Q C S) T (mkF m pc Ls (.int z :: rest)) :=
  own_out X (fun q => by rw [hret] at q; cases q) hlocks hC hS eT hq fun fs hr => retN X hx hret (Or.inl rfl) hd (by
    have : nar .boolean z = z := by rcases hz with rfl | rfl <;> decide
    rw [this]; exact hr)
theorem own_retB (X : Stand p l e R s m args below meth c T locs cells slots) (hx : p.tables.exec = Jvm.exec) (hlocks : meth.locks = false) (hret : meth.sig.returnType = some .byte) {pc : Nat} {Ls : Array Slot} {z : Int32} {rest : List Value} (hd : decode c.code pc = .ok (.ireturn, 1)) (hz : nar .byte z = z) (hC : cells ≤ C) (hS : slots ≤ S) (eT : T.heap = h) (hq : Q (some (.int z)) h locs) :
    own_Go p e below (own_End s below Q C S) T (mkF m pc Ls (.int z :: rest)) :=
  own_out X (fun q => by rw [hret] at q; cases q) hlocks hC hS eT hq fun fs hr => retN X hx hret (Or.inr (Or.inl rfl)) hd (by rw [hz]; exact hr)
theorem own_retJ (X : Stand p l e R s m args below meth c T locs cells slots) (hx : p.tables.exec = Jvm.exec) (hlocks : meth.locks = false) (hret : meth.sig.returnType = some .long) {pc : Nat} {Ls : Array Slot} {z : Int64} {rest : List Value} (hd : decode c.code pc = .ok (.lreturn, 1)) (hC : cells ≤ C) (hS : slots ≤ S) (eT : T.heap = h) (hq : Q (some (.long z)) h locs) :
    own_Go p e below (own_End s below Q C S) T (mkF m pc Ls (.long z :: rest)) :=
  own_out X (fun q => by rw [hret] at q; cases q) hlocks hC hS eT hq fun fs hr => retOut X hx hret rfl (Or.inr (Or.inl ⟨rfl, rfl, z, rfl⟩)) hd hr
theorem own_retR {t : FieldType} {w : Value} (X : Stand p l e R s m args below meth c T locs cells slots) (hx : p.tables.exec = Jvm.exec) (hlocks : meth.locks = false) (hret : meth.sig.returnType = some t) (ht : t.isReference = true) (hw : w.isRef = true) {pc : Nat} {Ls : Array Slot} {rest : List Value} (hd : decode c.code pc = .ok (.areturn, 1)) (hC : cells ≤ C) (hS : slots ≤ S) (eT : T.heap = h) (hq : Q (some w) h locs) :
    own_Go p e below (own_End s below Q C S) T (mkF m pc Ls (w :: rest)) :=
  own_out X (fun q => by rw [hret] at q; cases q) hlocks hC hS eT hq fun fs hr => retOut X hx hret (by cases t <;> cases w <;> first | rfl | (cases ht; done) | (cases hw; done)) (Or.inr (Or.inr (Or.inr (Or.inr ⟨rfl, ht, hw⟩)))) hd hr
theorem own_retV (X : Stand p l e R s m args below meth c T locs cells slots) (hx : p.tables.exec = Jvm.exec) (hlocks : meth.locks = false) (hret : meth.sig.returnType = none) {pc : Nat} {Ls : Array Slot} (hd : decode c.code pc = .ok (.return_, 1)) (hC : cells ≤ C) (hS : slots ≤ S) (eT : T.heap = h) (hq : Q none h locs) :
    own_Go p e below (own_End s below Q C S) T (mkF m pc Ls []) :=
  own_out X (fun _ => rfl) hlocks hC hS eT hq fun fs hr => X.returnOut hx hret hd hr
end Ret
section Call
variable {own : String} {index : Nat} {y : MethodName} {bytes : ByteArray} {ml : Nat} {rt : Option FieldType} {rm : Room} {Q : Option Value → Heap → List Loc → Prop} {g : JFrame} {argsL rest : List Value} {W : Nat}
theorem own_callS (X : Stand p l e R s m args below meth c T locs cells slots) (hx : p.tables.exec = Jvm.exec) (hZ : Z.Warmed39 s.vm) (hown : s.vm.findClass own = some m.cls)
    (w1 : (Jvm.Cond.methodLink own index y).before a0 Z = true) (w2 : (Jvm.Cond.static y).before a0 Z = true) (w3 : (Jvm.Cond.initialized y.cls).before a0 Z = true) (w4 : (Jvm.Cond.code y bytes ml rt).before a0 Z = true)
    (hy : y.cls ≠ "java/lang/invoke/MethodHandle" ∧ y.cls ≠ "java/lang/invoke/VarHandle") (ct : own_Ct l Z y bytes ml rt rm argsL.toArray h Q) (eT : T.heap = h) (hg : g.method = m) (hsize : g.locals.size = c.maxLocals)
    (hlen : ∀ sig, parseMethodDescriptor y.desc = some sig → argsL.length = sig.parameters.length) (hstack : g.stack = argsL.reverse ++ rest) (hW : 2 * g.monitorRoom + (rest.map fun v => v.category).sum ≤ W) (hdg : decode c.code g.pc = .ok (.invokestatic index, 3))
    (hf : rm.frames + 1 ≤ R.frames) (hl : W + (ml + 11) + rm.locals ≤ R.locals) (hc : cells + rm.cells ≤ R.cells) (hs : slots + rm.slots ≤ R.slots) :
    ∃ v T' L, Stand p l e R s m args below meth c T' (locs ++ L) (cells + rm.cells) (slots + rm.slots) ∧ Q v T'.heap L ∧ ∀ target, Steps p.tables e below (T'.setTop { g with pc := g.pc + 3, stack := v.toList ++ rest }) target → Steps p.tables e below (T.setTop g) target := by
  obtain ⟨v, vm1, ⟨T1, L1, k1, n1⟩, -, X1, ⟨L, hQ, h1, h2, h3⟩, st⟩ := Jvm.LawKit.callS X hx hown (mvT hZ w1) (mvT hZ w2) (mvT hZ w3) (mvT hZ w4) hy (backOf (W := W) ct hZ w4 w3 hf hl) hg hsize hlen hstack hW hdg (fun _ _ => ⟨rfl, eT, hc, hs⟩)
  dsimp only [Pt.U, Pt.locs, Pt.cells, Pt.slots] at X1 h1 h2 h3 hQ st
  subst h1 h2 h3
  exact ⟨v, T1, L, X1, hQ, st⟩
theorem own_callI {a : Addr} (X : Stand p l e R s m args below meth c T locs cells slots) (hx : p.tables.exec = Jvm.exec) (hZ : Z.Warmed39 s.vm) (hown : s.vm.findClass own = some m.cls) (hy1 : y.name = "<init>")
    (w1 : (Jvm.Cond.methodLink own index y).before a0 Z = true) (w2 : (Jvm.Cond.instanceMethod y).before a0 Z = true) (w3 : (Jvm.Cond.initialized y.cls).before a0 Z = true) (w4 : (Jvm.Cond.code y bytes ml none).before a0 Z = true)
    (hy : y.cls ≠ "java/lang/invoke/MethodHandle" ∧ y.cls ≠ "java/lang/invoke/VarHandle") (ct : own_Ct l Z y bytes ml none rm (.ref a :: argsL).toArray h Q) (eT : T.heap = h) (hg : g.method = m) (hsize : g.locals.size = c.maxLocals)
    (hlen : ∀ sig, parseMethodDescriptor y.desc = some sig → argsL.length = sig.parameters.length) (hstack : g.stack = argsL.reverse ++ .ref a :: rest) (hW : 2 * g.monitorRoom + (rest.map fun v => v.category).sum ≤ W) (hdg : decode c.code g.pc = .ok (.invokespecial index, 3))
    (hf : rm.frames + 1 ≤ R.frames) (hl : W + (ml + 11) + rm.locals ≤ R.locals) (hc : cells + rm.cells ≤ R.cells) (hs : slots + rm.slots ≤ R.slots) :
    ∃ v T' L, Stand p l e R s m args below meth c T' (locs ++ L) (cells + rm.cells) (slots + rm.slots) ∧ Q v T'.heap L ∧ ∀ target, Steps p.tables e below (T'.setTop { g with pc := g.pc + 3, stack := v.toList ++ rest }) target → Steps p.tables e below (T.setTop g) target := by
  obtain ⟨v, vm1, ⟨T1, L1, k1, n1⟩, -, X1, ⟨L, hQ, h1, h2, h3⟩, st⟩ := X.specialBack hx hy1 hown (mvT hZ w1) (mvT hZ w2) (mvT hZ w4) hy (backOf (W := W) ct hZ w4 w3 hf hl) hg hsize (Steps.refl _) hlen hstack hW hdg (fun _ _ => ⟨rfl, eT, hc, hs⟩)
  dsimp only [Pt.U, Pt.locs, Pt.cells, Pt.slots] at X1 h1 h2 h3 hQ st
  subst h1 h2 h3
  exact ⟨v, T1, L, X1, hQ, fun t k => st.trans k⟩
theorem own_callV {a : Addr} {C : String} (X : Stand p l e R s m args below meth c T locs cells slots) (hx : p.tables.exec = Jvm.exec) (hZ : Z.Warmed39 s.vm) (hown : s.vm.findClass own = some m.cls) (E : Exa Z h a C) {y0 : MethodName}
    (w1 : (Jvm.Cond.methodLink own index y0).before a0 Z = true) (w2 : (Jvm.Cond.declares y0).before a0 Z = true) (w5 : (Jvm.Cond.selects C y0 y).before a0 Z = true) (nf : NotFace s y0) (w6 : (Jvm.Cond.instanceMethod y).before a0 Z = true) (w3 : (Jvm.Cond.initialized y.cls).before a0 Z = true) (w4 : (Jvm.Cond.code y bytes ml rt).before a0 Z = true)
    (hy : y0.cls ≠ "java/lang/invoke/MethodHandle" ∧ y0.cls ≠ "java/lang/invoke/VarHandle") (ct : own_Ct l Z y bytes ml rt rm (.ref a :: argsL).toArray h Q) (eT : T.heap = h) (hg : g.method = m) (hsize : g.locals.size = c.maxLocals)
    (hlen : ∀ sig, parseMethodDescriptor y0.desc = some sig → argsL.length = sig.parameters.length) (hstack : g.stack = argsL.reverse ++ .ref a :: rest) (hW : 2 * g.monitorRoom + (rest.map fun v => v.category).sum ≤ W) (hdg : decode c.code g.pc = .ok (.invokevirtual index, 3))
    (hf : rm.frames + 1 ≤ R.frames) (hl : W + (ml + 11) + rm.locals ≤ R.locals) (hc : cells + rm.cells ≤ R.cells) (hs : slots + rm.slots ≤ R.slots) :
    ∃ v T' L, Stand p l e R s m args below meth c T' (locs ++ L) (cells + rm.cells) (slots + rm.slots) ∧ Q v T'.heap L ∧ ∀ target, Steps p.tables e below (T'.setTop { g with pc := g.pc + 3, stack := v.toList ++ rest }) target → Steps p.tables e below (T.setTop g) target := by
  obtain ⟨cq, kq, qa, qb, qc⟩ := isOf hZ eT E
  obtain ⟨v, vm1, ⟨T1, L1, k1, n1⟩, -, X1, ⟨L, hQ, h1, h2, h3⟩, st⟩ := X.virtualBack hx (y := y0) (z := y) hown (mvT hZ w1) (mvT hZ w2) nf (mvT hZ w5) (mvT hZ w6) hy (backOf (W := W) ct hZ w4 w3 hf hl) qa qc hg hsize (Steps.refl _) hlen hstack hW hdg (fun _ _ => ⟨rfl, eT, hc, hs⟩)
  dsimp only [Pt.U, Pt.locs, Pt.cells, Pt.slots] at X1 h1 h2 h3 hQ st
  subst h1 h2 h3
  exact ⟨v, T1, L, X1, hQ, fun t k => st.trans k⟩
theorem own_callP {a : Addr} {C C0 : String} {x z : MethodName} (X : Stand p l e R s m args below meth c T locs cells slots) (hx : p.tables.exec = Jvm.exec) (hZ : Z.Warmed39 s.vm) (hown : s.vm.findClass own = some m.cls) (E : Exa Z h a C0) (hz : z.cls = y.cls)
    (w1 : (Jvm.Cond.methodLink own index y).before a0 Z = true) (w2 : (Jvm.Cond.instanceMethod y).before a0 Z = true) (w5 : (Jvm.Cond.selects C x z).before a0 Z = true) (wp : (Jvm.Cond.privateMethod y).before a0 Z = true) (w3 : (Jvm.Cond.initialized y.cls).before a0 Z = true) (w4 : (Jvm.Cond.code y bytes ml rt).before a0 Z = true)
    (hy : y.cls ≠ "java/lang/invoke/MethodHandle" ∧ y.cls ≠ "java/lang/invoke/VarHandle") (ct : own_Ct l Z y bytes ml rt rm (.ref a :: argsL).toArray h Q) (eT : T.heap = h) (hg : g.method = m) (hsize : g.locals.size = c.maxLocals)
    (hlen : ∀ sig, parseMethodDescriptor y.desc = some sig → argsL.length = sig.parameters.length) (hstack : g.stack = argsL.reverse ++ .ref a :: rest) (hW : 2 * g.monitorRoom + (rest.map fun v => v.category).sum ≤ W) (hdg : decode c.code g.pc = .ok (.invokevirtual index, 3))
    (hf : rm.frames + 1 ≤ R.frames) (hl : W + (ml + 11) + rm.locals ≤ R.locals) (hc : cells + rm.cells ≤ R.cells) (hs : slots + rm.slots ≤ R.slots) :
    ∃ v T' L, Stand p l e R s m args below meth c T' (locs ++ L) (cells + rm.cells) (slots + rm.slots) ∧ Q v T'.heap L ∧ ∀ target, Steps p.tables e below (T'.setTop { g with pc := g.pc + 3, stack := v.toList ++ rest }) target → Steps p.tables e below (T.setTop g) target := by
  obtain ⟨cq, q1, q2⟩ := E.cell
  have hp : s.PrivateAt y := Cond.privateMethod_at (mvP hZ wp (args := #[]))
  have w5' : (Jvm.Cond.selects C x z).before args s = true := mvT hZ w5
  obtain ⟨c2, r2, m2, -, -, q3, -, kP, hkP, hkPi⟩ := Cond.selects_spec w5'
  have hcl : s.vm.findClass y.cls = some m2.cls := hz ▸ findClass_of_methodNamed q3
  have hsel : (Jvm.Cond.selects y.cls y y).before args s = true := selects_self_of_private hcl hkP hkPi hp (mvT hZ w2) hy
  obtain ⟨v, vm1, ⟨T1, L1, k1, n1⟩, -, X1, ⟨L, hQ, h1, h2, h3⟩, st⟩ := X.privateBack hx hown (mvT hZ w1) (mvT hZ w2) hsel hp (mvT hZ w4) hy (backOf (W := W) ct hZ w4 w3 hf hl) hg hsize (Steps.refl _) (a := a) (by rw [eT]; exact q1) q2 hlen hstack hW hdg (fun _ _ => ⟨rfl, eT, hc, hs⟩)
  dsimp only [Pt.U, Pt.locs, Pt.cells, Pt.slots] at X1 h1 h2 h3 hQ st
  subst h1 h2 h3
  exact ⟨v, T1, L, X1, hQ, fun t k => st.trans k⟩
theorem own_callF {a : Addr} {C : String} {count : Nat} (X : Stand p l e R s m args below meth c T locs cells slots) (hx : p.tables.exec = Jvm.exec) (hZ : Z.Warmed39 s.vm) (hown : s.vm.findClass own = some m.cls) (E : Exa Z h a C) {y0 : MethodName}
    (w1 : (Jvm.Cond.methodLink own index y0).before a0 Z = true) (w2 : (Jvm.Cond.declares y0).before a0 Z = true) (wf : (Jvm.Cond.interfaceMethod y0.cls y0.cls y0.name y0.desc).before args s = true) (w5 : (Jvm.Cond.selects C y0 y).before a0 Z = true) (w6 : (Jvm.Cond.instanceMethod y).before a0 Z = true) (wp : (Jvm.Cond.publicMethod y).before a0 Z = true) (wu : (Jvm.Cond.unhidden C y0.name y0.desc).before a0 Z = true) (wk : (Jvm.Cond.castable C y0.cls).before a0 Z = true) (w3 : (Jvm.Cond.initialized y.cls).before a0 Z = true) (w4 : (Jvm.Cond.code y bytes ml rt).before a0 Z = true)
    (hy : y0.cls ≠ "java/lang/invoke/MethodHandle" ∧ y0.cls ≠ "java/lang/invoke/VarHandle") (ct : own_Ct l Z y bytes ml rt rm (.ref a :: argsL).toArray h Q) (eT : T.heap = h) (hg : g.method = m) (hsize : g.locals.size = c.maxLocals)
    (hlen : ∀ sig, parseMethodDescriptor y0.desc = some sig → argsL.length = sig.parameters.length) (hstack : g.stack = argsL.reverse ++ .ref a :: rest) (hW : 2 * g.monitorRoom + (rest.map fun v => v.category).sum ≤ W) (hdg : decode c.code g.pc = .ok (.invokeinterface index count, 5))
    (hf : rm.frames + 1 ≤ R.frames) (hl : W + (ml + 11) + rm.locals ≤ R.locals) (hc : cells + rm.cells ≤ R.cells) (hs : slots + rm.slots ≤ R.slots) :
    ∃ v T' L, Stand p l e R s m args below meth c T' (locs ++ L) (cells + rm.cells) (slots + rm.slots) ∧ Q v T'.heap L ∧ ∀ target, Steps p.tables e below (T'.setTop { g with pc := g.pc + 5, stack := v.toList ++ rest }) target → Steps p.tables e below (T.setTop g) target := by
  obtain ⟨cq, kq, qa, qb, qc⟩ := isOf hZ eT E
  obtain ⟨v, vm1, ⟨T1, L1, k1, n1⟩, -, X1, ⟨L, hQ, h1, h2, h3⟩, st⟩ := X.interfaceBack hx (xi := y0) (y := y) hown (mvT hZ w1) (mvT hZ w2) wf (mvT hZ w5) (mvT hZ w6) (mvT hZ wp) (mvT hZ wu) (mvT hZ wk) hy (backOf (W := W) ct hZ w4 w3 hf hl) qa qb qc hg hsize (Steps.refl _) hlen hstack hW hdg (fun _ _ => ⟨rfl, eT, hc, hs⟩)
  dsimp only [Pt.U, Pt.locs, Pt.cells, Pt.slots] at X1 h1 h2 h3 hQ st
  subst h1 h2 h3
  exact ⟨v, T1, L, X1, hQ, fun t k => st.trans k⟩
end Call
/-- getfield by an entry that is resolved already -/
theorem own_getR {O n d : String} {a : Addr} {v : Value} (X : Stand p l e R s m args below meth c T locs cells slots) (hx : p.tables.exec = Jvm.exec) (hZ : Z.Warmed39 s.vm) {own : String} {index : Nat} (hown : s.vm.findClass own = some m.cls) (w : (Jvm.Cond.fieldRef own index O n d).before a0 Z = true) (eT : T.heap = h) (F : Fld Z h a O n d v)
    {g : JFrame} (hg : g.method = m) {rest : List Value} (hs : g.stack = .ref a :: rest) (hd : decode c.code g.pc = .ok (.getfield index, 3)) :
    ∀ t, Steps p.tables e below (T.setTop { g with pc := g.pc + 3, stack := v :: rest }) t → Steps p.tables e below (T.setTop g) t := by
  have hT : Z.Warmed39 T.vm := wtrans hZ X.warmed
  have w' := Cond.fieldRef_warmed39 hT w
  have hownT : (Z.setVm T.vm).vm.findClass own = some m.cls := by
    show T.vm.findClass own = _
    rw [X.warmed.alike.findClass]; exact hown
  obtain ⟨c1, k1, i1, f1, q1, q2⟩ := Cond.fieldRef_spec hownT w'
  obtain ⟨cell, cf, k, i, f, h1, h2, h3, h4, -, -, h7⟩ := F
  obtain ⟨k', hi, -⟩ := State.fieldFound?_setVm (s := Z) hT.alike h2
  cases q1.symm.trans hi
  exact fun t kt => (X.getfieldR hx hg q2 h3 hs (by rw [eT]; exact h1) h4 h7 hd (Steps.refl _)).trans kt
theorem own_Sta.keep {C n d : String} {v : Value} (S : Sta Z h C n d v) (K : Keep h h' []) : Sta Z h' C n d v := by
  obtain ⟨cf, i, k, f, st, cell, h1, h2, h3, h4, h5, h6, h7⟩ := S
  exact ⟨cf, i, k, f, st, cell, h1, h2, h3, h4, K.2.1 _ _ h5 nin0, h6, h7⟩
theorem own_imod (x y : Int32) : x - (x / y) * y = x % y := by
  apply Int32.toInt_inj.mp
  have h1 := rng32 (x % y)
  rw [Int32.toInt_sub, Int32.toInt_mul, Int32.toInt_div, Int.bmod_mul_bmod, Int.sub_bmod_bmod, Int.mul_comm (x.toInt.tdiv y.toInt), ← Int.tmod_def, ← Int32.toInt_mod]
  exact Int.bmod_eq_of_le_mul_two (by omega) (by omega)
theorem own_irem {T target : State} {g : JFrame} (h : At T m c below) (hx : p.tables.exec = Jvm.exec) (hg : g.method = m) {x y : Int32} {rest : List Value} (hd : decode c.code g.pc = .ok (.irem, 1)) (hs : g.stack = .int y :: .int x :: rest) (hy : y ≠ 0)
    (hr : Steps p.tables e below (T.setTop { g with pc := g.pc + 1, stack := .int (x % y) :: rest }) target) : Steps p.tables e below (T.setTop g) target := by
  refine XS.irem h hx hg hd hs hy ?_
  rw [own_imod x y]
  exact hr
section Cmp
theorem own_tltL {x y : Int64} (h : x < y) : ifCond.holds .lt (lcmpW x y) = true ∧ ifCond.holds .ge (lcmpW x y) = false := by
  rw [if0, if0]; exact ⟨(tlt ((lw_lt x y).mpr h)).1, (tlt ((lw_lt x y).mpr h)).2.1⟩
theorem own_fltL {x y : Int64} (h : ¬ x < y) : ifCond.holds .lt (lcmpW x y) = false ∧ ifCond.holds .ge (lcmpW x y) = true := by
  have q : ¬ lcmpW x y < 0 := fun q => h ((lw_lt x y).mp q)
  rw [if0, if0]; exact ⟨(flt q).1, (flt q).2.1⟩
theorem own_tgtL {x y : Int64} (h : y < x) : ifCond.holds .gt (lcmpW x y) = true ∧ ifCond.holds .le (lcmpW x y) = false := by
  rw [if0, if0]; exact ⟨(tlt ((lw_gt x y).mpr h)).2.2.1, (tlt ((lw_gt x y).mpr h)).2.2.2⟩
theorem own_fgtL {x y : Int64} (h : ¬ y < x) : ifCond.holds .gt (lcmpW x y) = false ∧ ifCond.holds .le (lcmpW x y) = true := by
  have q : ¬ 0 < lcmpW x y := fun q => h ((lw_gt x y).mp q)
  rw [if0, if0]; exact ⟨(flt q).2.2.1, (flt q).2.2.2⟩
theorem own_teqL {x y : Int64} (h : x = y) : ifCond.holds .eq (lcmpW x y) = true ∧ ifCond.holds .ne (lcmpW x y) = false := by
  rw [if0, if0]; exact ⟨(teq ((lw_eq x y).mpr h)).1, (teq ((lw_eq x y).mpr h)).2⟩
theorem own_feqL {x y : Int64} (h : ¬ x = y) : ifCond.holds .eq (lcmpW x y) = false ∧ ifCond.holds .ne (lcmpW x y) = true := by
  have q : ¬ lcmpW x y = 0 := fun q => h ((lw_eq x y).mp q)
  rw [if0, if0]; exact ⟨(feq q).1, (feq q).2⟩
end Cmp
/-- an array: its kind, its length, its values -/
def own_AV (Z : State) (h : Heap) (a : Addr) (ty : FieldType) (n : Nat) (f : Nat → Value) : Prop :=
  ∃ cl : Cell, Arr Z h a cl ty ∧ cl.slots.size = n ∧ (∀ i, i < n → cl.slots[i]? = some (f i)) ∧ ∀ i, i < n → fits ty (f i) = true
/-- an array of int-like values -/
def own_AI (Z : State) (h : Heap) (a : Addr) (ty : FieldType) (n : Nat) (f : Nat → Int32) : Prop := own_AV Z h a ty n (fun i => .int (f i))
def own_AL (Z : State) (h : Heap) (a : Addr) (n : Nat) (f : Nat → Int64) : Prop := own_AV Z h a .long n (fun i => .long (f i))
def own_updV (f : Nat → Value) (k : Nat) (v : Value) : Nat → Value := fun i => if i = k then v else f i
def own_upd (f : Nat → Int32) (k : Nat) (v : Int32) : Nat → Int32 := fun i => if i = k then v else f i
def own_updL (f : Nat → Int64) (k : Nat) (v : Int64) : Nat → Int64 := fun i => if i = k then v else f i
theorem own_idx {j : Int32} {k n : Nat} {cl : Cell} (S : cl.slots.size = n) (hj : j.toInt = (k : Int)) (hk : k < n) : ¬ (j < 0 ∨ cl.slots.size ≤ j.toNatClampNeg) ∧ j.toNatClampNeg = k := by
  have e0 : (0 : Int32).toInt = 0 := by decide
  have e1 : j.toNatClampNeg = k := by
    show j.toInt.toNat = k
    rw [hj]; rfl
  refine ⟨?_, e1⟩
  rintro (q | q)
  · rw [Int32.lt_iff_toInt_lt, e0, hj] at q; omega
  · rw [e1, S] at q; omega
section AV
variable {a b : Addr} {ty : FieldType} {n : Nat} {f : Nat → Value}
theorem own_AV.lt (A : own_AV Z h a ty n f) : a < h.size := by obtain ⟨cl, h1, -⟩ := A; exact h1.lt
theorem own_AV.ext (A : own_AV Z h a ty n f) (E : Ext h h') : own_AV Z h' a ty n f := by obtain ⟨cl, h1, r⟩ := A; exact ⟨cl, h1.ext E, r⟩
theorem own_AV.other (A : own_AV Z h b ty n f) {sl : Nat} {v : Value} (W : Wr h h' a sl v) (q : b ≠ a) : own_AV Z h' b ty n f := by obtain ⟨cl, h1, r⟩ := A; exact ⟨cl, h1.other W q, r⟩
theorem own_AV.keep {ws : List Addr} (A : own_AV Z h a ty n f) (K : Keep h h' ws) (q : a ∉ ws) : own_AV Z h' a ty n f := by obtain ⟨cl, h1, r⟩ := A; exact ⟨cl, ⟨K.2.1 a cl h1.1 q, h1.2⟩, r⟩
theorem own_AV.congr {g : Nat → Value} (A : own_AV Z h a ty n f) (q : ∀ i, i < n → f i = g i) : own_AV Z h a ty n g := by
  obtain ⟨cl, h1, h2, h3, h4⟩ := A
  exact ⟨cl, h1, h2, fun i hi => by rw [← q i hi]; exact h3 i hi, fun i hi => by rw [← q i hi]; exact h4 i hi⟩
theorem own_AV.new {cA : ClassId} {z : Int32} (A : Arr Z h a (newA cA ty z) ty) (hn : z.toNatClampNeg = n) (hf : fits ty (defaultValue ty) = true) : own_AV Z h a ty n (fun _ => defaultValue ty) :=
  ⟨_, A, by rw [sz_new, hn], fun i hi => by subst hn; simp only [newA, Array.getElem?_replicate, hi, if_true], fun _ _ => hf⟩
theorem own_AV.set {k : Nat} {v : Value} (F : own_AV Z h a ty n f) (hk : k < n) (hv : fits ty v = true) (W : Wr h h' a k v) : own_AV Z h' a ty n (own_updV f k v) := by
  obtain ⟨cl, A, S, H, G⟩ := F
  refine ⟨_, A.same W, by rw [sz_set, S], fun i hi => ?_, fun i hi => ?_⟩
  · by_cases q : i = k
    · subst q; simp [Cell.setSlot, own_updV, S, hk]
    · have q' : ¬ k = i := fun r => q r.symm
      simp only [Cell.setSlot, own_updV, q, if_false]
      rw [Array.getElem?_setIfInBounds_ne q']
      exact H i hi
  · by_cases q : i = k
    · simp only [own_updV, q, if_true]; exact hv
    · simp only [own_updV, q, if_false]; exact G i hi
end AV
section AI
variable {a b : Addr} {ty : FieldType} {n : Nat} {f : Nat → Int32}
theorem own_AI.lt (A : own_AI Z h a ty n f) : a < h.size := own_AV.lt A
theorem own_AI.ext (A : own_AI Z h a ty n f) (E : Ext h h') : own_AI Z h' a ty n f := own_AV.ext A E
theorem own_AI.other (A : own_AI Z h b ty n f) {sl : Nat} {v : Value} (W : Wr h h' a sl v) (q : b ≠ a) : own_AI Z h' b ty n f := own_AV.other A W q
theorem own_AI.keep {ws : List Addr} (A : own_AI Z h a ty n f) (K : Keep h h' ws) (q : a ∉ ws) : own_AI Z h' a ty n f := own_AV.keep A K q
theorem own_AI.congr {g : Nat → Int32} (A : own_AI Z h a ty n f) (q : ∀ i, i < n → f i = g i) : own_AI Z h a ty n g := own_AV.congr A fun i hi => congrArg Value.int (q i hi)
theorem own_AI.set {k : Nat} {v : Int32} (F : own_AI Z h a ty n f) (hk : k < n) (hv : fits ty (.int v) = true) (W : Wr h h' a k (.int v)) : own_AI Z h' a ty n (own_upd f k v) :=
  (own_AV.set F hk hv W).congr fun i _ => by
    by_cases q : i = k <;> simp [own_updV, own_upd, q]
end AI
section Rd
variable {a : Addr} {n k : Nat} {j : Int32} {g : JFrame} {rest : List Value}
theorem own_rdI {f : Nat → Int32} (X : Stand p l e R s m args below meth c T locs cells slots) (hx : p.tables.exec = Jvm.exec) (hZ : Z.Warmed39 s.vm) (eT : T.heap = h) (A : own_AI Z h a .int n f) (hj : j.toInt = (k : Int)) (hk : k < n) (hg : g.method = m) (hs : g.stack = .int j :: .ref a :: rest) (hd : decode c.code g.pc = .ok (.iaload, 1)) :
    ∀ t, Steps p.tables e below (T.setTop { g with pc := g.pc + 1, stack := .int (f k) :: rest }) t → Steps p.tables e below (T.setTop g) t := by
  obtain ⟨cl, A1, S, H, -⟩ := A
  obtain ⟨hin, e1⟩ := own_idx S hj hk
  exact X.iaload hx (by rw [eT]; exact A1.1) (State.isArrayOf_alike hZ.alike A1.2.1) A1.2.2 hin (by rw [e1]; exact H k hk) hg hs hd
theorem own_rdB {f : Nat → Int32} (X : Stand p l e R s m args below meth c T locs cells slots) (hx : p.tables.exec = Jvm.exec) (hZ : Z.Warmed39 s.vm) (eT : T.heap = h) (A : own_AI Z h a .byte n f) (hj : j.toInt = (k : Int)) (hk : k < n) (hg : g.method = m) (hs : g.stack = .int j :: .ref a :: rest) (hd : decode c.code g.pc = .ok (.baload, 1)) :
    ∀ t, Steps p.tables e below (T.setTop { g with pc := g.pc + 1, stack := .int (f k) :: rest }) t → Steps p.tables e below (T.setTop g) t := by
  obtain ⟨cl, A1, S, H, -⟩ := A
  obtain ⟨hin, e1⟩ := own_idx S hj hk
  exact X.baloadBytes hx (by rw [eT]; exact A1.1) (State.isArrayOf_alike hZ.alike A1.2.1) A1.2.2 hin (by rw [e1]; exact H k hk) hg hs hd
theorem own_rdZ {f : Nat → Int32} (X : Stand p l e R s m args below meth c T locs cells slots) (hx : p.tables.exec = Jvm.exec) (hZ : Z.Warmed39 s.vm) (eT : T.heap = h) (A : own_AI Z h a .boolean n f) (hj : j.toInt = (k : Int)) (hk : k < n) (hg : g.method = m) (hs : g.stack = .int j :: .ref a :: rest) (hd : decode c.code g.pc = .ok (.baload, 1)) :
    ∀ t, Steps p.tables e below (T.setTop { g with pc := g.pc + 1, stack := .int (f k) :: rest }) t → Steps p.tables e below (T.setTop g) t := by
  obtain ⟨cl, A1, S, H, -⟩ := A
  obtain ⟨hin, e1⟩ := own_idx S hj hk
  exact X.baloadBooleans hx (by rw [eT]; exact A1.1) (State.isArrayOf_alike hZ.alike A1.2.1) A1.2.2 hin (by rw [e1]; exact H k hk) hg hs hd
theorem own_rdC {f : Nat → Int32} (X : Stand p l e R s m args below meth c T locs cells slots) (hx : p.tables.exec = Jvm.exec) (hZ : Z.Warmed39 s.vm) (eT : T.heap = h) (A : own_AI Z h a .char n f) (hj : j.toInt = (k : Int)) (hk : k < n) (hg : g.method = m) (hs : g.stack = .int j :: .ref a :: rest) (hd : decode c.code g.pc = .ok (.caload, 1)) :
    ∀ t, Steps p.tables e below (T.setTop { g with pc := g.pc + 1, stack := .int (f k) :: rest }) t → Steps p.tables e below (T.setTop g) t := by
  obtain ⟨cl, A1, S, H, -⟩ := A
  obtain ⟨hin, e1⟩ := own_idx S hj hk
  exact X.caload hx (by rw [eT]; exact A1.1) (State.isArrayOf_alike hZ.alike A1.2.1) A1.2.2 hin (by rw [e1]; exact H k hk) hg hs hd
theorem own_wrC {f : Nat → Int32} {x : Int32} (X : Stand p l e R s m args below meth c T locs cells slots) (hx : p.tables.exec = Jvm.exec) (hZ : Z.Warmed39 s.vm) (eT : T.heap = h) (A : own_AI Z h a .char n f) (hj : j.toInt = (k : Int)) (hk : k < n) (hg : g.method = m) (hs : g.stack = .int x :: .int j :: .ref a :: rest) (hd : decode c.code g.pc = .ok (.castore, 1)) :
    ∃ T' h', Stand p l e R s m args below meth c T' (locs ++ [⟨a, k⟩]) cells slots ∧ T'.heap = h' ∧ Wr h h' a k (.int (nar .char x)) ∧ own_AI Z h' a .char n (own_upd f k (nar .char x)) ∧ ∀ t, Steps p.tables e below (T'.setTop { g with pc := g.pc + 1, stack := rest }) t → Steps p.tables e below (T.setTop g) t := by
  have A0 := A
  obtain ⟨cl, A1, S, H, -⟩ := A
  obtain ⟨hin, e1⟩ := own_idx S hj hk
  obtain ⟨T', h', X', e', W', st⟩ := stC X hx hZ eT A1 hin hg hs hd
  rw [e1] at X' W'
  exact ⟨T', h', X', e', W', A0.set hk (fits_nar_char x) W', st⟩
theorem own_rdL {f : Nat → Int64} (X : Stand p l e R s m args below meth c T locs cells slots) (hx : p.tables.exec = Jvm.exec) (hZ : Z.Warmed39 s.vm) (eT : T.heap = h) (A : own_AL Z h a n f) (hj : j.toInt = (k : Int)) (hk : k < n) (hg : g.method = m) (hs : g.stack = .int j :: .ref a :: rest) (hd : decode c.code g.pc = .ok (.laload, 1)) :
    ∀ t, Steps p.tables e below (T.setTop { g with pc := g.pc + 1, stack := .long (f k) :: rest }) t → Steps p.tables e below (T.setTop g) t := by
  obtain ⟨cl, A1, S, H, -⟩ := A
  obtain ⟨hin, e1⟩ := own_idx S hj hk
  exact X.laload hx (by rw [eT]; exact A1.1) (State.isArrayOf_alike hZ.alike A1.2.1) A1.2.2 hin (by rw [e1]; exact H k hk) hg hs hd
theorem own_rdR {f : Nat → Value} {ty : FieldType} (X : Stand p l e R s m args below meth c T locs cells slots) (hx : p.tables.exec = Jvm.exec) (hZ : Z.Warmed39 s.vm) (eT : T.heap = h) (A : own_AV Z h a ty n f) (ht : ty.isReference = true) (hj : j.toInt = (k : Int)) (hk : k < n) (hg : g.method = m) (hs : g.stack = .int j :: .ref a :: rest) (hd : decode c.code g.pc = .ok (.aaload, 1)) :
    ∀ t, Steps p.tables e below (T.setTop { g with pc := g.pc + 1, stack := f k :: rest }) t → Steps p.tables e below (T.setTop g) t := by
  obtain ⟨cl, A1, S, H, -⟩ := A
  obtain ⟨hin, e1⟩ := own_idx S hj hk
  exact X.aaload hx (by rw [eT]; exact A1.1) (State.isArrayOf_alike hZ.alike A1.2.1) ht A1.2.2 hin (by rw [e1]; exact H k hk) hg hs hd
theorem own_len {f : Nat → Value} {ty : FieldType} {z : Int32} (X : Stand p l e R s m args below meth c T locs cells slots) (hx : p.tables.exec = Jvm.exec) (hZ : Z.Warmed39 s.vm) (eT : T.heap = h) (A : own_AV Z h a ty n f) (hz : n.toInt32 = z) (hg : g.method = m) (hs : g.stack = .ref a :: rest) (hd : decode c.code g.pc = .ok (.arraylength, 1)) :
    ∀ t, Steps p.tables e below (T.setTop { g with pc := g.pc + 1, stack := .int z :: rest }) t → Steps p.tables e below (T.setTop g) t := by
  obtain ⟨cl, A1, S, -, -⟩ := A
  subst hz S
  exact X.arraylength hx (by rw [eT]; exact A1.1) (State.isArrayOf_alike hZ.alike A1.2.1) hg hs hd
theorem own_wrI {f : Nat → Int32} {x : Int32} (X : Stand p l e R s m args below meth c T locs cells slots) (hx : p.tables.exec = Jvm.exec) (hZ : Z.Warmed39 s.vm) (eT : T.heap = h) (A : own_AI Z h a .int n f) (hj : j.toInt = (k : Int)) (hk : k < n) (hg : g.method = m) (hs : g.stack = .int x :: .int j :: .ref a :: rest) (hd : decode c.code g.pc = .ok (.iastore, 1)) :
    ∃ T' h', Stand p l e R s m args below meth c T' (locs ++ [⟨a, k⟩]) cells slots ∧ T'.heap = h' ∧ Wr h h' a k (.int x) ∧ own_AI Z h' a .int n (own_upd f k x) ∧ ∀ t, Steps p.tables e below (T'.setTop { g with pc := g.pc + 1, stack := rest }) t → Steps p.tables e below (T.setTop g) t := by
  have A0 := A
  obtain ⟨cl, A1, S, H, -⟩ := A
  obtain ⟨hin, e1⟩ := own_idx S hj hk
  obtain ⟨T', h', X', e', W', st⟩ := stI X hx hZ eT A1 hin hg hs hd
  rw [e1] at X' W'
  exact ⟨T', h', X', e', W', A0.set hk rfl W', st⟩
theorem own_wrB {f : Nat → Int32} {x : Int32} (X : Stand p l e R s m args below meth c T locs cells slots) (hx : p.tables.exec = Jvm.exec) (hZ : Z.Warmed39 s.vm) (eT : T.heap = h) (A : own_AI Z h a .byte n f) (hj : j.toInt = (k : Int)) (hk : k < n) (hg : g.method = m) (hs : g.stack = .int x :: .int j :: .ref a :: rest) (hd : decode c.code g.pc = .ok (.bastore, 1)) :
    ∃ T' h', Stand p l e R s m args below meth c T' (locs ++ [⟨a, k⟩]) cells slots ∧ T'.heap = h' ∧ Wr h h' a k (.int (nar .byte x)) ∧ own_AI Z h' a .byte n (own_upd f k (nar .byte x)) ∧ ∀ t, Steps p.tables e below (T'.setTop { g with pc := g.pc + 1, stack := rest }) t → Steps p.tables e below (T.setTop g) t := by
  have A0 := A
  obtain ⟨cl, A1, S, H, -⟩ := A
  obtain ⟨hin, e1⟩ := own_idx S hj hk
  obtain ⟨T', h', X', e', W', st⟩ := stB X hx hZ eT A1 hin hg hs hd
  rw [e1] at X' W'
  exact ⟨T', h', X', e', W', A0.set hk (fits_nar_byte x) W', st⟩
theorem own_wrZ {f : Nat → Int32} {x : Int32} (X : Stand p l e R s m args below meth c T locs cells slots) (hx : p.tables.exec = Jvm.exec) (hZ : Z.Warmed39 s.vm) (eT : T.heap = h) (A : own_AI Z h a .boolean n f) (hj : j.toInt = (k : Int)) (hk : k < n) (hg : g.method = m) (hs : g.stack = .int x :: .int j :: .ref a :: rest) (hd : decode c.code g.pc = .ok (.bastore, 1)) :
    ∃ T' h', Stand p l e R s m args below meth c T' (locs ++ [⟨a, k⟩]) cells slots ∧ T'.heap = h' ∧ Wr h h' a k (.int (nar .boolean x)) ∧ own_AI Z h' a .boolean n (own_upd f k (nar .boolean x)) ∧ ∀ t, Steps p.tables e below (T'.setTop { g with pc := g.pc + 1, stack := rest }) t → Steps p.tables e below (T.setTop g) t := by
  have A0 := A
  obtain ⟨cl, A1, S, H, -⟩ := A
  obtain ⟨hin, e1⟩ := own_idx S hj hk
  obtain ⟨T', h', X', e', W', st⟩ := stZ X hx hZ eT A1 hin hg hs hd
  rw [e1] at X' W'
  exact ⟨T', h', X', e', W', A0.set hk (fits_nar_bool x) W', st⟩
theorem own_wrL {f : Nat → Int64} {x : Int64} (X : Stand p l e R s m args below meth c T locs cells slots) (hx : p.tables.exec = Jvm.exec) (hZ : Z.Warmed39 s.vm) (eT : T.heap = h) (A : own_AL Z h a n f) (hj : j.toInt = (k : Int)) (hk : k < n) (hg : g.method = m) (hs : g.stack = .long x :: .int j :: .ref a :: rest) (hd : decode c.code g.pc = .ok (.lastore, 1)) :
    ∃ T' h', Stand p l e R s m args below meth c T' (locs ++ [⟨a, k⟩]) cells slots ∧ T'.heap = h' ∧ Wr h h' a k (.long x) ∧ own_AL Z h' a n (own_updL f k x) ∧ ∀ t, Steps p.tables e below (T'.setTop { g with pc := g.pc + 1, stack := rest }) t → Steps p.tables e below (T.setTop g) t := by
  have A0 := A
  obtain ⟨cl, A1, S, H, -⟩ := A
  obtain ⟨hin, e1⟩ := own_idx S hj hk
  obtain ⟨T', h', X', e', W', st⟩ := stJ X hx hZ eT A1 hin hg hs hd
  rw [e1] at X' W'
  exact ⟨T', h', X', e', W', (own_AV.set A0 hk rfl W').congr fun i _ => by by_cases q : i = k <;> simp [own_updV, own_updL, q], st⟩
theorem own_wrR {f : Nat → Value} {ty : FieldType} {v : Value} (X : Stand p l e R s m args below meth c T locs cells slots) (hx : p.tables.exec = Jvm.exec) (hZ : Z.Warmed39 s.vm) (eT : T.heap = h) (A : own_AV Z h a ty n f) (ht : ty.isReference = true) (hv : fits ty v = true) (F : Sto Z h a v) (hj : j.toInt = (k : Int)) (hk : k < n) (hg : g.method = m) (hs : g.stack = v :: .int j :: .ref a :: rest) (hd : decode c.code g.pc = .ok (.aastore, 1)) :
    ∃ T' h', Stand p l e R s m args below meth c T' (locs ++ [⟨a, k⟩]) cells slots ∧ T'.heap = h' ∧ Wr h h' a k v ∧ own_AV Z h' a ty n (own_updV f k v) ∧ ∀ t, Steps p.tables e below (T'.setTop { g with pc := g.pc + 1, stack := rest }) t → Steps p.tables e below (T.setTop g) t := by
  have A0 := A
  obtain ⟨cl, A1, S, H, -⟩ := A
  obtain ⟨hin, e1⟩ := own_idx S hj hk
  obtain ⟨T', h', X', e', W', st⟩ := stR X hx hZ eT A1 hin ht F hg hs hd
  rw [e1] at X' W'
  exact ⟨T', h', X', e', W', A0.set hk hv W', st⟩
/-- newarray: the fresh array at a = the heap's old size -/
theorem own_newP {aty : ArrayType} {z : Int32} (X : Stand p l e R s m args below meth c T locs cells slots) (hx : p.tables.exec = Jvm.exec) (hZ : Z.Warmed39 s.vm) (w : (Jvm.Cond.arrayClass (newarray.typeOf aty)).before a0 Z = true) (eT : T.heap = h) (hz : z.toInt = (n : Int)) (hf : fits (newarray.typeOf aty) (defaultValue (newarray.typeOf aty)) = true) (hg : g.method = m) (hs : g.stack = .int z :: rest) (hd : decode c.code g.pc = .ok (.newarray aty, 2)) {cap : Nat} (hcap : n ≤ cap) (hb : cap * 8 ≤ 536870912) (hc : cells + 1 ≤ R.cells) (hl : slots + cap ≤ R.slots) :
    ∃ T' h' a, a = h.size ∧ Stand p l e R s m args below meth c T' locs (cells + 1) (slots + cap) ∧ T'.heap = h' ∧ Ext h h' ∧ own_AV Z h' a (newarray.typeOf aty) n (fun _ => defaultValue (newarray.typeOf aty)) ∧ ∀ t, Steps p.tables e below (T'.setTop { g with pc := g.pc + 2, stack := .ref a :: rest }) t → Steps p.tables e below (T.setTop g) t := by
  have e0 : (0 : Int32).toInt = 0 := by decide
  have e1 : z.toNatClampNeg = n := by show z.toInt.toNat = n; rw [hz]; rfl
  have hn : ¬ z < 0 := by rw [Int32.lt_iff_toInt_lt, e0, hz]; omega
  obtain ⟨T', h', cA, X', e', E', A', st⟩ := newP X hx hZ w eT hg hd hs hn (by rw [e1]; exact hcap) hb hc hl
  exact ⟨T', h', _, rfl, X', e', E', own_AV.new A' e1 hf, st⟩
/-- newarray: the fresh array, its class besides -/
theorem own_newPE {aty : ArrayType} {z : Int32} (X : Stand p l e R s m args below meth c T locs cells slots) (hx : p.tables.exec = Jvm.exec) (hZ : Z.Warmed39 s.vm) (w : (Jvm.Cond.arrayClass (newarray.typeOf aty)).before a0 Z = true) (eT : T.heap = h) (hz : z.toInt = (n : Int)) (hf : fits (newarray.typeOf aty) (defaultValue (newarray.typeOf aty)) = true) (hg : g.method = m) (hs : g.stack = .int z :: rest) (hd : decode c.code g.pc = .ok (.newarray aty, 2)) {cap : Nat} (hcap : n ≤ cap) (hb : cap * 8 ≤ 536870912) (hc : cells + 1 ≤ R.cells) (hl : slots + cap ≤ R.slots) {ad : String} (had : "[" ++ (newarray.typeOf aty).toString = ad) :
    ∃ T' h' a, a = h.size ∧ Stand p l e R s m args below meth c T' locs (cells + 1) (slots + cap) ∧ T'.heap = h' ∧ Ext h h' ∧ own_AV Z h' a (newarray.typeOf aty) n (fun _ => defaultValue (newarray.typeOf aty)) ∧ Exa Z h' a ad ∧ ∀ t, Steps p.tables e below (T'.setTop { g with pc := g.pc + 2, stack := .ref a :: rest }) t → Steps p.tables e below (T.setTop g) t := by
  have e0 : (0 : Int32).toInt = 0 := by decide
  have e1 : z.toNatClampNeg = n := by show z.toInt.toNat = n; rw [hz]; rfl
  have hn : ¬ z < 0 := by rw [Int32.lt_iff_toInt_lt, e0, hz]; omega
  obtain ⟨T', h', cA, X', e', E', A', E2, st⟩ := newPE X hx hZ w eT hg hd hs hn (by rw [e1]; exact hcap) hb hc hl had
  exact ⟨T', h', _, rfl, X', e', E', own_AV.new A' e1 hf, E2, st⟩
/-- anewarray: the fresh array of references, all null; what may lie in it -/
theorem own_newR {C : String} {z : Int32} {own : String} {index : Nat} (X : Stand p l e R s m args below meth c T locs cells slots) (hx : p.tables.exec = Jvm.exec) (hZ : Z.Warmed39 s.vm) (hown : s.vm.findClass own = some m.cls) (w1 : (Jvm.Cond.classLink own index C).before a0 Z = true) (w2 : (Jvm.Cond.arrayOver (.object C)).before a0 Z = true) (eT : T.heap = h) (hz : z.toInt = (n : Int)) (hg : g.method = m) (hs : g.stack = .int z :: rest) (hd : decode c.code g.pc = .ok (.anewarray index, 3)) {cap : Nat} (hcap : n ≤ cap) (hb : cap * 8 ≤ 536870912) (hc : cells + 1 ≤ R.cells) (hl : slots + cap ≤ R.slots) :
    ∃ T' h' a, a = h.size ∧ Stand p l e R s m args below meth c T' locs (cells + 1) (slots + cap) ∧ T'.heap = h' ∧ Ext h h' ∧ own_AV Z h' a (.object C) n (fun _ => .null) ∧ (∃ cl : Cell, h'[a]? = some cl ∧ Ovr Z cl.cls C) ∧ ∀ t, Steps p.tables e below (T'.setTop { g with pc := g.pc + 3, stack := .ref a :: rest }) t → Steps p.tables e below (T.setTop g) t := by
  have e0 : (0 : Int32).toInt = 0 := by decide
  have e1 : z.toNatClampNeg = n := by show z.toInt.toNat = n; rw [hz]; rfl
  have hn : ¬ z < 0 := by rw [Int32.lt_iff_toInt_lt, e0, hz]; omega
  obtain ⟨T', h', cA, X', e', E', A', O', st⟩ := newR X hx hZ hown w1 w2 eT hg hd hs hn (by rw [e1]; exact hcap) hb hc hl
  exact ⟨T', h', _, rfl, X', e', E', own_AV.new A' e1 rfl, ⟨_, A'.1, O'⟩, st⟩
/-- the array over class C at a takes an object of C -/
def own_Ov (Z : State) (h : Heap) (a : Addr) (C : String) : Prop := ∃ cl : Cell, h[a]? = some cl ∧ Ovr Z cl.cls C
theorem own_Ov.keep {a : Addr} {C : String} {ws : List Addr} (O : own_Ov Z h a C) (K : Keep h h' ws) : own_Ov Z h' a C := by
  obtain ⟨cl, h1, h2⟩ := O
  obtain ⟨c', q1, q2, -, -⟩ := K.2.2 a cl h1
  exact ⟨c', q1, by rw [q2]; exact h2⟩
theorem own_Ov.sto {a y : Addr} {C : String} {ty : FieldType} {f : Nat → Value} (O : own_Ov Z h a C) (A : own_AV Z h a ty n f) (I : Ins Z h y C true) : Sto Z h a (.ref y) := by
  obtain ⟨cl, h1, h2⟩ := O
  obtain ⟨c2, A2, -⟩ := A
  cases h1.symm.trans A2.1
  exact Sto.of A2 h2 I
/-- clone() of an array -/
theorem own_clone {own ad : String} {index : Nat} {ty : FieldType} {f : Nat → Value} (X : Stand p l e R s m args below meth c T locs cells slots) (hx : p.tables.exec = Jvm.exec) (hZ : Z.Warmed39 s.vm) (hown : s.vm.findClass own = some m.cls)
    (w1 : (Jvm.Cond.methodLink own index ⟨ad, "clone", "()Ljava/lang/Object;"⟩).before a0 Z = true) (w2 : (Jvm.Cond.sameMethod ad "java/lang/Object" "clone" "()Ljava/lang/Object;").before a0 Z = true) (w3 : (Jvm.Cond.native ⟨"java/lang/Object", "clone", "()Ljava/lang/Object;"⟩).before a0 Z = true)
    (w4 : (Jvm.Cond.instanceMethod ⟨"java/lang/Object", "clone", "()Ljava/lang/Object;"⟩).before a0 Z = true) (w5 : (Jvm.Cond.selects ad ⟨ad, "clone", "()Ljava/lang/Object;"⟩ ⟨"java/lang/Object", "clone", "()Ljava/lang/Object;"⟩).before a0 Z = true) (w6 : (Jvm.Cond.castable ad "java/lang/Cloneable").before a0 Z = true)
    (eT : T.heap = h) (A : own_AV Z h a ty n f) (E : Exa Z h a ad) (hg : g.method = m) (hsize : g.locals.size = c.maxLocals) (hs : g.stack = .ref a :: rest) (hd : decode c.code g.pc = .ok (.invokevirtual index, 3))
    (hf : 1 ≤ R.frames) {W : Nat} (hW : 2 * g.monitorRoom + (rest.map fun v => v.category).sum ≤ W) (hl : W + 14 ≤ R.locals) (hc : cells + 1 ≤ R.cells) (hsl : slots + n ≤ R.slots) :
    ∃ T' h' b, b = h.size ∧ Stand p l e R s m args below meth c T' locs (cells + 1) (slots + n) ∧ T'.heap = h' ∧ Ext h h' ∧ own_AV Z h' b ty n f ∧ Exa Z h' b ad ∧ ∀ t, Steps p.tables e below (T'.setTop { g with pc := g.pc + 3, stack := .ref b :: rest }) t → Steps p.tables e below (T.setTop g) t := by
  obtain ⟨cl, A1, S, H, G⟩ := A
  have F : FitC Z cl := fitC_of A1 fun i hi v hv => by
    rw [S] at hi
    rw [H i hi] at hv
    cases hv
    exact G i hi
  obtain ⟨T', h', X', e', E', A', E2, st⟩ := cloneA X hx hZ hown w1 w2 w3 w4 w5 w6 eT A1 E F hg hsize hs hd hf hW hl (Nat.le_of_eq S) hc hsl
  exact ⟨T', h', _, rfl, X', e', E', ⟨_, A', S, H, G⟩, E2, st⟩
end Rd
end Own
end Jvm.RoadKit
namespace Jvm.Pilot.@@N@@
open Jvm Jvm.ClassFile Sem Op Lib Jvm.Free Jvm.Stand Jvm.LawKit Jvm.RoadKit Bundle Jvm.Pilot.@@N@@.Jvm.D
theorem own_d1_0 : decode prog_10_method_2_code 0 = .ok (.iload_n 1, 1) := by decide +kernel
theorem own_d1_1 : decode prog_10_method_2_code 1 = .ok (.ifCond .le 27, 3) := by decide +kernel
theorem own_d1_4 : decode prog_10_method_2_code 4 = .ok (.iload_n 2, 1) := by decide +kernel
theorem own_d1_5 : decode prog_10_method_2_code 5 = .ok (.iload_n 1, 1) := by decide +kernel
theorem own_d1_6 : decode prog_10_method_2_code 6 = .ok (.if_icmp .eq 18, 3) := by decide +kernel
theorem own_d1_9 : decode prog_10_method_2_code 9 = .ok (.iload_n 2, 1) := by decide +kernel
theorem own_d1_10 : decode prog_10_method_2_code 10 = .ok (.iload_n 1, 1) := by decide +kernel
theorem own_d1_11 : decode prog_10_method_2_code 11 = .ok (.iconst 1, 1) := by decide +kernel
theorem own_d1_12 : decode prog_10_method_2_code 12 = .ok (.iadd, 1) := by decide +kernel
theorem own_d1_13 : decode prog_10_method_2_code 13 = .ok (.if_icmp .ne 15, 3) := by decide +kernel
theorem own_d1_16 : decode prog_10_method_2_code 16 = .ok (.aload_n 0, 1) := by decide +kernel
theorem own_d1_17 : decode prog_10_method_2_code 17 = .ok (.iload_n 1, 1) := by decide +kernel
theorem own_d1_18 : decode prog_10_method_2_code 18 = .ok (.baload, 1) := by decide +kernel
theorem own_d1_19 : decode prog_10_method_2_code 19 = .ok (.bipush 13, 2) := by decide +kernel
theorem own_d1_21 : decode prog_10_method_2_code 21 = .ok (.if_icmp .ne 7, 3) := by decide +kernel
theorem own_d1_24 : decode prog_10_method_2_code 24 = .ok (.iconst 1, 1) := by decide +kernel
theorem own_d1_25 : decode prog_10_method_2_code 25 = .ok (.goto 4, 3) := by decide +kernel
theorem own_d1_28 : decode prog_10_method_2_code 28 = .ok (.iconst 0, 1) := by decide +kernel
theorem own_d1_29 : decode prog_10_method_2_code 29 = .ok (.ireturn, 1) := by decide +kernel
def own_eh (ls lf u : Int32) : Int32 := (if (0 : Int32) < ls then (if lf = ls then (1 : Int32) else (if lf = (ls + (1 : Int32)) then (if u = (13 : Int32) then (1 : Int32) else (0 : Int32)) else (0 : Int32))) else (0 : Int32))
theorem own_eh01 (ls lf u : Int32) : own_eh ls lf u = 0 ∨ own_eh ls lf u = 1 := by
  unfold own_eh; repeat' (first | exact Or.inl rfl | exact Or.inr rfl | split)
theorem own_pn0 : plainName "dev/countersign/cli/MessageHead" = true := by first | (simp [plainName, overriddenIn]; done) | decide +kernel
theorem own_efeh (m : MethodId) (a : Addr) (ls : Int32) (lf : Int32) : entryFrame m #[(.ref a), (.int ls), (.int lf)] 3 = mkF m 0 #[rv a, iv ls, iv lf] [] := by first | (simp [entryFrame, mkF, argsToLocals, Value.category]; done) | rfl
set_option maxRecDepth 65536 in
set_option maxHeartbeats 40000000 in
theorem own_rmeh (l : Launch) (Z : State) (a0 : Array Value) (hw : ∀ d ∈ tables_1, d.before a0 Z = true) (a : Addr) (ls : Int32) (lf : Int32) (f : Nat → Int32) (k : Nat) (h0 : Heap) (n0 : Nat) (Z0 : n0 ≤ h0.size) (A : own_AI Z h0 a .byte 6 f) (hk : ls.toInt = (k : Int)) (hk6 : k < 6) :
    own_Ct l Z (⟨"dev/countersign/cli/MessageHead", "endsHead", "([BII)Z"⟩ : MethodName) prog_10_method_2_code 3 (some .boolean) ({ frames := 0, cells := 0, slots := 0, locals := 0 } : Room) #[(.ref a), (.int ls), (.int lf)] h0 (fun v h L => v = some (.int (own_eh ls lf (f k))) ∧ Fr n0 L ∧ h = h0) := by
  refine own_body (y := (⟨"dev/countersign/cli/MessageHead", "endsHead", "([BII)Z"⟩ : MethodName)) (Q := fun v h L => v = some (.int (own_eh ls lf (f k))) ∧ Fr n0 L ∧ h = h0) (plainFor_of_name own_pn0) ?_
  intro p e s m below meth c s₁ Bd hml0 hZ e0
  have hx := Bd.exec
  have hby := Bd.bytes
  have hml : c.maxLocals = 3 := hml0
  have hown : s.vm.findClass "dev/countersign/cli/MessageHead" = some m.cls := findClass_of_methodNamed Bd.named
  have hnm := (name_of_methodNamed Bd.named Bd.method).1
  have X0 : Stand p l e ({ frames := 0, cells := 0, slots := 0, locals := 0 } : Room) s m #[(.ref a), (.int ls), (.int lf)] below meth c s₁ [] 0 0 := Stand.of_body Bd
  have N0 := Fr.nil n0
  rw [own_efeh]
  obtain ⟨r, hr⟩ : ∃ z : Int32, z = (if (0 : Int32) < ls then (if lf = ls then (1 : Int32) else (if lf = (ls + (1 : Int32)) then (if (f k) = (13 : Int32) then (1 : Int32) else (0 : Int32)) else (0 : Int32))) else (0 : Int32)) := ⟨_, rfl⟩
  have sg5 : own_V p e below s₁ (mkF m 29 #[rv a, iv ls, iv lf] [(.int r)]) (mkF m 0 #[rv a, iv ls, iv lf] []) := by
    intro t kt
    refine XS.iloadN X0.here hx rfl (hb hby own_d1_0) rfl ?_
    show own_S p e below s₁ m 1 #[rv a, iv ls, iv lf] [(.int ls)] _
    by_cases hc1 : (0 : Int32) < ls
    · refine XS.ifNo X0.here hx rfl (hb hby own_d1_1) rfl ((if0 _ _).trans (tlt hc1).2.2.2) ?_
      show own_S p e below s₁ m 4 #[rv a, iv ls, iv lf] [] _
      refine XS.iloadN X0.here hx rfl (hb hby own_d1_4) rfl ?_
      show own_S p e below s₁ m 5 #[rv a, iv ls, iv lf] [(.int lf)] _
      refine XS.iloadN X0.here hx rfl (hb hby own_d1_5) rfl ?_
      show own_S p e below s₁ m 6 #[rv a, iv ls, iv lf] [(.int ls), (.int lf)] _
      by_cases hc2 : lf = ls
      · refine XS.icmpYes X0.here hx rfl (pc0 := 6) (pc' := 24) rfl (hb hby own_d1_6) rfl (teq hc2).1 (by decide) (by decide) ?_
        show own_S p e below s₁ m 24 #[rv a, iv ls, iv lf] [] _
        refine XS.iconst X0.here hx rfl (hb hby own_d1_24) ?_
        show own_S p e below s₁ m 25 #[rv a, iv ls, iv lf] [(.int (1 : Int32))] _
        refine XS.goto X0.here hx rfl (pc0 := 25) (pc' := 29) rfl (hb hby own_d1_25) (by decide) (by decide) ?_
        show own_S p e below s₁ m 29 #[rv a, iv ls, iv lf] [(.int (1 : Int32))] _
        rw [show r = (1 : Int32) from by rw [hr, if_pos hc1, if_pos hc2]] at kt
        exact kt
      · refine XS.icmpNo X0.here hx rfl (hb hby own_d1_6) rfl (feq hc2).1 ?_
        show own_S p e below s₁ m 9 #[rv a, iv ls, iv lf] [] _
        refine XS.iloadN X0.here hx rfl (hb hby own_d1_9) rfl ?_
        show own_S p e below s₁ m 10 #[rv a, iv ls, iv lf] [(.int lf)] _
        refine XS.iloadN X0.here hx rfl (hb hby own_d1_10) rfl ?_
        show own_S p e below s₁ m 11 #[rv a, iv ls, iv lf] [(.int ls), (.int lf)] _
        refine XS.iconst X0.here hx rfl (hb hby own_d1_11) ?_
        show own_S p e below s₁ m 12 #[rv a, iv ls, iv lf] [(.int (1 : Int32)), (.int ls), (.int lf)] _
        refine XS.iadd X0.here hx rfl (hb hby own_d1_12) rfl ?_
        show own_S p e below s₁ m 13 #[rv a, iv ls, iv lf] [(.int (ls + (1 : Int32))), (.int lf)] _
        by_cases hc3 : lf = (ls + (1 : Int32))
        · refine XS.icmpNo X0.here hx rfl (hb hby own_d1_13) rfl (teq hc3).2 ?_
          show own_S p e below s₁ m 16 #[rv a, iv ls, iv lf] [] _
          refine XS.aloadN X0.here hx rfl (hb hby own_d1_16) rfl rfl ?_
          show own_S p e below s₁ m 17 #[rv a, iv ls, iv lf] [(.ref a)] _
          refine XS.iloadN X0.here hx rfl (hb hby own_d1_17) rfl ?_
          show own_S p e below s₁ m 18 #[rv a, iv ls, iv lf] [(.int ls), (.ref a)] _
          refine own_rdB X0 hx hZ e0 A hk hk6 (g := (mkF m 18 #[rv a, iv ls, iv lf] [(.int ls), (.ref a)])) rfl rfl (hb hby own_d1_18) _ ?_
          show own_S p e below s₁ m 19 #[rv a, iv ls, iv lf] [(.int (f k))] _
          refine XS.bipush X0.here hx rfl (hb hby own_d1_19) ?_
          show own_S p e below s₁ m 21 #[rv a, iv ls, iv lf] [(.int (13 : Int32)), (.int (f k))] _
          by_cases hc4 : (f k) = (13 : Int32)
          · refine XS.icmpNo X0.here hx rfl (hb hby own_d1_21) rfl (teq hc4).2 ?_
            show own_S p e below s₁ m 24 #[rv a, iv ls, iv lf] [] _
            refine XS.iconst X0.here hx rfl (hb hby own_d1_24) ?_
            show own_S p e below s₁ m 25 #[rv a, iv ls, iv lf] [(.int (1 : Int32))] _
            refine XS.goto X0.here hx rfl (pc0 := 25) (pc' := 29) rfl (hb hby own_d1_25) (by decide) (by decide) ?_
            show own_S p e below s₁ m 29 #[rv a, iv ls, iv lf] [(.int (1 : Int32))] _
            rw [show r = (1 : Int32) from by rw [hr, if_pos hc1, if_neg hc2, if_pos hc3, if_pos hc4]] at kt
            exact kt
          · refine XS.icmpYes X0.here hx rfl (pc0 := 21) (pc' := 28) rfl (hb hby own_d1_21) rfl (feq hc4).2 (by decide) (by decide) ?_
            show own_S p e below s₁ m 28 #[rv a, iv ls, iv lf] [] _
            refine XS.iconst X0.here hx rfl (hb hby own_d1_28) ?_
            show own_S p e below s₁ m 29 #[rv a, iv ls, iv lf] [(.int (0 : Int32))] _
            rw [show r = (0 : Int32) from by rw [hr, if_pos hc1, if_neg hc2, if_pos hc3, if_neg hc4]] at kt
            exact kt
        · refine XS.icmpYes X0.here hx rfl (pc0 := 13) (pc' := 28) rfl (hb hby own_d1_13) rfl (feq hc3).2 (by decide) (by decide) ?_
          show own_S p e below s₁ m 28 #[rv a, iv ls, iv lf] [] _
          refine XS.iconst X0.here hx rfl (hb hby own_d1_28) ?_
          show own_S p e below s₁ m 29 #[rv a, iv ls, iv lf] [(.int (0 : Int32))] _
          rw [show r = (0 : Int32) from by rw [hr, if_pos hc1, if_neg hc2, if_neg hc3]] at kt
          exact kt
    · refine XS.ifYes X0.here hx rfl (pc0 := 1) (pc' := 28) rfl (hb hby own_d1_1) rfl ((if0 _ _).trans (flt hc1).2.2.2) (by decide) (by decide) ?_
      show own_S p e below s₁ m 28 #[rv a, iv ls, iv lf] [] _
      refine XS.iconst X0.here hx rfl (hb hby own_d1_28) ?_
      show own_S p e below s₁ m 29 #[rv a, iv ls, iv lf] [(.int (0 : Int32))] _
      rw [show r = (0 : Int32) from by rw [hr, if_neg hc1]] at kt
      exact kt
  refine own_st sg5 ?_
  have hrr : r = own_eh ls lf (f k) := hr
  exact own_retZ X0 hx Bd.notSynchronized Bd.returns (hb hby own_d1_29) (hrr ▸ own_eh01 _ _ _) (by decide) (by decide) e0 ⟨by rw [hrr], N0, rfl⟩
theorem own_eqI {x y : Int32} (h : x.toInt = y.toInt) : x = y := Int32.toInt_inj.mp h
theorem own_pos (g gg ls lf : Int32) (hls : ls = ((g &&& (2147483647 : Int32)) % (3 : Int32))) (hlf : lf = (((g &&& (2147483647 : Int32)) % (3 : Int32)) + ((gg &&& (2147483647 : Int32)) % (4 : Int32)))) :
    ∃ kl kf : Nat, ls.toInt = (kl : Int) ∧ lf.toInt = (kf : Int) ∧ kl < 6 ∧ kf < 6 ∧ kl ≤ kf := by
  have m1 : (g &&& (2147483647 : Int32)).toInt = g.toInt % ((2 ^ 31 : Nat) : Int) := c_mask g 2147483647 31 (by decide) (by decide)
  have m2 : (gg &&& (2147483647 : Int32)).toInt = gg.toInt % ((2 ^ 31 : Nat) : Int) := c_mask gg 2147483647 31 (by decide) (by decide)
  generalize (g &&& (2147483647 : Int32)) = x at *
  generalize (gg &&& (2147483647 : Int32)) = y at *
  have a1 := (c_irem x 3 3 (by decide)).1 (by omega)
  have a2 := (c_irem y 4 4 (by decide)).1 (by omega)
  have c1 := c_iadd (x % 3) (y % 4)
  have r1 := rng32 ((x % 3) + (y % 4))
  rw [← hls] at a1 c1 r1 hlf
  rw [← hlf] at c1 r1
  exact ⟨ls.toInt.toNat, lf.toInt.toNat, by omega, by omega, by omega, by omega, by omega⟩
theorem own_m1 {x : Int32} {k : Nat} (q : x.toInt = (k : Int)) (h : 0 < k) : (x - (1 : Int32)).toInt = ((k - 1 : Nat) : Int) := by
  have c1 := c_isub x 1
  have r1 := rng32 (x - 1)
  have r2 := rng32 x
  have e1 : (1 : Int32).toInt = 1 := by decide
  rw [e1] at c1
  omega
theorem own_pos1 {ls lf : Int32} {kl kf : Nat} (q1 : ls.toInt = (kl : Int)) (q2 : lf.toInt = (kf : Int)) (h : ls < lf) : 0 < kf := by
  rw [Int32.lt_iff_toInt_lt] at h; omega
theorem own_pos0 {ls : Int32} {kl : Nat} (q1 : ls.toInt = (kl : Int)) (h : (0 : Int32) < ls) : 0 < kl := by
  have e0 : (0 : Int32).toInt = 0 := by decide
  rw [Int32.lt_iff_toInt_lt, e0] at h; omega
theorem own_plain (ls lf : Int32) (ff : Nat → Int32) (kl kf : Nat) (got en exp r : Int32) (q1 : ls.toInt = (kl : Int)) (q2 : lf.toInt = (kf : Int)) (q3 : kl < 6) (q4 : kf < 6) (q5 : kl ≤ kf)
    (hgot : got = (own_eh ls lf (ff kl))) (hen : en = (if ls < lf then (if (ff (kf - 1)) = (13 : Int32) then (lf - (1 : Int32)) else lf) else lf)) (hexp : exp = (if (0 : Int32) < ls then (if en = ls then (1 : Int32) else (0 : Int32)) else (0 : Int32)))
    (hr : r = (if got = exp then (1 : Int32) else (0 : Int32))) : r = 1 := by
  have e1 : (1 : Int32).toInt = 1 := by decide
  rw [hr, if_pos]
  unfold own_eh at hgot
  by_cases p0 : (0 : Int32) < ls
  · rw [if_pos p0] at hgot hexp
    by_cases p1 : lf = ls
    · have p2 : ¬ ls < lf := by rw [p1, Int32.lt_iff_toInt_lt]; omega
      rw [if_neg p2, p1] at hen
      rw [if_pos p1] at hgot
      rw [if_pos hen] at hexp
      rw [hgot, hexp]
    · have n1 : ¬ kf = kl := fun z => p1 (own_eqI (by rw [q1, q2, z]))
      have p2 : ls < lf := by rw [Int32.lt_iff_toInt_lt]; omega
      rw [if_pos p2] at hen
      rw [if_neg p1] at hgot
      have c1 := c_iadd ls 1
      have r1 := rng32 (ls + 1)
      have c2 := c_isub lf 1
      have r2 := rng32 (lf - 1)
      rw [e1] at c1 c2
      by_cases p3 : lf = (ls + (1 : Int32))
      · rw [if_pos p3] at hgot
        have k1 : kf - 1 = kl := by rw [p3] at q2; omega
        rw [k1] at hen
        by_cases p4 : ff kl = (13 : Int32)
        · rw [if_pos p4] at hgot hen
          have : en = ls := by rw [hen]; exact own_eqI (by omega)
          rw [if_pos this] at hexp
          rw [hgot, hexp]
        · rw [if_neg p4] at hgot hen
          rw [hen, if_neg p1] at hexp
          rw [hgot, hexp]
      · rw [if_neg p3] at hgot
        have n2 : ¬ kf = kl + 1 := fun z => p3 (own_eqI (by omega))
        have : ¬ en = ls := by
          rw [hen]
          split
          · intro z; have := congrArg Int32.toInt z; omega
          · exact p1
        rw [if_neg this] at hexp
        rw [hgot, hexp]
  · rw [if_neg p0] at hgot hexp
    rw [hgot, hexp]
theorem own_pd0 : parseMethodDescriptor "([BII)Z" = some ⟨[(.array .byte), .int, .int], some .boolean⟩ := by decide +kernel
theorem own_pn1 : plainName "dev/countersign/cli/MessageHeadEndsHeadPinLaw" = true := by first | (simp [plainName, overriddenIn]; done) | decide +kernel
theorem own_eflaw (m : MethodId) (x : Int64) (g : Int32) (gg : Int32) (fl : Int32) : entryFrame m #[(.long x), (.int g), (.int gg), (.int fl)] maxLocals = mkF m 0 #[own_lv x, .second, iv g, iv gg, iv fl, .unset, .unset, .unset, .unset, .unset, .unset] [] := by first | (simp [entryFrame, mkF, argsToLocals, Value.category, maxLocals]; done) | rfl
set_option maxRecDepth 65536 in
set_option maxHeartbeats 40000000 in
theorem own_rmlaw (l : Launch) (Z : State) (a0 : Array Value) (hw : ∀ d ∈ tables_1, d.before a0 Z = true) (x : Int64) (g : Int32) (gg : Int32) (fl : Int32) (h0 : Heap) (n0 : Nat) (Z0 : n0 ≤ h0.size) :
    MetFree l Jvm.Pilot.@@N@@.x (head1 (Jvm.Cond.code Jvm.Pilot.@@N@@.x code maxLocals ret :: tables_1) room_1) (fun a U => a = #[(.long x), (.int g), (.int gg), (.int fl)] ∧ Z.Warmed39 U.vm ∧ U.heap = h0) (fun _ _ _ _ _ => True) (fun _ U o U' => ∃ v L, o = .returned v ∧ (fun v h L => v = some (.int 1) ∧ Fr n0 L) v U'.heap L ∧ FrameEnd U o U' L 1 6) := by
  refine own_body (y := Jvm.Pilot.@@N@@.x) (Q := fun v h L => v = some (.int 1) ∧ Fr n0 L) (plainFor_of_name own_pn1) ?_
  intro p e s m below meth c s₁ Bd hml0 hZ e0
  have hx := Bd.exec
  have hby := Bd.bytes
  have hml : c.maxLocals = 11 := hml0
  have hown : s.vm.findClass "dev/countersign/cli/MessageHeadEndsHeadPinLaw" = some m.cls := findClass_of_methodNamed Bd.named
  have hnm := (name_of_methodNamed Bd.named Bd.method).1
  have X0 : Stand p l e room_1 s m #[(.long x), (.int g), (.int gg), (.int fl)] below meth c s₁ [] 0 0 := Stand.of_body Bd
  have N0 := Fr.nil n0
  rw [own_eflaw]
  have sg1 : own_V p e below s₁ (mkF m 2 #[own_lv x, .second, iv g, iv gg, iv fl, .unset, .unset, .unset, .unset, .unset, .unset] [(.int (6 : Int32))]) (mkF m 0 #[own_lv x, .second, iv g, iv gg, iv fl, .unset, .unset, .unset, .unset, .unset, .unset] []) := by
    intro t kt
    refine XS.bipush X0.here hx rfl (hb hby at_0) ?_
    show own_S p e below s₁ m 2 #[own_lv x, .second, iv g, iv gg, iv fl, .unset, .unset, .unset, .unset, .unset, .unset] [(.int (6 : Int32))] _
    exact kt
  refine own_st sg1 ?_
  obtain ⟨T2, h2, a2, g2, X2, e2, E2, A2, st2⟩ := own_newP (n := 6) X0 hx hZ (hw _ (List.mem_of_getElem? (i := 0) rfl)) e0 (by decide) rfl (g := (mkF m 2 #[own_lv x, .second, iv g, iv gg, iv fl, .unset, .unset, .unset, .unset, .unset, .unset] [(.int (6 : Int32))])) rfl rfl (hb hby at_2) (cap := 6) (by decide) (by decide) (by decide) (by decide)
  refine own_st st2 ?_
  have g_a2 : n0 ≤ a2 := by rw [g2]; exact Z0
  have Z2 : n0 ≤ h2.size := Nat.le_trans Z0 E2.1
  have B2 : own_AI Z h2 a2 .byte 6 (fun _ => 0) := A2
  show own_Go p e below _ T2 (mkF m 4 #[own_lv x, .second, iv g, iv gg, iv fl, .unset, .unset, .unset, .unset, .unset, .unset] [(.ref a2)])
  have sg3 : own_V p e below T2 (mkF m 12 #[own_lv x, .second, iv g, iv gg, iv fl, rv a2, .unset, .unset, .unset, .unset, .unset] [(.int x.toInt32.toInt8.toInt32), (.int (0 : Int32)), (.ref a2)]) (mkF m 4 #[own_lv x, .second, iv g, iv gg, iv fl, .unset, .unset, .unset, .unset, .unset, .unset] [(.ref a2)]) := by
    intro t kt
    refine XS.astore X2.here hx rfl (hb hby at_4) rfl rfl (l' := #[own_lv x, .second, iv g, iv gg, iv fl, rv a2, .unset, .unset, .unset, .unset, .unset]) rfl ?_
    show own_S p e below T2 m 6 #[own_lv x, .second, iv g, iv gg, iv fl, rv a2, .unset, .unset, .unset, .unset, .unset] [] _
    refine XS.aload X2.here hx rfl (hb hby at_6) rfl rfl ?_
    show own_S p e below T2 m 8 #[own_lv x, .second, iv g, iv gg, iv fl, rv a2, .unset, .unset, .unset, .unset, .unset] [(.ref a2)] _
    refine XS.iconst X2.here hx rfl (hb hby at_8) ?_
    show own_S p e below T2 m 9 #[own_lv x, .second, iv g, iv gg, iv fl, rv a2, .unset, .unset, .unset, .unset, .unset] [(.int (0 : Int32)), (.ref a2)] _
    refine XS.lloadN X2.here hx rfl (hb hby at_9) rfl ?_
    show own_S p e below T2 m 10 #[own_lv x, .second, iv g, iv gg, iv fl, rv a2, .unset, .unset, .unset, .unset, .unset] [(.long x), (.int (0 : Int32)), (.ref a2)] _
    refine XS.l2i X2.here hx rfl (hb hby at_10) rfl ?_
    show own_S p e below T2 m 11 #[own_lv x, .second, iv g, iv gg, iv fl, rv a2, .unset, .unset, .unset, .unset, .unset] [(.int x.toInt32), (.int (0 : Int32)), (.ref a2)] _
    refine XS.i2b X2.here hx rfl (hb hby at_11) rfl ?_
    show own_S p e below T2 m 12 #[own_lv x, .second, iv g, iv gg, iv fl, rv a2, .unset, .unset, .unset, .unset, .unset] [(.int x.toInt32.toInt8.toInt32), (.int (0 : Int32)), (.ref a2)] _
    exact kt
  refine own_st sg3 ?_
  obtain ⟨T4, h4, X4, e4, W4, A4, st4⟩ := own_wrB X2 hx hZ e2 B2 (k := 0) (by decide) (by decide) (g := (mkF m 12 #[own_lv x, .second, iv g, iv gg, iv fl, rv a2, .unset, .unset, .unset, .unset, .unset] [(.int x.toInt32.toInt8.toInt32), (.int (0 : Int32)), (.ref a2)])) rfl rfl (hb hby at_12)
  refine own_st st4 ?_
  have Z4 : n0 ≤ h4.size := by rw [Wr.size W4]; exact Z2
  have N4 := Fr.snoc X4 N0 g_a2
  show own_Go p e below _ T4 (mkF m 13 #[own_lv x, .second, iv g, iv gg, iv fl, rv a2, .unset, .unset, .unset, .unset, .unset] [])
  obtain ⟨v5, hv5⟩ : ∃ z : Int32, z = ((x.toUInt64 >>> ((8 : Int32) &&& 0x3f).toInt64.toUInt64).toInt64).toInt32.toInt8.toInt32 := ⟨_, rfl⟩
  have sg6 : own_V p e below T4 (mkF m 22 #[own_lv x, .second, iv g, iv gg, iv fl, rv a2, .unset, .unset, .unset, .unset, .unset] [(.int v5), (.int (1 : Int32)), (.ref a2)]) (mkF m 13 #[own_lv x, .second, iv g, iv gg, iv fl, rv a2, .unset, .unset, .unset, .unset, .unset] []) := by
    intro t kt
    refine XS.aload X4.here hx rfl (hb hby at_13) rfl rfl ?_
    show own_S p e below T4 m 15 #[own_lv x, .second, iv g, iv gg, iv fl, rv a2, .unset, .unset, .unset, .unset, .unset] [(.ref a2)] _
    refine XS.iconst X4.here hx rfl (hb hby at_15) ?_
    show own_S p e below T4 m 16 #[own_lv x, .second, iv g, iv gg, iv fl, rv a2, .unset, .unset, .unset, .unset, .unset] [(.int (1 : Int32)), (.ref a2)] _
    refine XS.lloadN X4.here hx rfl (hb hby at_16) rfl ?_
    show own_S p e below T4 m 17 #[own_lv x, .second, iv g, iv gg, iv fl, rv a2, .unset, .unset, .unset, .unset, .unset] [(.long x), (.int (1 : Int32)), (.ref a2)] _
    refine XS.bipush X4.here hx rfl (hb hby at_17) ?_
    show own_S p e below T4 m 19 #[own_lv x, .second, iv g, iv gg, iv fl, rv a2, .unset, .unset, .unset, .unset, .unset] [(.int (8 : Int32)), (.long x), (.int (1 : Int32)), (.ref a2)] _
    refine XS.lushr X4.here hx rfl (hb hby at_19) rfl ?_
    show own_S p e below T4 m 20 #[own_lv x, .second, iv g, iv gg, iv fl, rv a2, .unset, .unset, .unset, .unset, .unset] [(.long ((x.toUInt64 >>> ((8 : Int32) &&& 0x3f).toInt64.toUInt64).toInt64)), (.int (1 : Int32)), (.ref a2)] _
    refine XS.l2i X4.here hx rfl (hb hby at_20) rfl ?_
    show own_S p e below T4 m 21 #[own_lv x, .second, iv g, iv gg, iv fl, rv a2, .unset, .unset, .unset, .unset, .unset] [(.int ((x.toUInt64 >>> ((8 : Int32) &&& 0x3f).toInt64.toUInt64).toInt64).toInt32), (.int (1 : Int32)), (.ref a2)] _
    refine XS.i2b X4.here hx rfl (hb hby at_21) rfl ?_
    show own_S p e below T4 m 22 #[own_lv x, .second, iv g, iv gg, iv fl, rv a2, .unset, .unset, .unset, .unset, .unset] [(.int ((x.toUInt64 >>> ((8 : Int32) &&& 0x3f).toInt64.toUInt64).toInt64).toInt32.toInt8.toInt32), (.int (1 : Int32)), (.ref a2)] _
    rw [hv5] at kt
    exact kt
  refine own_st sg6 ?_
  obtain ⟨T7, h7, X7, e7, W7, A7, st7⟩ := own_wrB X4 hx hZ e4 A4 (k := 1) (by decide) (by decide) (g := (mkF m 22 #[own_lv x, .second, iv g, iv gg, iv fl, rv a2, .unset, .unset, .unset, .unset, .unset] [(.int v5), (.int (1 : Int32)), (.ref a2)])) rfl rfl (hb hby at_22)
  refine own_st st7 ?_
  have Z7 : n0 ≤ h7.size := by rw [Wr.size W7]; exact Z4
  have N7 := Fr.snoc X7 N4 g_a2
  show own_Go p e below _ T7 (mkF m 23 #[own_lv x, .second, iv g, iv gg, iv fl, rv a2, .unset, .unset, .unset, .unset, .unset] [])
  obtain ⟨v8, hv8⟩ : ∃ z : Int32, z = ((x.toUInt64 >>> ((16 : Int32) &&& 0x3f).toInt64.toUInt64).toInt64).toInt32.toInt8.toInt32 := ⟨_, rfl⟩
  have sg9 : own_V p e below T7 (mkF m 32 #[own_lv x, .second, iv g, iv gg, iv fl, rv a2, .unset, .unset, .unset, .unset, .unset] [(.int v8), (.int (2 : Int32)), (.ref a2)]) (mkF m 23 #[own_lv x, .second, iv g, iv gg, iv fl, rv a2, .unset, .unset, .unset, .unset, .unset] []) := by
    intro t kt
    refine XS.aload X7.here hx rfl (hb hby at_23) rfl rfl ?_
    show own_S p e below T7 m 25 #[own_lv x, .second, iv g, iv gg, iv fl, rv a2, .unset, .unset, .unset, .unset, .unset] [(.ref a2)] _
    refine XS.iconst X7.here hx rfl (hb hby at_25) ?_
    show own_S p e below T7 m 26 #[own_lv x, .second, iv g, iv gg, iv fl, rv a2, .unset, .unset, .unset, .unset, .unset] [(.int (2 : Int32)), (.ref a2)] _
    refine XS.lloadN X7.here hx rfl (hb hby at_26) rfl ?_
    show own_S p e below T7 m 27 #[own_lv x, .second, iv g, iv gg, iv fl, rv a2, .unset, .unset, .unset, .unset, .unset] [(.long x), (.int (2 : Int32)), (.ref a2)] _
    refine XS.bipush X7.here hx rfl (hb hby at_27) ?_
    show own_S p e below T7 m 29 #[own_lv x, .second, iv g, iv gg, iv fl, rv a2, .unset, .unset, .unset, .unset, .unset] [(.int (16 : Int32)), (.long x), (.int (2 : Int32)), (.ref a2)] _
    refine XS.lushr X7.here hx rfl (hb hby at_29) rfl ?_
    show own_S p e below T7 m 30 #[own_lv x, .second, iv g, iv gg, iv fl, rv a2, .unset, .unset, .unset, .unset, .unset] [(.long ((x.toUInt64 >>> ((16 : Int32) &&& 0x3f).toInt64.toUInt64).toInt64)), (.int (2 : Int32)), (.ref a2)] _
    refine XS.l2i X7.here hx rfl (hb hby at_30) rfl ?_
    show own_S p e below T7 m 31 #[own_lv x, .second, iv g, iv gg, iv fl, rv a2, .unset, .unset, .unset, .unset, .unset] [(.int ((x.toUInt64 >>> ((16 : Int32) &&& 0x3f).toInt64.toUInt64).toInt64).toInt32), (.int (2 : Int32)), (.ref a2)] _
    refine XS.i2b X7.here hx rfl (hb hby at_31) rfl ?_
    show own_S p e below T7 m 32 #[own_lv x, .second, iv g, iv gg, iv fl, rv a2, .unset, .unset, .unset, .unset, .unset] [(.int ((x.toUInt64 >>> ((16 : Int32) &&& 0x3f).toInt64.toUInt64).toInt64).toInt32.toInt8.toInt32), (.int (2 : Int32)), (.ref a2)] _
    rw [hv8] at kt
    exact kt
  refine own_st sg9 ?_
  obtain ⟨T10, h10, X10, e10, W10, A10, st10⟩ := own_wrB X7 hx hZ e7 A7 (k := 2) (by decide) (by decide) (g := (mkF m 32 #[own_lv x, .second, iv g, iv gg, iv fl, rv a2, .unset, .unset, .unset, .unset, .unset] [(.int v8), (.int (2 : Int32)), (.ref a2)])) rfl rfl (hb hby at_32)
  refine own_st st10 ?_
  have Z10 : n0 ≤ h10.size := by rw [Wr.size W10]; exact Z7
  have N10 := Fr.snoc X10 N7 g_a2
  show own_Go p e below _ T10 (mkF m 33 #[own_lv x, .second, iv g, iv gg, iv fl, rv a2, .unset, .unset, .unset, .unset, .unset] [])
  obtain ⟨v11, hv11⟩ : ∃ z : Int32, z = ((x.toUInt64 >>> ((24 : Int32) &&& 0x3f).toInt64.toUInt64).toInt64).toInt32.toInt8.toInt32 := ⟨_, rfl⟩
  have sg12 : own_V p e below T10 (mkF m 42 #[own_lv x, .second, iv g, iv gg, iv fl, rv a2, .unset, .unset, .unset, .unset, .unset] [(.int v11), (.int (3 : Int32)), (.ref a2)]) (mkF m 33 #[own_lv x, .second, iv g, iv gg, iv fl, rv a2, .unset, .unset, .unset, .unset, .unset] []) := by
    intro t kt
    refine XS.aload X10.here hx rfl (hb hby at_33) rfl rfl ?_
    show own_S p e below T10 m 35 #[own_lv x, .second, iv g, iv gg, iv fl, rv a2, .unset, .unset, .unset, .unset, .unset] [(.ref a2)] _
    refine XS.iconst X10.here hx rfl (hb hby at_35) ?_
    show own_S p e below T10 m 36 #[own_lv x, .second, iv g, iv gg, iv fl, rv a2, .unset, .unset, .unset, .unset, .unset] [(.int (3 : Int32)), (.ref a2)] _
    refine XS.lloadN X10.here hx rfl (hb hby at_36) rfl ?_
    show own_S p e below T10 m 37 #[own_lv x, .second, iv g, iv gg, iv fl, rv a2, .unset, .unset, .unset, .unset, .unset] [(.long x), (.int (3 : Int32)), (.ref a2)] _
    refine XS.bipush X10.here hx rfl (hb hby at_37) ?_
    show own_S p e below T10 m 39 #[own_lv x, .second, iv g, iv gg, iv fl, rv a2, .unset, .unset, .unset, .unset, .unset] [(.int (24 : Int32)), (.long x), (.int (3 : Int32)), (.ref a2)] _
    refine XS.lushr X10.here hx rfl (hb hby at_39) rfl ?_
    show own_S p e below T10 m 40 #[own_lv x, .second, iv g, iv gg, iv fl, rv a2, .unset, .unset, .unset, .unset, .unset] [(.long ((x.toUInt64 >>> ((24 : Int32) &&& 0x3f).toInt64.toUInt64).toInt64)), (.int (3 : Int32)), (.ref a2)] _
    refine XS.l2i X10.here hx rfl (hb hby at_40) rfl ?_
    show own_S p e below T10 m 41 #[own_lv x, .second, iv g, iv gg, iv fl, rv a2, .unset, .unset, .unset, .unset, .unset] [(.int ((x.toUInt64 >>> ((24 : Int32) &&& 0x3f).toInt64.toUInt64).toInt64).toInt32), (.int (3 : Int32)), (.ref a2)] _
    refine XS.i2b X10.here hx rfl (hb hby at_41) rfl ?_
    show own_S p e below T10 m 42 #[own_lv x, .second, iv g, iv gg, iv fl, rv a2, .unset, .unset, .unset, .unset, .unset] [(.int ((x.toUInt64 >>> ((24 : Int32) &&& 0x3f).toInt64.toUInt64).toInt64).toInt32.toInt8.toInt32), (.int (3 : Int32)), (.ref a2)] _
    rw [hv11] at kt
    exact kt
  refine own_st sg12 ?_
  obtain ⟨T13, h13, X13, e13, W13, A13, st13⟩ := own_wrB X10 hx hZ e10 A10 (k := 3) (by decide) (by decide) (g := (mkF m 42 #[own_lv x, .second, iv g, iv gg, iv fl, rv a2, .unset, .unset, .unset, .unset, .unset] [(.int v11), (.int (3 : Int32)), (.ref a2)])) rfl rfl (hb hby at_42)
  refine own_st st13 ?_
  have Z13 : n0 ≤ h13.size := by rw [Wr.size W13]; exact Z10
  have N13 := Fr.snoc X13 N10 g_a2
  show own_Go p e below _ T13 (mkF m 43 #[own_lv x, .second, iv g, iv gg, iv fl, rv a2, .unset, .unset, .unset, .unset, .unset] [])
  obtain ⟨v14, hv14⟩ : ∃ z : Int32, z = ((x.toUInt64 >>> ((32 : Int32) &&& 0x3f).toInt64.toUInt64).toInt64).toInt32.toInt8.toInt32 := ⟨_, rfl⟩
  have sg15 : own_V p e below T13 (mkF m 52 #[own_lv x, .second, iv g, iv gg, iv fl, rv a2, .unset, .unset, .unset, .unset, .unset] [(.int v14), (.int (4 : Int32)), (.ref a2)]) (mkF m 43 #[own_lv x, .second, iv g, iv gg, iv fl, rv a2, .unset, .unset, .unset, .unset, .unset] []) := by
    intro t kt
    refine XS.aload X13.here hx rfl (hb hby at_43) rfl rfl ?_
    show own_S p e below T13 m 45 #[own_lv x, .second, iv g, iv gg, iv fl, rv a2, .unset, .unset, .unset, .unset, .unset] [(.ref a2)] _
    refine XS.iconst X13.here hx rfl (hb hby at_45) ?_
    show own_S p e below T13 m 46 #[own_lv x, .second, iv g, iv gg, iv fl, rv a2, .unset, .unset, .unset, .unset, .unset] [(.int (4 : Int32)), (.ref a2)] _
    refine XS.lloadN X13.here hx rfl (hb hby at_46) rfl ?_
    show own_S p e below T13 m 47 #[own_lv x, .second, iv g, iv gg, iv fl, rv a2, .unset, .unset, .unset, .unset, .unset] [(.long x), (.int (4 : Int32)), (.ref a2)] _
    refine XS.bipush X13.here hx rfl (hb hby at_47) ?_
    show own_S p e below T13 m 49 #[own_lv x, .second, iv g, iv gg, iv fl, rv a2, .unset, .unset, .unset, .unset, .unset] [(.int (32 : Int32)), (.long x), (.int (4 : Int32)), (.ref a2)] _
    refine XS.lushr X13.here hx rfl (hb hby at_49) rfl ?_
    show own_S p e below T13 m 50 #[own_lv x, .second, iv g, iv gg, iv fl, rv a2, .unset, .unset, .unset, .unset, .unset] [(.long ((x.toUInt64 >>> ((32 : Int32) &&& 0x3f).toInt64.toUInt64).toInt64)), (.int (4 : Int32)), (.ref a2)] _
    refine XS.l2i X13.here hx rfl (hb hby at_50) rfl ?_
    show own_S p e below T13 m 51 #[own_lv x, .second, iv g, iv gg, iv fl, rv a2, .unset, .unset, .unset, .unset, .unset] [(.int ((x.toUInt64 >>> ((32 : Int32) &&& 0x3f).toInt64.toUInt64).toInt64).toInt32), (.int (4 : Int32)), (.ref a2)] _
    refine XS.i2b X13.here hx rfl (hb hby at_51) rfl ?_
    show own_S p e below T13 m 52 #[own_lv x, .second, iv g, iv gg, iv fl, rv a2, .unset, .unset, .unset, .unset, .unset] [(.int ((x.toUInt64 >>> ((32 : Int32) &&& 0x3f).toInt64.toUInt64).toInt64).toInt32.toInt8.toInt32), (.int (4 : Int32)), (.ref a2)] _
    rw [hv14] at kt
    exact kt
  refine own_st sg15 ?_
  obtain ⟨T16, h16, X16, e16, W16, A16, st16⟩ := own_wrB X13 hx hZ e13 A13 (k := 4) (by decide) (by decide) (g := (mkF m 52 #[own_lv x, .second, iv g, iv gg, iv fl, rv a2, .unset, .unset, .unset, .unset, .unset] [(.int v14), (.int (4 : Int32)), (.ref a2)])) rfl rfl (hb hby at_52)
  refine own_st st16 ?_
  have Z16 : n0 ≤ h16.size := by rw [Wr.size W16]; exact Z13
  have N16 := Fr.snoc X16 N13 g_a2
  show own_Go p e below _ T16 (mkF m 53 #[own_lv x, .second, iv g, iv gg, iv fl, rv a2, .unset, .unset, .unset, .unset, .unset] [])
  obtain ⟨v17, hv17⟩ : ∃ z : Int32, z = ((x.toUInt64 >>> ((40 : Int32) &&& 0x3f).toInt64.toUInt64).toInt64).toInt32.toInt8.toInt32 := ⟨_, rfl⟩
  have sg18 : own_V p e below T16 (mkF m 62 #[own_lv x, .second, iv g, iv gg, iv fl, rv a2, .unset, .unset, .unset, .unset, .unset] [(.int v17), (.int (5 : Int32)), (.ref a2)]) (mkF m 53 #[own_lv x, .second, iv g, iv gg, iv fl, rv a2, .unset, .unset, .unset, .unset, .unset] []) := by
    intro t kt
    refine XS.aload X16.here hx rfl (hb hby at_53) rfl rfl ?_
    show own_S p e below T16 m 55 #[own_lv x, .second, iv g, iv gg, iv fl, rv a2, .unset, .unset, .unset, .unset, .unset] [(.ref a2)] _
    refine XS.iconst X16.here hx rfl (hb hby at_55) ?_
    show own_S p e below T16 m 56 #[own_lv x, .second, iv g, iv gg, iv fl, rv a2, .unset, .unset, .unset, .unset, .unset] [(.int (5 : Int32)), (.ref a2)] _
    refine XS.lloadN X16.here hx rfl (hb hby at_56) rfl ?_
    show own_S p e below T16 m 57 #[own_lv x, .second, iv g, iv gg, iv fl, rv a2, .unset, .unset, .unset, .unset, .unset] [(.long x), (.int (5 : Int32)), (.ref a2)] _
    refine XS.bipush X16.here hx rfl (hb hby at_57) ?_
    show own_S p e below T16 m 59 #[own_lv x, .second, iv g, iv gg, iv fl, rv a2, .unset, .unset, .unset, .unset, .unset] [(.int (40 : Int32)), (.long x), (.int (5 : Int32)), (.ref a2)] _
    refine XS.lushr X16.here hx rfl (hb hby at_59) rfl ?_
    show own_S p e below T16 m 60 #[own_lv x, .second, iv g, iv gg, iv fl, rv a2, .unset, .unset, .unset, .unset, .unset] [(.long ((x.toUInt64 >>> ((40 : Int32) &&& 0x3f).toInt64.toUInt64).toInt64)), (.int (5 : Int32)), (.ref a2)] _
    refine XS.l2i X16.here hx rfl (hb hby at_60) rfl ?_
    show own_S p e below T16 m 61 #[own_lv x, .second, iv g, iv gg, iv fl, rv a2, .unset, .unset, .unset, .unset, .unset] [(.int ((x.toUInt64 >>> ((40 : Int32) &&& 0x3f).toInt64.toUInt64).toInt64).toInt32), (.int (5 : Int32)), (.ref a2)] _
    refine XS.i2b X16.here hx rfl (hb hby at_61) rfl ?_
    show own_S p e below T16 m 62 #[own_lv x, .second, iv g, iv gg, iv fl, rv a2, .unset, .unset, .unset, .unset, .unset] [(.int ((x.toUInt64 >>> ((40 : Int32) &&& 0x3f).toInt64.toUInt64).toInt64).toInt32.toInt8.toInt32), (.int (5 : Int32)), (.ref a2)] _
    rw [hv17] at kt
    exact kt
  refine own_st sg18 ?_
  obtain ⟨T19, h19, X19, e19, W19, A19, st19⟩ := own_wrB X16 hx hZ e16 A16 (k := 5) (by decide) (by decide) (g := (mkF m 62 #[own_lv x, .second, iv g, iv gg, iv fl, rv a2, .unset, .unset, .unset, .unset, .unset] [(.int v17), (.int (5 : Int32)), (.ref a2)])) rfl rfl (hb hby at_62)
  refine own_st st19 ?_
  have Z19 : n0 ≤ h19.size := by rw [Wr.size W19]; exact Z16
  have N19 := Fr.snoc X19 N16 g_a2
  show own_Go p e below _ T19 (mkF m 63 #[own_lv x, .second, iv g, iv gg, iv fl, rv a2, .unset, .unset, .unset, .unset, .unset] [])
  obtain ⟨ls, hls⟩ : ∃ z : Int32, z = ((g &&& (2147483647 : Int32)) % (3 : Int32)) := ⟨_, rfl⟩
  obtain ⟨lf, hlf⟩ : ∃ z : Int32, z = (((g &&& (2147483647 : Int32)) % (3 : Int32)) + ((gg &&& (2147483647 : Int32)) % (4 : Int32))) := ⟨_, rfl⟩
  have sg20 : own_V p e below T19 (mkF m 82 #[own_lv x, .second, iv g, iv gg, iv fl, rv a2, iv ls, iv lf, .unset, .unset, .unset] []) (mkF m 63 #[own_lv x, .second, iv g, iv gg, iv fl, rv a2, .unset, .unset, .unset, .unset, .unset] []) := by
    intro t kt
    refine XS.iloadN X19.here hx rfl (hb hby at_63) rfl ?_
    show own_S p e below T19 m 64 #[own_lv x, .second, iv g, iv gg, iv fl, rv a2, .unset, .unset, .unset, .unset, .unset] [(.int g)] _
    refine X19.ldcInt hx hown (mvT hZ (hw _ (List.mem_of_getElem? (i := 1) rfl))) (g := (mkF m 64 #[own_lv x, .second, iv g, iv gg, iv fl, rv a2, .unset, .unset, .unset, .unset, .unset] [(.int g)])) rfl (hb hby at_64) _ ?_
    show own_S p e below T19 m 66 #[own_lv x, .second, iv g, iv gg, iv fl, rv a2, .unset, .unset, .unset, .unset, .unset] [(.int (2147483647 : Int32)), (.int g)] _
    refine XS.iand X19.here hx rfl (hb hby at_66) rfl ?_
    show own_S p e below T19 m 67 #[own_lv x, .second, iv g, iv gg, iv fl, rv a2, .unset, .unset, .unset, .unset, .unset] [(.int (g &&& (2147483647 : Int32)))] _
    refine XS.iconst X19.here hx rfl (hb hby at_67) ?_
    show own_S p e below T19 m 68 #[own_lv x, .second, iv g, iv gg, iv fl, rv a2, .unset, .unset, .unset, .unset, .unset] [(.int (3 : Int32)), (.int (g &&& (2147483647 : Int32)))] _
    refine own_irem X19.here hx rfl (hb hby at_68) rfl (by decide) ?_
    show own_S p e below T19 m 69 #[own_lv x, .second, iv g, iv gg, iv fl, rv a2, .unset, .unset, .unset, .unset, .unset] [(.int ((g &&& (2147483647 : Int32)) % (3 : Int32)))] _
    refine XS.istore X19.here hx rfl (hb hby at_69) rfl (l' := #[own_lv x, .second, iv g, iv gg, iv fl, rv a2, iv ((g &&& (2147483647 : Int32)) % (3 : Int32)), .unset, .unset, .unset, .unset]) rfl ?_
    show own_S p e below T19 m 71 #[own_lv x, .second, iv g, iv gg, iv fl, rv a2, iv ((g &&& (2147483647 : Int32)) % (3 : Int32)), .unset, .unset, .unset, .unset] [] _
    refine XS.iload X19.here hx rfl (hb hby at_71) rfl ?_
    show own_S p e below T19 m 73 #[own_lv x, .second, iv g, iv gg, iv fl, rv a2, iv ((g &&& (2147483647 : Int32)) % (3 : Int32)), .unset, .unset, .unset, .unset] [(.int ((g &&& (2147483647 : Int32)) % (3 : Int32)))] _
    refine XS.iloadN X19.here hx rfl (hb hby at_73) rfl ?_
    show own_S p e below T19 m 74 #[own_lv x, .second, iv g, iv gg, iv fl, rv a2, iv ((g &&& (2147483647 : Int32)) % (3 : Int32)), .unset, .unset, .unset, .unset] [(.int gg), (.int ((g &&& (2147483647 : Int32)) % (3 : Int32)))] _
    refine X19.ldcInt hx hown (mvT hZ (hw _ (List.mem_of_getElem? (i := 1) rfl))) (g := (mkF m 74 #[own_lv x, .second, iv g, iv gg, iv fl, rv a2, iv ((g &&& (2147483647 : Int32)) % (3 : Int32)), .unset, .unset, .unset, .unset] [(.int gg), (.int ((g &&& (2147483647 : Int32)) % (3 : Int32)))])) rfl (hb hby at_74) _ ?_
    show own_S p e below T19 m 76 #[own_lv x, .second, iv g, iv gg, iv fl, rv a2, iv ((g &&& (2147483647 : Int32)) % (3 : Int32)), .unset, .unset, .unset, .unset] [(.int (2147483647 : Int32)), (.int gg), (.int ((g &&& (2147483647 : Int32)) % (3 : Int32)))] _
    refine XS.iand X19.here hx rfl (hb hby at_76) rfl ?_
    show own_S p e below T19 m 77 #[own_lv x, .second, iv g, iv gg, iv fl, rv a2, iv ((g &&& (2147483647 : Int32)) % (3 : Int32)), .unset, .unset, .unset, .unset] [(.int (gg &&& (2147483647 : Int32))), (.int ((g &&& (2147483647 : Int32)) % (3 : Int32)))] _
    refine XS.iconst X19.here hx rfl (hb hby at_77) ?_
    show own_S p e below T19 m 78 #[own_lv x, .second, iv g, iv gg, iv fl, rv a2, iv ((g &&& (2147483647 : Int32)) % (3 : Int32)), .unset, .unset, .unset, .unset] [(.int (4 : Int32)), (.int (gg &&& (2147483647 : Int32))), (.int ((g &&& (2147483647 : Int32)) % (3 : Int32)))] _
    refine own_irem X19.here hx rfl (hb hby at_78) rfl (by decide) ?_
    show own_S p e below T19 m 79 #[own_lv x, .second, iv g, iv gg, iv fl, rv a2, iv ((g &&& (2147483647 : Int32)) % (3 : Int32)), .unset, .unset, .unset, .unset] [(.int ((gg &&& (2147483647 : Int32)) % (4 : Int32))), (.int ((g &&& (2147483647 : Int32)) % (3 : Int32)))] _
    refine XS.iadd X19.here hx rfl (hb hby at_79) rfl ?_
    show own_S p e below T19 m 80 #[own_lv x, .second, iv g, iv gg, iv fl, rv a2, iv ((g &&& (2147483647 : Int32)) % (3 : Int32)), .unset, .unset, .unset, .unset] [(.int (((g &&& (2147483647 : Int32)) % (3 : Int32)) + ((gg &&& (2147483647 : Int32)) % (4 : Int32))))] _
    refine XS.istore X19.here hx rfl (hb hby at_80) rfl (l' := #[own_lv x, .second, iv g, iv gg, iv fl, rv a2, iv ((g &&& (2147483647 : Int32)) % (3 : Int32)), iv (((g &&& (2147483647 : Int32)) % (3 : Int32)) + ((gg &&& (2147483647 : Int32)) % (4 : Int32))), .unset, .unset, .unset]) rfl ?_
    show own_S p e below T19 m 82 #[own_lv x, .second, iv g, iv gg, iv fl, rv a2, iv ((g &&& (2147483647 : Int32)) % (3 : Int32)), iv (((g &&& (2147483647 : Int32)) % (3 : Int32)) + ((gg &&& (2147483647 : Int32)) % (4 : Int32))), .unset, .unset, .unset] [] _
    rw [hls] at kt
    rw [hlf] at kt
    exact kt
  refine own_st sg20 ?_
  obtain ⟨f0, F0⟩ : ∃ f, own_AI Z h19 a2 .byte 6 f := ⟨_, A19⟩
  obtain ⟨kl, kf, q1, q2, q3, q4, q5⟩ := own_pos g gg ls lf hls hlf
  obtain ⟨T21, _, ⟨h21, L21, fx21, rfl, X21, e21, N21, Z21, F21⟩, st21⟩ : own_Pk p e below (fun T' f' => ∃ (h' : Heap) (locs' : List Loc) (fx : Nat → Int32), f' = (mkF m 96 #[own_lv x, .second, iv g, iv gg, iv fl, rv a2, iv ls, iv lf, .unset, .unset, .unset] []) ∧ Stand p l e room_1 s m #[(.long x), (.int g), (.int gg), (.int fl)] below meth c T' locs' 1 6 ∧ T'.heap = h' ∧ Fr n0 locs' ∧ n0 ≤ h'.size ∧ (own_AI Z h' a2 .byte 6 fx)) T19 (mkF m 82 #[own_lv x, .second, iv g, iv gg, iv fl, rv a2, iv ls, iv lf, .unset, .unset, .unset] []) := by
    have sg22 : own_V p e below T19 (mkF m 86 #[own_lv x, .second, iv g, iv gg, iv fl, rv a2, iv ls, iv lf, .unset, .unset, .unset] [(.int (fl &&& (1 : Int32)))]) (mkF m 82 #[own_lv x, .second, iv g, iv gg, iv fl, rv a2, iv ls, iv lf, .unset, .unset, .unset] []) := by
      intro t kt
      refine XS.iload X19.here hx rfl (hb hby at_82) rfl ?_
      show own_S p e below T19 m 84 #[own_lv x, .second, iv g, iv gg, iv fl, rv a2, iv ls, iv lf, .unset, .unset, .unset] [(.int fl)] _
      refine XS.iconst X19.here hx rfl (hb hby at_84) ?_
      show own_S p e below T19 m 85 #[own_lv x, .second, iv g, iv gg, iv fl, rv a2, iv ls, iv lf, .unset, .unset, .unset] [(.int (1 : Int32)), (.int fl)] _
      refine XS.iand X19.here hx rfl (hb hby at_85) rfl ?_
      show own_S p e below T19 m 86 #[own_lv x, .second, iv g, iv gg, iv fl, rv a2, iv ls, iv lf, .unset, .unset, .unset] [(.int (fl &&& (1 : Int32)))] _
      exact kt
    refine own_sp sg22 ?_
    by_cases hc23 : (fl &&& (1 : Int32)) = (0 : Int32)
    · skip
      have sg24 : own_V p e below T19 (mkF m 96 #[own_lv x, .second, iv g, iv gg, iv fl, rv a2, iv ls, iv lf, .unset, .unset, .unset] []) (mkF m 86 #[own_lv x, .second, iv g, iv gg, iv fl, rv a2, iv ls, iv lf, .unset, .unset, .unset] [(.int (fl &&& (1 : Int32)))]) := by
        intro t kt
        refine XS.ifYes X19.here hx rfl (pc0 := 86) (pc' := 96) rfl (hb hby at_86) rfl ((if0 _ _).trans (teq hc23).1) (by decide) (by decide) ?_
        exact kt
      refine own_sp sg24 ?_
      exact ⟨T19, _, ⟨_, _, _, rfl, X19, e19, N19, Z19, F0⟩, fun t k => k⟩
    have sg25 : own_V p e below T19 (mkF m 89 #[own_lv x, .second, iv g, iv gg, iv fl, rv a2, iv ls, iv lf, .unset, .unset, .unset] []) (mkF m 86 #[own_lv x, .second, iv g, iv gg, iv fl, rv a2, iv ls, iv lf, .unset, .unset, .unset] [(.int (fl &&& (1 : Int32)))]) := by
      intro t kt
      refine XS.ifNo X19.here hx rfl (hb hby at_86) rfl ((if0 _ _).trans (feq hc23).1) ?_
      exact kt
    refine own_sp sg25 ?_
    have sg26 : own_V p e below T19 (mkF m 95 #[own_lv x, .second, iv g, iv gg, iv fl, rv a2, iv ls, iv lf, .unset, .unset, .unset] [(.int (13 : Int32)), (.int ls), (.ref a2)]) (mkF m 89 #[own_lv x, .second, iv g, iv gg, iv fl, rv a2, iv ls, iv lf, .unset, .unset, .unset] []) := by
      intro t kt
      refine XS.aload X19.here hx rfl (hb hby at_89) rfl rfl ?_
      show own_S p e below T19 m 91 #[own_lv x, .second, iv g, iv gg, iv fl, rv a2, iv ls, iv lf, .unset, .unset, .unset] [(.ref a2)] _
      refine XS.iload X19.here hx rfl (hb hby at_91) rfl ?_
      show own_S p e below T19 m 93 #[own_lv x, .second, iv g, iv gg, iv fl, rv a2, iv ls, iv lf, .unset, .unset, .unset] [(.int ls), (.ref a2)] _
      refine XS.bipush X19.here hx rfl (hb hby at_93) ?_
      show own_S p e below T19 m 95 #[own_lv x, .second, iv g, iv gg, iv fl, rv a2, iv ls, iv lf, .unset, .unset, .unset] [(.int (13 : Int32)), (.int ls), (.ref a2)] _
      exact kt
    refine own_sp sg26 ?_
    obtain ⟨T27, h27, X27, e27, W27, A27, st27⟩ := own_wrB X19 hx hZ e19 F0 (k := kl) q1 q3 (g := (mkF m 95 #[own_lv x, .second, iv g, iv gg, iv fl, rv a2, iv ls, iv lf, .unset, .unset, .unset] [(.int (13 : Int32)), (.int ls), (.ref a2)])) rfl rfl (hb hby at_95)
    refine own_sp st27 ?_
    have Z27 : n0 ≤ h27.size := by rw [Wr.size W27]; exact Z19
    have N27 := Fr.snoc X27 N19 g_a2
    show own_Pk p e below _ T27 (mkF m 96 #[own_lv x, .second, iv g, iv gg, iv fl, rv a2, iv ls, iv lf, .unset, .unset, .unset] [])
    exact ⟨T27, _, ⟨_, _, _, rfl, X27, e27, N27, Z27, A27⟩, fun t k => k⟩
  refine own_st st21 ?_
  show own_Go p e below _ T21 (mkF m 96 #[own_lv x, .second, iv g, iv gg, iv fl, rv a2, iv ls, iv lf, .unset, .unset, .unset] [])
  obtain ⟨T28, _, ⟨h28, L28, fx28, rfl, X28, e28, N28, Z28, F28⟩, st28⟩ : own_Pk p e below (fun T' f' => ∃ (h' : Heap) (locs' : List Loc) (fx : Nat → Int32), f' = (mkF m 119 #[own_lv x, .second, iv g, iv gg, iv fl, rv a2, iv ls, iv lf, .unset, .unset, .unset] []) ∧ Stand p l e room_1 s m #[(.long x), (.int g), (.int gg), (.int fl)] below meth c T' locs' 1 6 ∧ T'.heap = h' ∧ Fr n0 locs' ∧ n0 ≤ h'.size ∧ (own_AI Z h' a2 .byte 6 fx)) T21 (mkF m 96 #[own_lv x, .second, iv g, iv gg, iv fl, rv a2, iv ls, iv lf, .unset, .unset, .unset] []) := by
    have sg29 : own_V p e below T21 (mkF m 100 #[own_lv x, .second, iv g, iv gg, iv fl, rv a2, iv ls, iv lf, .unset, .unset, .unset] [(.int (fl &&& (2 : Int32)))]) (mkF m 96 #[own_lv x, .second, iv g, iv gg, iv fl, rv a2, iv ls, iv lf, .unset, .unset, .unset] []) := by
      intro t kt
      refine XS.iload X21.here hx rfl (hb hby at_96) rfl ?_
      show own_S p e below T21 m 98 #[own_lv x, .second, iv g, iv gg, iv fl, rv a2, iv ls, iv lf, .unset, .unset, .unset] [(.int fl)] _
      refine XS.iconst X21.here hx rfl (hb hby at_98) ?_
      show own_S p e below T21 m 99 #[own_lv x, .second, iv g, iv gg, iv fl, rv a2, iv ls, iv lf, .unset, .unset, .unset] [(.int (2 : Int32)), (.int fl)] _
      refine XS.iand X21.here hx rfl (hb hby at_99) rfl ?_
      show own_S p e below T21 m 100 #[own_lv x, .second, iv g, iv gg, iv fl, rv a2, iv ls, iv lf, .unset, .unset, .unset] [(.int (fl &&& (2 : Int32)))] _
      exact kt
    refine own_sp sg29 ?_
    by_cases hc30 : (fl &&& (2 : Int32)) = (0 : Int32)
    · skip
      have sg31 : own_V p e below T21 (mkF m 119 #[own_lv x, .second, iv g, iv gg, iv fl, rv a2, iv ls, iv lf, .unset, .unset, .unset] []) (mkF m 100 #[own_lv x, .second, iv g, iv gg, iv fl, rv a2, iv ls, iv lf, .unset, .unset, .unset] [(.int (fl &&& (2 : Int32)))]) := by
        intro t kt
        refine XS.ifYes X21.here hx rfl (pc0 := 100) (pc' := 119) rfl (hb hby at_100) rfl ((if0 _ _).trans (teq hc30).1) (by decide) (by decide) ?_
        exact kt
      refine own_sp sg31 ?_
      exact ⟨T21, _, ⟨_, _, _, rfl, X21, e21, N21, Z21, F21⟩, fun t k => k⟩
    have sg32 : own_V p e below T21 (mkF m 103 #[own_lv x, .second, iv g, iv gg, iv fl, rv a2, iv ls, iv lf, .unset, .unset, .unset] []) (mkF m 100 #[own_lv x, .second, iv g, iv gg, iv fl, rv a2, iv ls, iv lf, .unset, .unset, .unset] [(.int (fl &&& (2 : Int32)))]) := by
      intro t kt
      refine XS.ifNo X21.here hx rfl (hb hby at_100) rfl ((if0 _ _).trans (feq hc30).1) ?_
      exact kt
    refine own_sp sg32 ?_
    have sg33 : own_V p e below T21 (mkF m 107 #[own_lv x, .second, iv g, iv gg, iv fl, rv a2, iv ls, iv lf, .unset, .unset, .unset] [(.int ls), (.int lf)]) (mkF m 103 #[own_lv x, .second, iv g, iv gg, iv fl, rv a2, iv ls, iv lf, .unset, .unset, .unset] []) := by
      intro t kt
      refine XS.iload X21.here hx rfl (hb hby at_103) rfl ?_
      show own_S p e below T21 m 105 #[own_lv x, .second, iv g, iv gg, iv fl, rv a2, iv ls, iv lf, .unset, .unset, .unset] [(.int lf)] _
      refine XS.iload X21.here hx rfl (hb hby at_105) rfl ?_
      show own_S p e below T21 m 107 #[own_lv x, .second, iv g, iv gg, iv fl, rv a2, iv ls, iv lf, .unset, .unset, .unset] [(.int ls), (.int lf)] _
      exact kt
    refine own_sp sg33 ?_
    by_cases hc34 : ls < lf
    · skip
      have sg35 : own_V p e below T21 (mkF m 110 #[own_lv x, .second, iv g, iv gg, iv fl, rv a2, iv ls, iv lf, .unset, .unset, .unset] []) (mkF m 107 #[own_lv x, .second, iv g, iv gg, iv fl, rv a2, iv ls, iv lf, .unset, .unset, .unset] [(.int ls), (.int lf)]) := by
        intro t kt
        refine XS.icmpNo X21.here hx rfl (hb hby at_107) rfl (tlt hc34).2.2.2 ?_
        exact kt
      refine own_sp sg35 ?_
      have sg36 : own_V p e below T21 (mkF m 118 #[own_lv x, .second, iv g, iv gg, iv fl, rv a2, iv ls, iv lf, .unset, .unset, .unset] [(.int (13 : Int32)), (.int (lf - (1 : Int32))), (.ref a2)]) (mkF m 110 #[own_lv x, .second, iv g, iv gg, iv fl, rv a2, iv ls, iv lf, .unset, .unset, .unset] []) := by
        intro t kt
        refine XS.aload X21.here hx rfl (hb hby at_110) rfl rfl ?_
        show own_S p e below T21 m 112 #[own_lv x, .second, iv g, iv gg, iv fl, rv a2, iv ls, iv lf, .unset, .unset, .unset] [(.ref a2)] _
        refine XS.iload X21.here hx rfl (hb hby at_112) rfl ?_
        show own_S p e below T21 m 114 #[own_lv x, .second, iv g, iv gg, iv fl, rv a2, iv ls, iv lf, .unset, .unset, .unset] [(.int lf), (.ref a2)] _
        refine XS.iconst X21.here hx rfl (hb hby at_114) ?_
        show own_S p e below T21 m 115 #[own_lv x, .second, iv g, iv gg, iv fl, rv a2, iv ls, iv lf, .unset, .unset, .unset] [(.int (1 : Int32)), (.int lf), (.ref a2)] _
        refine XS.isub X21.here hx rfl (hb hby at_115) rfl ?_
        show own_S p e below T21 m 116 #[own_lv x, .second, iv g, iv gg, iv fl, rv a2, iv ls, iv lf, .unset, .unset, .unset] [(.int (lf - (1 : Int32))), (.ref a2)] _
        refine XS.bipush X21.here hx rfl (hb hby at_116) ?_
        show own_S p e below T21 m 118 #[own_lv x, .second, iv g, iv gg, iv fl, rv a2, iv ls, iv lf, .unset, .unset, .unset] [(.int (13 : Int32)), (.int (lf - (1 : Int32))), (.ref a2)] _
        exact kt
      refine own_sp sg36 ?_
      obtain ⟨T37, h37, X37, e37, W37, A37, st37⟩ := own_wrB X21 hx hZ e21 F21 (k := (kf - 1)) (own_m1 q2 (own_pos1 q1 q2 hc34)) (by omega) (g := (mkF m 118 #[own_lv x, .second, iv g, iv gg, iv fl, rv a2, iv ls, iv lf, .unset, .unset, .unset] [(.int (13 : Int32)), (.int (lf - (1 : Int32))), (.ref a2)])) rfl rfl (hb hby at_118)
      refine own_sp st37 ?_
      have Z37 : n0 ≤ h37.size := by rw [Wr.size W37]; exact Z21
      have N37 := Fr.snoc X37 N21 g_a2
      show own_Pk p e below _ T37 (mkF m 119 #[own_lv x, .second, iv g, iv gg, iv fl, rv a2, iv ls, iv lf, .unset, .unset, .unset] [])
      exact ⟨T37, _, ⟨_, _, _, rfl, X37, e37, N37, Z37, A37⟩, fun t k => k⟩
    have sg38 : own_V p e below T21 (mkF m 119 #[own_lv x, .second, iv g, iv gg, iv fl, rv a2, iv ls, iv lf, .unset, .unset, .unset] []) (mkF m 107 #[own_lv x, .second, iv g, iv gg, iv fl, rv a2, iv ls, iv lf, .unset, .unset, .unset] [(.int ls), (.int lf)]) := by
      intro t kt
      refine XS.icmpYes X21.here hx rfl (pc0 := 107) (pc' := 119) rfl (hb hby at_107) rfl (flt hc34).2.2.2 (by decide) (by decide) ?_
      exact kt
    refine own_sp sg38 ?_
    exact ⟨T21, _, ⟨_, _, _, rfl, X21, e21, N21, Z21, F21⟩, fun t k => k⟩
  refine own_st st28 ?_
  show own_Go p e below _ T28 (mkF m 119 #[own_lv x, .second, iv g, iv gg, iv fl, rv a2, iv ls, iv lf, .unset, .unset, .unset] [])
  obtain ⟨T39, _, ⟨h39, L39, fx39, rfl, X39, e39, N39, Z39, F39⟩, st39⟩ : own_Pk p e below (fun T' f' => ∃ (h' : Heap) (locs' : List Loc) (fx : Nat → Int32), f' = (mkF m 133 #[own_lv x, .second, iv g, iv gg, iv fl, rv a2, iv ls, iv lf, .unset, .unset, .unset] []) ∧ Stand p l e room_1 s m #[(.long x), (.int g), (.int gg), (.int fl)] below meth c T' locs' 1 6 ∧ T'.heap = h' ∧ Fr n0 locs' ∧ n0 ≤ h'.size ∧ (own_AI Z h' a2 .byte 6 fx)) T28 (mkF m 119 #[own_lv x, .second, iv g, iv gg, iv fl, rv a2, iv ls, iv lf, .unset, .unset, .unset] []) := by
    have sg40 : own_V p e below T28 (mkF m 121 #[own_lv x, .second, iv g, iv gg, iv fl, rv a2, iv ls, iv lf, .unset, .unset, .unset] [(.int ls)]) (mkF m 119 #[own_lv x, .second, iv g, iv gg, iv fl, rv a2, iv ls, iv lf, .unset, .unset, .unset] []) := by
      intro t kt
      refine XS.iload X28.here hx rfl (hb hby at_119) rfl ?_
      show own_S p e below T28 m 121 #[own_lv x, .second, iv g, iv gg, iv fl, rv a2, iv ls, iv lf, .unset, .unset, .unset] [(.int ls)] _
      exact kt
    refine own_sp sg40 ?_
    by_cases hc41 : (0 : Int32) < ls
    · skip
      have sg42 : own_V p e below T28 (mkF m 124 #[own_lv x, .second, iv g, iv gg, iv fl, rv a2, iv ls, iv lf, .unset, .unset, .unset] []) (mkF m 121 #[own_lv x, .second, iv g, iv gg, iv fl, rv a2, iv ls, iv lf, .unset, .unset, .unset] [(.int ls)]) := by
        intro t kt
        refine XS.ifNo X28.here hx rfl (hb hby at_121) rfl ((if0 _ _).trans (tlt hc41).2.2.2) ?_
        exact kt
      refine own_sp sg42 ?_
      have sg43 : own_V p e below T28 (mkF m 132 #[own_lv x, .second, iv g, iv gg, iv fl, rv a2, iv ls, iv lf, .unset, .unset, .unset] [(.int (10 : Int32)), (.int (ls - (1 : Int32))), (.ref a2)]) (mkF m 124 #[own_lv x, .second, iv g, iv gg, iv fl, rv a2, iv ls, iv lf, .unset, .unset, .unset] []) := by
        intro t kt
        refine XS.aload X28.here hx rfl (hb hby at_124) rfl rfl ?_
        show own_S p e below T28 m 126 #[own_lv x, .second, iv g, iv gg, iv fl, rv a2, iv ls, iv lf, .unset, .unset, .unset] [(.ref a2)] _
        refine XS.iload X28.here hx rfl (hb hby at_126) rfl ?_
        show own_S p e below T28 m 128 #[own_lv x, .second, iv g, iv gg, iv fl, rv a2, iv ls, iv lf, .unset, .unset, .unset] [(.int ls), (.ref a2)] _
        refine XS.iconst X28.here hx rfl (hb hby at_128) ?_
        show own_S p e below T28 m 129 #[own_lv x, .second, iv g, iv gg, iv fl, rv a2, iv ls, iv lf, .unset, .unset, .unset] [(.int (1 : Int32)), (.int ls), (.ref a2)] _
        refine XS.isub X28.here hx rfl (hb hby at_129) rfl ?_
        show own_S p e below T28 m 130 #[own_lv x, .second, iv g, iv gg, iv fl, rv a2, iv ls, iv lf, .unset, .unset, .unset] [(.int (ls - (1 : Int32))), (.ref a2)] _
        refine XS.bipush X28.here hx rfl (hb hby at_130) ?_
        show own_S p e below T28 m 132 #[own_lv x, .second, iv g, iv gg, iv fl, rv a2, iv ls, iv lf, .unset, .unset, .unset] [(.int (10 : Int32)), (.int (ls - (1 : Int32))), (.ref a2)] _
        exact kt
      refine own_sp sg43 ?_
      obtain ⟨T44, h44, X44, e44, W44, A44, st44⟩ := own_wrB X28 hx hZ e28 F28 (k := (kl - 1)) (own_m1 q1 (own_pos0 q1 hc41)) (by omega) (g := (mkF m 132 #[own_lv x, .second, iv g, iv gg, iv fl, rv a2, iv ls, iv lf, .unset, .unset, .unset] [(.int (10 : Int32)), (.int (ls - (1 : Int32))), (.ref a2)])) rfl rfl (hb hby at_132)
      refine own_sp st44 ?_
      have Z44 : n0 ≤ h44.size := by rw [Wr.size W44]; exact Z28
      have N44 := Fr.snoc X44 N28 g_a2
      show own_Pk p e below _ T44 (mkF m 133 #[own_lv x, .second, iv g, iv gg, iv fl, rv a2, iv ls, iv lf, .unset, .unset, .unset] [])
      exact ⟨T44, _, ⟨_, _, _, rfl, X44, e44, N44, Z44, A44⟩, fun t k => k⟩
    have sg45 : own_V p e below T28 (mkF m 133 #[own_lv x, .second, iv g, iv gg, iv fl, rv a2, iv ls, iv lf, .unset, .unset, .unset] []) (mkF m 121 #[own_lv x, .second, iv g, iv gg, iv fl, rv a2, iv ls, iv lf, .unset, .unset, .unset] [(.int ls)]) := by
      intro t kt
      refine XS.ifYes X28.here hx rfl (pc0 := 121) (pc' := 133) rfl (hb hby at_121) rfl ((if0 _ _).trans (flt hc41).2.2.2) (by decide) (by decide) ?_
      exact kt
    refine own_sp sg45 ?_
    exact ⟨T28, _, ⟨_, _, _, rfl, X28, e28, N28, Z28, F28⟩, fun t k => k⟩
  refine own_st st39 ?_
  show own_Go p e below _ T39 (mkF m 133 #[own_lv x, .second, iv g, iv gg, iv fl, rv a2, iv ls, iv lf, .unset, .unset, .unset] [])
  have sg46 : own_V p e below T39 (mkF m 139 #[own_lv x, .second, iv g, iv gg, iv fl, rv a2, iv ls, iv lf, .unset, .unset, .unset] [(.int (10 : Int32)), (.int lf), (.ref a2)]) (mkF m 133 #[own_lv x, .second, iv g, iv gg, iv fl, rv a2, iv ls, iv lf, .unset, .unset, .unset] []) := by
    intro t kt
    refine XS.aload X39.here hx rfl (hb hby at_133) rfl rfl ?_
    show own_S p e below T39 m 135 #[own_lv x, .second, iv g, iv gg, iv fl, rv a2, iv ls, iv lf, .unset, .unset, .unset] [(.ref a2)] _
    refine XS.iload X39.here hx rfl (hb hby at_135) rfl ?_
    show own_S p e below T39 m 137 #[own_lv x, .second, iv g, iv gg, iv fl, rv a2, iv ls, iv lf, .unset, .unset, .unset] [(.int lf), (.ref a2)] _
    refine XS.bipush X39.here hx rfl (hb hby at_137) ?_
    show own_S p e below T39 m 139 #[own_lv x, .second, iv g, iv gg, iv fl, rv a2, iv ls, iv lf, .unset, .unset, .unset] [(.int (10 : Int32)), (.int lf), (.ref a2)] _
    exact kt
  refine own_st sg46 ?_
  obtain ⟨T47, h47, X47, e47, W47, A47, st47⟩ := own_wrB X39 hx hZ e39 F39 (k := kf) q2 q4 (g := (mkF m 139 #[own_lv x, .second, iv g, iv gg, iv fl, rv a2, iv ls, iv lf, .unset, .unset, .unset] [(.int (10 : Int32)), (.int lf), (.ref a2)])) rfl rfl (hb hby at_139)
  refine own_st st47 ?_
  have Z47 : n0 ≤ h47.size := by rw [Wr.size W47]; exact Z39
  have N47 := Fr.snoc X47 N39 g_a2
  show own_Go p e below _ T47 (mkF m 140 #[own_lv x, .second, iv g, iv gg, iv fl, rv a2, iv ls, iv lf, .unset, .unset, .unset] [])
  obtain ⟨ff, FF⟩ : ∃ f, own_AI Z h47 a2 .byte 6 f := ⟨_, A47⟩
  have sg48 : own_V p e below T47 (mkF m 146 #[own_lv x, .second, iv g, iv gg, iv fl, rv a2, iv ls, iv lf, .unset, .unset, .unset] [(.int lf), (.int ls), (.ref a2)]) (mkF m 140 #[own_lv x, .second, iv g, iv gg, iv fl, rv a2, iv ls, iv lf, .unset, .unset, .unset] []) := by
    intro t kt
    refine XS.aload X47.here hx rfl (hb hby at_140) rfl rfl ?_
    show own_S p e below T47 m 142 #[own_lv x, .second, iv g, iv gg, iv fl, rv a2, iv ls, iv lf, .unset, .unset, .unset] [(.ref a2)] _
    refine XS.iload X47.here hx rfl (hb hby at_142) rfl ?_
    show own_S p e below T47 m 144 #[own_lv x, .second, iv g, iv gg, iv fl, rv a2, iv ls, iv lf, .unset, .unset, .unset] [(.int ls), (.ref a2)] _
    refine XS.iload X47.here hx rfl (hb hby at_144) rfl ?_
    show own_S p e below T47 m 146 #[own_lv x, .second, iv g, iv gg, iv fl, rv a2, iv ls, iv lf, .unset, .unset, .unset] [(.int lf), (.int ls), (.ref a2)] _
    exact kt
  refine own_st sg48 ?_
  obtain ⟨_, T49, L49, X49, hQ49, st49⟩ := own_callS (y := (⟨"dev/countersign/cli/MessageHead", "endsHead", "([BII)Z"⟩ : MethodName)) X47 hx hZ hown (hw _ (List.mem_of_getElem? (i := 2) rfl)) (hw _ (List.mem_of_getElem? (i := 3) rfl)) (hw _ (List.mem_of_getElem? (i := 4) rfl)) (hw _ (List.mem_of_getElem? (i := 5) rfl)) (by decide) (own_rmeh l Z a0 hw a2 ls lf ff kl h47 n0 Z47 FF q1 q3) e47 (g := (mkF m 146 #[own_lv x, .second, iv g, iv gg, iv fl, rv a2, iv ls, iv lf, .unset, .unset, .unset] [(.int lf), (.int ls), (.ref a2)])) rfl (by rw [hml]; rfl) (argsL := [(.ref a2), (.int ls), (.int lf)]) (rest := []) (lenOf own_pd0 rfl) rfl (W := 0) (by show 2 * 0 + _ ≤ _; exact Nat.le_of_eq rfl) (hb hby at_146) (by decide) (by decide) (by decide) (by decide)
  obtain ⟨rfl, Nq49, e49⟩ := hQ49
  refine own_st st49 ?_
  have N49 := Fr.app N47 Nq49
  show own_Go p e below _ T49 (mkF m 149 #[own_lv x, .second, iv g, iv gg, iv fl, rv a2, iv ls, iv lf, .unset, .unset, .unset] [(.int (own_eh ls lf (ff kl)))])
  obtain ⟨got, hgot⟩ : ∃ z : Int32, z = (own_eh ls lf (ff kl)) := ⟨_, rfl⟩
  obtain ⟨en, hen⟩ : ∃ z : Int32, z = (if ls < lf then (if (ff (kf - 1)) = (13 : Int32) then (lf - (1 : Int32)) else lf) else lf) := ⟨_, rfl⟩
  have sg52 : own_V p e below T49 (mkF m 179 #[own_lv x, .second, iv g, iv gg, iv fl, rv a2, iv ls, iv lf, iv got, .unset, .unset] [(.int en)]) (mkF m 149 #[own_lv x, .second, iv g, iv gg, iv fl, rv a2, iv ls, iv lf, .unset, .unset, .unset] [(.int (own_eh ls lf (ff kl)))]) := by
    intro t kt
    refine XS.istore X49.here hx rfl (hb hby at_149) rfl (l' := #[own_lv x, .second, iv g, iv gg, iv fl, rv a2, iv ls, iv lf, iv (own_eh ls lf (ff kl)), .unset, .unset]) rfl ?_
    show own_S p e below T49 m 151 #[own_lv x, .second, iv g, iv gg, iv fl, rv a2, iv ls, iv lf, iv (own_eh ls lf (ff kl)), .unset, .unset] [] _
    refine XS.iload X49.here hx rfl (hb hby at_151) rfl ?_
    show own_S p e below T49 m 153 #[own_lv x, .second, iv g, iv gg, iv fl, rv a2, iv ls, iv lf, iv (own_eh ls lf (ff kl)), .unset, .unset] [(.int lf)] _
    refine XS.iload X49.here hx rfl (hb hby at_153) rfl ?_
    show own_S p e below T49 m 155 #[own_lv x, .second, iv g, iv gg, iv fl, rv a2, iv ls, iv lf, iv (own_eh ls lf (ff kl)), .unset, .unset] [(.int ls), (.int lf)] _
    by_cases hc50 : ls < lf
    · refine XS.icmpNo X49.here hx rfl (hb hby at_155) rfl (tlt hc50).2.2.2 ?_
      show own_S p e below T49 m 158 #[own_lv x, .second, iv g, iv gg, iv fl, rv a2, iv ls, iv lf, iv (own_eh ls lf (ff kl)), .unset, .unset] [] _
      refine XS.aload X49.here hx rfl (hb hby at_158) rfl rfl ?_
      show own_S p e below T49 m 160 #[own_lv x, .second, iv g, iv gg, iv fl, rv a2, iv ls, iv lf, iv (own_eh ls lf (ff kl)), .unset, .unset] [(.ref a2)] _
      refine XS.iload X49.here hx rfl (hb hby at_160) rfl ?_
      show own_S p e below T49 m 162 #[own_lv x, .second, iv g, iv gg, iv fl, rv a2, iv ls, iv lf, iv (own_eh ls lf (ff kl)), .unset, .unset] [(.int lf), (.ref a2)] _
      refine XS.iconst X49.here hx rfl (hb hby at_162) ?_
      show own_S p e below T49 m 163 #[own_lv x, .second, iv g, iv gg, iv fl, rv a2, iv ls, iv lf, iv (own_eh ls lf (ff kl)), .unset, .unset] [(.int (1 : Int32)), (.int lf), (.ref a2)] _
      refine XS.isub X49.here hx rfl (hb hby at_163) rfl ?_
      show own_S p e below T49 m 164 #[own_lv x, .second, iv g, iv gg, iv fl, rv a2, iv ls, iv lf, iv (own_eh ls lf (ff kl)), .unset, .unset] [(.int (lf - (1 : Int32))), (.ref a2)] _
      refine own_rdB X49 hx hZ e49 FF (k := kf - 1) (own_m1 q2 (own_pos1 q1 q2 (by assumption))) (by omega) (g := (mkF m 164 #[own_lv x, .second, iv g, iv gg, iv fl, rv a2, iv ls, iv lf, iv (own_eh ls lf (ff kl)), .unset, .unset] [(.int (lf - (1 : Int32))), (.ref a2)])) rfl rfl (hb hby at_164) _ ?_
      show own_S p e below T49 m 165 #[own_lv x, .second, iv g, iv gg, iv fl, rv a2, iv ls, iv lf, iv (own_eh ls lf (ff kl)), .unset, .unset] [(.int (ff (kf - 1)))] _
      refine XS.bipush X49.here hx rfl (hb hby at_165) ?_
      show own_S p e below T49 m 167 #[own_lv x, .second, iv g, iv gg, iv fl, rv a2, iv ls, iv lf, iv (own_eh ls lf (ff kl)), .unset, .unset] [(.int (13 : Int32)), (.int (ff (kf - 1)))] _
      by_cases hc51 : (ff (kf - 1)) = (13 : Int32)
      · refine XS.icmpNo X49.here hx rfl (hb hby at_167) rfl (teq hc51).2 ?_
        show own_S p e below T49 m 170 #[own_lv x, .second, iv g, iv gg, iv fl, rv a2, iv ls, iv lf, iv (own_eh ls lf (ff kl)), .unset, .unset] [] _
        refine XS.iload X49.here hx rfl (hb hby at_170) rfl ?_
        show own_S p e below T49 m 172 #[own_lv x, .second, iv g, iv gg, iv fl, rv a2, iv ls, iv lf, iv (own_eh ls lf (ff kl)), .unset, .unset] [(.int lf)] _
        refine XS.iconst X49.here hx rfl (hb hby at_172) ?_
        show own_S p e below T49 m 173 #[own_lv x, .second, iv g, iv gg, iv fl, rv a2, iv ls, iv lf, iv (own_eh ls lf (ff kl)), .unset, .unset] [(.int (1 : Int32)), (.int lf)] _
        refine XS.isub X49.here hx rfl (hb hby at_173) rfl ?_
        show own_S p e below T49 m 174 #[own_lv x, .second, iv g, iv gg, iv fl, rv a2, iv ls, iv lf, iv (own_eh ls lf (ff kl)), .unset, .unset] [(.int (lf - (1 : Int32)))] _
        refine XS.goto X49.here hx rfl (pc0 := 174) (pc' := 179) rfl (hb hby at_174) (by decide) (by decide) ?_
        show own_S p e below T49 m 179 #[own_lv x, .second, iv g, iv gg, iv fl, rv a2, iv ls, iv lf, iv (own_eh ls lf (ff kl)), .unset, .unset] [(.int (lf - (1 : Int32)))] _
        rw [hgot] at kt
        rw [show en = (lf - (1 : Int32)) from by rw [hen, if_pos hc50, if_pos hc51]] at kt
        exact kt
      · refine XS.icmpYes X49.here hx rfl (pc0 := 167) (pc' := 177) rfl (hb hby at_167) rfl (feq hc51).2 (by decide) (by decide) ?_
        show own_S p e below T49 m 177 #[own_lv x, .second, iv g, iv gg, iv fl, rv a2, iv ls, iv lf, iv (own_eh ls lf (ff kl)), .unset, .unset] [] _
        refine XS.iload X49.here hx rfl (hb hby at_177) rfl ?_
        show own_S p e below T49 m 179 #[own_lv x, .second, iv g, iv gg, iv fl, rv a2, iv ls, iv lf, iv (own_eh ls lf (ff kl)), .unset, .unset] [(.int lf)] _
        rw [hgot] at kt
        rw [show en = lf from by rw [hen, if_pos hc50, if_neg hc51]] at kt
        exact kt
    · refine XS.icmpYes X49.here hx rfl (pc0 := 155) (pc' := 177) rfl (hb hby at_155) rfl (flt hc50).2.2.2 (by decide) (by decide) ?_
      show own_S p e below T49 m 177 #[own_lv x, .second, iv g, iv gg, iv fl, rv a2, iv ls, iv lf, iv (own_eh ls lf (ff kl)), .unset, .unset] [] _
      refine XS.iload X49.here hx rfl (hb hby at_177) rfl ?_
      show own_S p e below T49 m 179 #[own_lv x, .second, iv g, iv gg, iv fl, rv a2, iv ls, iv lf, iv (own_eh ls lf (ff kl)), .unset, .unset] [(.int lf)] _
      rw [hgot] at kt
      rw [show en = lf from by rw [hen, if_neg hc50]] at kt
      exact kt
  refine own_st sg52 ?_
  obtain ⟨exp, hexp⟩ : ∃ z : Int32, z = (if (0 : Int32) < ls then (if en = ls then (1 : Int32) else (0 : Int32)) else (0 : Int32)) := ⟨_, rfl⟩
  have sg55 : own_V p e below T49 (mkF m 198 #[own_lv x, .second, iv g, iv gg, iv fl, rv a2, iv ls, iv lf, iv got, iv en, .unset] [(.int exp)]) (mkF m 179 #[own_lv x, .second, iv g, iv gg, iv fl, rv a2, iv ls, iv lf, iv got, .unset, .unset] [(.int en)]) := by
    intro t kt
    refine XS.istore X49.here hx rfl (hb hby at_179) rfl (l' := #[own_lv x, .second, iv g, iv gg, iv fl, rv a2, iv ls, iv lf, iv got, iv en, .unset]) rfl ?_
    show own_S p e below T49 m 181 #[own_lv x, .second, iv g, iv gg, iv fl, rv a2, iv ls, iv lf, iv got, iv en, .unset] [] _
    refine XS.iload X49.here hx rfl (hb hby at_181) rfl ?_
    show own_S p e below T49 m 183 #[own_lv x, .second, iv g, iv gg, iv fl, rv a2, iv ls, iv lf, iv got, iv en, .unset] [(.int ls)] _
    by_cases hc53 : (0 : Int32) < ls
    · refine XS.ifNo X49.here hx rfl (hb hby at_183) rfl ((if0 _ _).trans (tlt hc53).2.2.2) ?_
      show own_S p e below T49 m 186 #[own_lv x, .second, iv g, iv gg, iv fl, rv a2, iv ls, iv lf, iv got, iv en, .unset] [] _
      refine XS.iload X49.here hx rfl (hb hby at_186) rfl ?_
      show own_S p e below T49 m 188 #[own_lv x, .second, iv g, iv gg, iv fl, rv a2, iv ls, iv lf, iv got, iv en, .unset] [(.int en)] _
      refine XS.iload X49.here hx rfl (hb hby at_188) rfl ?_
      show own_S p e below T49 m 190 #[own_lv x, .second, iv g, iv gg, iv fl, rv a2, iv ls, iv lf, iv got, iv en, .unset] [(.int ls), (.int en)] _
      by_cases hc54 : en = ls
      · refine XS.icmpNo X49.here hx rfl (hb hby at_190) rfl (teq hc54).2 ?_
        show own_S p e below T49 m 193 #[own_lv x, .second, iv g, iv gg, iv fl, rv a2, iv ls, iv lf, iv got, iv en, .unset] [] _
        refine XS.iconst X49.here hx rfl (hb hby at_193) ?_
        show own_S p e below T49 m 194 #[own_lv x, .second, iv g, iv gg, iv fl, rv a2, iv ls, iv lf, iv got, iv en, .unset] [(.int (1 : Int32))] _
        refine XS.goto X49.here hx rfl (pc0 := 194) (pc' := 198) rfl (hb hby at_194) (by decide) (by decide) ?_
        show own_S p e below T49 m 198 #[own_lv x, .second, iv g, iv gg, iv fl, rv a2, iv ls, iv lf, iv got, iv en, .unset] [(.int (1 : Int32))] _
        rw [show exp = (1 : Int32) from by rw [hexp, if_pos hc53, if_pos hc54]] at kt
        exact kt
      · refine XS.icmpYes X49.here hx rfl (pc0 := 190) (pc' := 197) rfl (hb hby at_190) rfl (feq hc54).2 (by decide) (by decide) ?_
        show own_S p e below T49 m 197 #[own_lv x, .second, iv g, iv gg, iv fl, rv a2, iv ls, iv lf, iv got, iv en, .unset] [] _
        refine XS.iconst X49.here hx rfl (hb hby at_197) ?_
        show own_S p e below T49 m 198 #[own_lv x, .second, iv g, iv gg, iv fl, rv a2, iv ls, iv lf, iv got, iv en, .unset] [(.int (0 : Int32))] _
        rw [show exp = (0 : Int32) from by rw [hexp, if_pos hc53, if_neg hc54]] at kt
        exact kt
    · refine XS.ifYes X49.here hx rfl (pc0 := 183) (pc' := 197) rfl (hb hby at_183) rfl ((if0 _ _).trans (flt hc53).2.2.2) (by decide) (by decide) ?_
      show own_S p e below T49 m 197 #[own_lv x, .second, iv g, iv gg, iv fl, rv a2, iv ls, iv lf, iv got, iv en, .unset] [] _
      refine XS.iconst X49.here hx rfl (hb hby at_197) ?_
      show own_S p e below T49 m 198 #[own_lv x, .second, iv g, iv gg, iv fl, rv a2, iv ls, iv lf, iv got, iv en, .unset] [(.int (0 : Int32))] _
      rw [show exp = (0 : Int32) from by rw [hexp, if_neg hc53]] at kt
      exact kt
  refine own_st sg55 ?_
  obtain ⟨r, hr⟩ : ∃ z : Int32, z = (if got = exp then (1 : Int32) else (0 : Int32)) := ⟨_, rfl⟩
  have sg57 : own_V p e below T49 (mkF m 212 #[own_lv x, .second, iv g, iv gg, iv fl, rv a2, iv ls, iv lf, iv got, iv en, iv exp] [(.int r)]) (mkF m 198 #[own_lv x, .second, iv g, iv gg, iv fl, rv a2, iv ls, iv lf, iv got, iv en, .unset] [(.int exp)]) := by
    intro t kt
    refine XS.istore X49.here hx rfl (hb hby at_198) rfl (l' := #[own_lv x, .second, iv g, iv gg, iv fl, rv a2, iv ls, iv lf, iv got, iv en, iv exp]) rfl ?_
    show own_S p e below T49 m 200 #[own_lv x, .second, iv g, iv gg, iv fl, rv a2, iv ls, iv lf, iv got, iv en, iv exp] [] _
    refine XS.iload X49.here hx rfl (hb hby at_200) rfl ?_
    show own_S p e below T49 m 202 #[own_lv x, .second, iv g, iv gg, iv fl, rv a2, iv ls, iv lf, iv got, iv en, iv exp] [(.int got)] _
    refine XS.iload X49.here hx rfl (hb hby at_202) rfl ?_
    show own_S p e below T49 m 204 #[own_lv x, .second, iv g, iv gg, iv fl, rv a2, iv ls, iv lf, iv got, iv en, iv exp] [(.int exp), (.int got)] _
    by_cases hc56 : got = exp
    · refine XS.icmpNo X49.here hx rfl (hb hby at_204) rfl (teq hc56).2 ?_
      show own_S p e below T49 m 207 #[own_lv x, .second, iv g, iv gg, iv fl, rv a2, iv ls, iv lf, iv got, iv en, iv exp] [] _
      refine XS.iconst X49.here hx rfl (hb hby at_207) ?_
      show own_S p e below T49 m 208 #[own_lv x, .second, iv g, iv gg, iv fl, rv a2, iv ls, iv lf, iv got, iv en, iv exp] [(.int (1 : Int32))] _
      refine XS.goto X49.here hx rfl (pc0 := 208) (pc' := 212) rfl (hb hby at_208) (by decide) (by decide) ?_
      show own_S p e below T49 m 212 #[own_lv x, .second, iv g, iv gg, iv fl, rv a2, iv ls, iv lf, iv got, iv en, iv exp] [(.int (1 : Int32))] _
      rw [show r = (1 : Int32) from by rw [hr, if_pos hc56]] at kt
      exact kt
    · refine XS.icmpYes X49.here hx rfl (pc0 := 204) (pc' := 211) rfl (hb hby at_204) rfl (feq hc56).2 (by decide) (by decide) ?_
      show own_S p e below T49 m 211 #[own_lv x, .second, iv g, iv gg, iv fl, rv a2, iv ls, iv lf, iv got, iv en, iv exp] [] _
      refine XS.iconst X49.here hx rfl (hb hby at_211) ?_
      show own_S p e below T49 m 212 #[own_lv x, .second, iv g, iv gg, iv fl, rv a2, iv ls, iv lf, iv got, iv en, iv exp] [(.int (0 : Int32))] _
      rw [show r = (0 : Int32) from by rw [hr, if_neg hc56]] at kt
      exact kt
  refine own_st sg57 ?_
  have hone : r = 1 := own_plain ls lf ff kl kf got en exp r q1 q2 q3 q4 q5 hgot hen hexp hr
  subst hone
  exact own_retZ X49 hx Bd.notSynchronized Bd.returns (hb hby at_212) (by decide) (by decide) (by decide) e49 ⟨rfl, N49⟩
set_option maxRecDepth 65536 in
set_option maxHeartbeats 40000000 in
theorem comes_1 {Post : Tables → Env → Array Value → State → Outcome → State → Prop} (hpost : ∀ tb e args s v u, (limb_1_1.after args s (.returned v) u = true ∧ limb_1_2.after args s (.returned v) u = true ∧ True) → FrameEnd s (.returned v) u (Jvm.fieldLocs frame_1_writes args s ++ Jvm.arrayLocs frame_1_arrays args s ++ Jvm.staticLocs frame_1_statics s) 16 128 → Post tb e args s (.returned v) u) :
    ArmFor flags0 classFile x code maxLocals ret World_1 tables_1 room_1 Calls_1 rest_1 Pre_1 Post := by
  intro l hfl _ _ p e ha hc hk s m args below hf hA hF happ hP
  obtain ⟨hcalls, hrest, hpre⟩ := hP
  obtain ⟨-, -, -, hnamed, -, -, -, hat⟩ := (Spec.applies_iff hf).mp happ
  obtain ⟨hg, hn⟩ := and_e (Cond.before_iff.mp (show (Jvm.Cond.and given_1 narrow_1).before args s = true from hpre))
  obtain ⟨g1, g2⟩ := and_e hg
  obtain ⟨g3, g4⟩ := and_e g2
  obtain ⟨g5, g6⟩ := and_e g4
  obtain ⟨g7, g8⟩ := and_e g6
  obtain ⟨w0, w1, w2, w3, rfl⟩ : ∃ w0 w1 w2 w3 : Value, args = #[w0, w1, w2, w3] := by
    have hs : args.size = 4 := by simpa [Cond.value, given_1] using g1
    obtain ⟨L⟩ := args
    match L, hs with
    | [w0, w1, w2, w3], _ => exact ⟨w0, w1, w2, w3, rfl⟩
  have hw := fun d (hd : d ∈ tables_1) => atoms_spec (ws := Jvm.Cond.code x code maxLocals ret :: tables_1) hat d (List.mem_cons_of_mem _ hd)
  have hfit : Fit s := fun {y c} hc i hi => by
    obtain ⟨ha, rfl⟩ := Array.getElem?_eq_some_iff.mp hc
    have q := List.all_eq_true.mp ((Array.all_eq_true_iff_forall_mem.mp hF) _ (Array.getElem_mem ha)) i (List.mem_range.mpr hi)
    simpa [Array.getElem?_eq_getElem hi] using q
  obtain ⟨i0, ei0⟩ := isL_v g3
  obtain rfl : w0 = (.long i0) := Option.some.inj ei0
  obtain ⟨i1, ei1⟩ := is_v g5
  obtain rfl : w1 = (.int i1) := Option.some.inj ei1
  obtain ⟨i2, ei2⟩ := is_v g7
  obtain rfl : w2 = (.int i2) := Option.some.inj ei2
  obtain ⟨i3, ei3⟩ := is_v g8
  obtain rfl : w3 = (.int i3) := Option.some.inj ei3
  obtain ⟨n, o, h1, h2, h3, _, L, rfl, ⟨rfl, N⟩, hq⟩ := own_rmlaw l s _ hw i0 i1 i2 i3 s.heap s.heap.size (Nat.le_refl _) p e ha hc hk s m _ below hf ((Spec.applies_iff_loose hf).mp happ).1 ⟨rfl, State.Warmed39.refl s, rfl⟩ trivial
  refine ⟨n, _, h1, h2, h3, hpost _ _ _ _ _ _ ⟨Cond.after_iff.mpr rfl, Cond.after_iff.mpr (eq_i res_at (Term.int_eval (1)) rfl), trivial⟩ ⟨hq.1, hq.2.1, (hq.2.2.sift fun y hy => Or.inr (N y hy)).mono (by decide) (by decide)⟩⟩
theorem main_1_1 : Claimed_1_1 := comes_1 fun _ _ _ _ _ _ h hF => ⟨h.1, hF⟩
theorem main_1_2 : Claimed_1_2 := comes_1 fun _ _ _ _ _ _ h hF => ⟨h.2.1, hF⟩
end Jvm.Pilot.@@N@@
namespace Jvm.Pilot.@@N@@
open Jvm Jvm.ClassFile Sem Op Lib Jvm.Free Jvm.Stand Jvm.Pilot.@@N@@.Jvm.D
/-! MADE BY PROGRAM (witnessworld.py) out of the Statement's table words and the real class files: 10 classes; the members and pool entries that the words name. The judged class is class 1, her method 1. -/
namespace start1
open Jvm.ClassFile
def u (s : String) : CpInfo := .utf8 (stringToUtf16 s)
/-- a pool by its gaps: so many unusable entries, then the entry; so many at the end -/
def gap : Nat → List CpInfo → List CpInfo
  | 0, r => r
  | n + 1, r => .unusable :: gap n r
def poolList (es : List (Nat × CpInfo)) (last : Nat) : List CpInfo := es.foldr (fun e r => gap e.1 (e.2 :: r)) (gap last [])
def pool (es : List (Nat × CpInfo)) (last : Nat) : Array CpInfo := ⟨poolList es last⟩
def fileOf (pool : Array CpInfo) (this : Nat) (attrs : Array Attribute := #[]) (ms : Array MethodInfo := #[]) (fl : Nat := 33) (sup : Nat := 0) (ifs : Array Nat := #[]) (fds : Array FieldInfo := #[]) : ClassFile where
  minorVersion := 0
  majorVersion := 65
  constantPool := pool
  accessFlags := fl
  thisClass := this
  superClass := sup
  interfaces := ifs
  fields := fds
  methods := ms
  attributes := attrs
def plain (name : String) (sup : Option ClassId) : Class where
  name := name
  kind := .ordinary
  loader := none
  accessFlags := 33
  super := sup
  interfaces := #[]
  cf := none
  fields := #[]
  methods := #[]
  instanceTypes := #[]
  staticTypes := #[]
  resolved := #[]
  callSites := []
  init := .initialized
  statics := none
  mirror := none

def pool0 : Array CpInfo := pool [(5, u "<init>"), (0, u "()V"), (1, .class_ 10), (1, u "java/lang/Object")] 113

def k0m0 : Method := { name := "<init>", desc := "()V", sig := { parameters := [], returnType := none }, accessFlags := 1, code := none }
/-- java/lang/Object -/
def k0 : Class := { plain "java/lang/Object" none with
  accessFlags := 33
  interfaces := #[]
  cf := some (fileOf pool0 8 #[] #[{ accessFlags := 1, nameIndex := 5, descriptorIndex := 6, attributes := #[] }] 33 0 #[] #[])
  fields := #[]
  methods := #[k0m0]
  instanceTypes := #[]
  staticTypes := #[]
  resolved := Array.replicate 124 none
  statics := none }

def pool1 : Array CpInfo := pool [(2, .class_ 4), (1, u "java/lang/Object"), (0, u "<init>"), (0, u "()V"), (0, .integer 2147483647), (0, .methodref 9 10), (0, .class_ 11), (0, .nameAndType 12 13), (0, u "dev/countersign/cli/MessageHead"), (0, u "endsHead"), (0, u "([BII)Z"), (0, .class_ 15), (0, u "dev/countersign/cli/MessageHeadEndsHeadPinLaw"), (2, u "law"), (0, u "(JIII)Z")] 5

def k1m0 : Method := { name := "<init>", desc := "()V", sig := { parameters := [], returnType := none }, accessFlags := 1, code := none }
def k1c1 : Code := { maxStack := 5, maxLocals := 11, code := code, exceptionTable := #[], attributes := #[] }
def k1m1 : Method := { name := "law", desc := "(JIII)Z", sig := { parameters := [.long, .int, .int, .int], returnType := some .boolean }, accessFlags := 9, code := some k1c1 }
/-- dev/countersign/cli/MessageHeadEndsHeadPinLaw -/
def k1 : Class := { plain "dev/countersign/cli/MessageHeadEndsHeadPinLaw" (some 0) with
  accessFlags := 49
  interfaces := #[]
  cf := some (fileOf pool1 14 #[] #[{ accessFlags := 1, nameIndex := 5, descriptorIndex := 6, attributes := #[] }, { accessFlags := 9, nameIndex := 18, descriptorIndex := 19, attributes := #[] }] 49 2 #[] #[])
  fields := #[]
  methods := #[k1m0, k1m1]
  instanceTypes := #[]
  staticTypes := #[]
  resolved := Array.replicate 25 none
  statics := none }

def pool2 : Array CpInfo := pool [(2, .class_ 4), (1, u "java/lang/Object"), (0, u "<init>"), (0, u "()V"), (0, .class_ 8), (0, u "java/lang/Record")] 13

def k2m0 : Method := { name := "<init>", desc := "()V", sig := { parameters := [], returnType := none }, accessFlags := 4, code := none }
/-- java/lang/Record -/
def k2 : Class := { plain "java/lang/Record" (some 0) with
  accessFlags := 1057
  interfaces := #[]
  cf := some (fileOf pool2 7 #[] #[{ accessFlags := 4, nameIndex := 5, descriptorIndex := 6, attributes := #[] }] 1057 2 #[] #[])
  fields := #[]
  methods := #[k2m0]
  instanceTypes := #[]
  staticTypes := #[]
  resolved := Array.replicate 22 none
  statics := none }

def pool3 : Array CpInfo := pool [(2, .class_ 4), (1, u "java/lang/Record"), (9, .class_ 16), (1, u "dev/countersign/cli/MessageHead"), (0, u "method"), (0, u "Ljava/lang/String;"), (2, u "target"), (2, u "headers"), (0, u "Ljava/util/List;"), (2, u "lineEnding"), (143, u "VERSION"), (5, u "endsHead"), (0, u "([BII)Z")] 42

def k3c0 : Code := { maxStack := 3, maxLocals := 3, code := prog_10_method_2_code, exceptionTable := #[], attributes := #[] }
def k3m0 : Method := { name := "endsHead", desc := "([BII)Z", sig := { parameters := [(.array .byte), .int, .int], returnType := some .boolean }, accessFlags := 8, code := some k3c0 }
/-- dev/countersign/cli/MessageHead -/
def k3 : Class := { plain "dev/countersign/cli/MessageHead" (some 2) with
  accessFlags := 48
  interfaces := #[]
  cf := some (fileOf pool3 14 #[] #[{ accessFlags := 8, nameIndex := 178, descriptorIndex := 179, attributes := #[] }] 48 2 #[] #[{ accessFlags := 18, nameIndex := 17, descriptorIndex := 18, attributes := #[] }, { accessFlags := 18, nameIndex := 21, descriptorIndex := 18, attributes := #[] }, { accessFlags := 18, nameIndex := 24, descriptorIndex := 25, attributes := #[] }, { accessFlags := 18, nameIndex := 28, descriptorIndex := 18, attributes := #[] }, { accessFlags := 26, nameIndex := 172, descriptorIndex := 18, attributes := #[] }])
  fields := #[{ name := "method", type := (.object "java/lang/String"), accessFlags := 18, slot := 0, constantValue := 0 }, { name := "target", type := (.object "java/lang/String"), accessFlags := 18, slot := 1, constantValue := 0 }, { name := "headers", type := (.object "java/util/List"), accessFlags := 18, slot := 2, constantValue := 0 }, { name := "lineEnding", type := (.object "java/lang/String"), accessFlags := 18, slot := 3, constantValue := 0 }, { name := "VERSION", type := (.object "java/lang/String"), accessFlags := 26, slot := 0, constantValue := 0 }]
  methods := #[k3m0]
  instanceTypes := #[(.object "java/lang/String"), (.object "java/lang/String"), (.object "java/util/List"), (.object "java/lang/String")]
  staticTypes := #[(.object "java/lang/String")]
  resolved := Array.replicate 222 none
  statics := none }

def pool4 : Array CpInfo := pool [(1, u "java/lang/Cloneable"), (0, .class_ 1), (0, u "java/lang/Object"), (0, .class_ 3)] 3

/-- java/lang/Cloneable -/
def k4 : Class := { plain "java/lang/Cloneable" (some 0) with
  accessFlags := 1537
  interfaces := #[]
  cf := some (fileOf pool4 2 #[] #[] 1537 4 #[] #[])
  fields := #[]
  methods := #[]
  instanceTypes := #[]
  staticTypes := #[]
  resolved := Array.replicate 8 none
  statics := none }

def pool5 : Array CpInfo := pool [(1, u "java/io/Serializable"), (0, .class_ 1), (0, u "java/lang/Object"), (0, .class_ 3)] 3

/-- java/io/Serializable -/
def k5 : Class := { plain "java/io/Serializable" (some 0) with
  accessFlags := 1537
  interfaces := #[]
  cf := some (fileOf pool5 2 #[] #[] 1537 4 #[] #[])
  fields := #[]
  methods := #[]
  instanceTypes := #[]
  staticTypes := #[]
  resolved := Array.replicate 8 none
  statics := none }

/-- the primitive byte -/
def k6 : Class := { plain "byte" none with kind := .primitive 'B', accessFlags := 0x411 }
/-- [B -/
def k7 : Class := { plain "[B" (some 0) with kind := .array 6 .byte, interfaces := #[4, 5], accessFlags := 1041 }

/-- the primitive int -/
def k8 : Class := { plain "int" none with kind := .primitive 'I', accessFlags := 0x411 }
/-- [I -/
def k9 : Class := { plain "[I" (some 0) with kind := .array 8 .int, interfaces := #[4, 5], accessFlags := 1041 }

def heap : Heap := #[]
def classes : Array Class := #[k0, k1, k2, k3, k4, k5, k6, k7, k8, k9]
def interned : List (Array UInt16 × Addr) := []
def slotsUsed : Nat := 0
def theMethod : MethodId := ⟨1, 1⟩
def args0 : Array Value := #[.long 5, .int 1, .int 1, .int 1]
def aboutOver (below : List Frame) : State where
  vm := { classes := classes, interned := interned.toArray }
  heap := heap
  slotsUsed := slotsUsed
  threads := #[{ frames := .invoking theMethod args0 :: below }]
def below0 : List Frame := [.native { method := ⟨0, 0⟩, args := #[] }]
def about1 : State := aboutOver below0
def p0 : Program := .bare "" "" ""
def e0 : Env := launch0.env 0 0 0
theorem w_frames : about1.frames = Frame.invoking theMethod args0 :: below0 := rfl
set_option maxRecDepth 65536 in
theorem w_args : argsFit about1.vm theMethod args0 = true := by decide +kernel
set_option maxRecDepth 65536 in
theorem w_heap : heapFits about1 = true := by decide +kernel
set_option maxRecDepth 65536 in
theorem w_runnable : about1.curStatus? = some .runnable := by decide +kernel
set_option maxRecDepth 65536 in
theorem w_alone : about1.alone = true := by decide +kernel
set_option maxRecDepth 65536 in
theorem w_named : about1.methodNamed? x = some theMethod := by decide +kernel
set_option maxRecDepth 65536 in
theorem w_hears : about1.hears theMethod below0 = true := by decide +kernel
set_option maxRecDepth 65536 in
theorem w_ripe : about1.ripe theMethod args0 below0 = true := by decide +kernel
theorem w_running : about1.status = .running := rfl
set_option maxRecDepth 65536 in
theorem w_room : about1.hasRoom e0.platform room_1 = true :=
  launch0.hasRoom_least _ room_1 (by decide +kernel) (by decide +kernel) (by decide +kernel) (by decide +kernel) (by decide +kernel) (by decide +kernel)
theorem allAtoms_all (ts : List Jvm.Cond) (a : Array Jvm.Value) (st : Jvm.State) : (allAtoms ts).before a st = ts.all (fun c => c.before a st) := by
  induction ts with
  | nil => rfl
  | cons c t ih =>
    show (Jvm.Cond.and c (allAtoms t)).before a st = _
    rw [Jvm.Cond.before_and, ih, List.all_cons]
def words1 : List Jvm.Cond := Jvm.Cond.code x code maxLocals ret :: tables_1
/-- a 'code' word, met by the world's own term for the bytes: nothing is compared byte by byte -/
theorem code_word {y : MethodName} {bytes : ByteArray} {mx : Nat} {rt : Option FieldType} {a : Array Value} {s : State} {m : MethodId} {meth : Method} {c : Code} (h1 : s.methodNamed? y = some m) (h2 : s.vm.method? m = some meth) (h3 : meth.code = some c) (h4 : c.code = bytes)
    (h5 : (c.maxLocals == mx && c.exceptionTable.isEmpty && decide (c.maxStack ≤ mostOperands) && decide (meth.sig.returnType = rt) && !meth.locks && decide (parseMethodDescriptor y.desc = some meth.sig)) = true) : (Jvm.Cond.code y bytes mx rt).before a s = true := by
  simp only [Bool.and_eq_true, beq_iff_eq, Bool.not_eq_true', decide_eq_true_eq] at h5
  obtain ⟨⟨⟨⟨⟨g1, g2⟩, g3⟩, g4⟩, g5⟩, g6⟩ := h5
  simp [Cond.before, Cond.holds, Cond.value, h1, h2, h3, h4, g1, g2, g3, g4, g5, g6]
def isCode : Jvm.Cond → Bool
  | .code _ _ _ _ => true
  | _ => false
theorem all_split {L : List Jvm.Cond} {P : Jvm.Cond → Bool} (h1 : L.all (fun c => isCode c || P c) = true) (h2 : ∀ c ∈ L.filter isCode, P c = true) : L.all P = true := by
  refine List.all_eq_true.mpr fun c hc => ?_
  have h := List.all_eq_true.mp h1 c hc
  rcases Bool.eq_false_or_eq_true (isCode c) with hi | hi
  · exact h2 c (List.mem_filter.mpr ⟨hc, hi⟩)
  · simpa [hi] using h
set_option maxRecDepth 65536 in
theorem w_c0 : (Jvm.Cond.code x code maxLocals ret).before args0 about1 = true := code_word (m := ⟨1, 1⟩) (meth := k1m1) (c := k1c1) (by decide +kernel) rfl rfl rfl (by decide +kernel)
set_option maxRecDepth 65536 in
theorem w_c1 : (Jvm.Cond.code ({ cls := "dev/countersign/cli/MessageHead", name := "endsHead", desc := "([BII)Z" } : Jvm.MethodName) prog_10_method_2_code (3 : Nat) (Option.some Jvm.ClassFile.FieldType.boolean)).before args0 about1 = true := code_word (m := ⟨3, 0⟩) (meth := k3m0) (c := k3c0) (by decide +kernel) rfl rfl rfl (by decide +kernel)
def codes1 : List Jvm.Cond := [Jvm.Cond.code x code maxLocals ret, Jvm.Cond.code ({ cls := "dev/countersign/cli/MessageHead", name := "endsHead", desc := "([BII)Z" } : Jvm.MethodName) prog_10_method_2_code (3 : Nat) (Option.some Jvm.ClassFile.FieldType.boolean)]
set_option maxRecDepth 65536 in
theorem codes_eq : words1.filter isCode = codes1 := rfl
theorem w_codes : ∀ c ∈ words1.filter isCode, c.before args0 about1 = true := by
  rw [codes_eq]
  intro c hc
  simp only [codes1, List.mem_cons, List.not_mem_nil, or_false] at hc
  rcases hc with rfl | rfl
  · exact w_c0
  · exact w_c1
set_option maxRecDepth 65536 in
theorem w_t1 : words1.all (fun c => isCode c || c.before args0 about1) = true := by decide +kernel
theorem w_tables : (allAtoms (Jvm.Cond.code x code maxLocals ret :: tables_1)).before args0 about1 = true := by
  rw [allAtoms_all]
  show words1.all (fun c => c.before args0 about1) = true
  refine all_split ?_ w_codes
  rw [w_t1]
set_option maxRecDepth 65536 in
theorem w_case : (Jvm.Cond.and given_1 narrow_1).before args0 about1 = true := by decide +kernel
theorem w_applies : (headSpec (Jvm.Cond.code x code maxLocals ret :: tables_1) room_1).applies x e0.platform about1 = true :=
  (Spec.applies_iff w_frames).mpr ⟨w_running, w_runnable, w_alone, w_named, w_hears, w_ripe, w_room, w_tables⟩
theorem atStart : AtStart classFile x code maxLocals ret World_1 tables_1 room_1 Calls_1 rest_1 Pre_1 launch0 p0 e0 about1 theMethod args0 below0 :=
  ⟨lists_1, trivial, launch0.admits_env _ _ _, launch0.least_env, fairChoices_fair.cas, fairChoices_fair.clock, w_frames, w_args, w_heap, w_applies, trivial, trivial, w_case⟩
end start1
theorem witness_1 : WitnessClaimed_1 := ⟨start1.p0, start1.e0, start1.about1, start1.theMethod, start1.args0, start1.below0, start1.atStart⟩
end Jvm.Pilot.@@N@@
