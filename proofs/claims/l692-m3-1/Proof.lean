import JvmDerived
import JvmDerived.Pilot.@@N@@Statement
import JvmDerived.Pilot.@@N@@Code
set_option linter.unusedVariables false
set_option linter.unusedSimpArgs false
namespace Jvm.RoadKit
open Sem ClassFile Op Lib Jvm.Stand Jvm.Free Jvm.LawKit
section Own
variable {p : Program} {l : Launch} {e : Env} {R : Room} {s : State} {m : MethodId} {args : Array Value} {below : List Frame} {meth : Method} {c : Code} {T T' : State} {locs : List Loc} {cells slots : Nat} {Z : State} {a0 : Array Value} {h h' : Heap}
abbrev own_lv (x : Int64) : Slot := .val (.long x)
abbrev own_S (p : Program) (e : Env) (below : List Frame) (T : State) (m : MethodId) (pc : Nat) (L : Array Slot) (S : List Value) (t : State) : Prop := Steps p.tables e below (T.setTop (mkF m pc L S)) t
/-- in one state, from the second frame to the first -/
abbrev own_V (p : Program) (e : Env) (below : List Frame) (T : State) (f' f : JFrame) : Prop := ∀ t, Steps p.tables e below (T.setTop f') t → Steps p.tables e below (T.setTop f) t
/-- from this frame on the run comes to an end that G says -/
def own_Go (p : Program) (e : Env) (below : List Frame) (G : State → Outcome → Prop) (T : State) (f : JFrame) : Prop :=
  ∃ t o, Steps p.tables e below (T.setTop f) t ∧ G t o
theorem own_st {G : State → Outcome → Prop} {f f' : JFrame} (st : ∀ t, Steps p.tables e below (T'.setTop f') t → Steps p.tables e below (T.setTop f) t) (k : own_Go p e below G T' f') : own_Go p e below G T f := by
  obtain ⟨t, o, h1, h2⟩ := k
  exact ⟨t, o, st t h1, h2⟩
/-- from this frame on the run comes to a state and a frame that P says -/
def own_Pk (p : Program) (e : Env) (below : List Frame) (P : State → JFrame → Prop) (T : State) (f : JFrame) : Prop :=
  ∃ T' f', P T' f' ∧ ∀ t, Steps p.tables e below (T'.setTop f') t → Steps p.tables e below (T.setTop f) t
theorem own_sp {P : State → JFrame → Prop} {f f' : JFrame} (st : ∀ t, Steps p.tables e below (T'.setTop f') t → Steps p.tables e below (T.setTop f) t) (k : own_Pk p e below P T' f') : own_Pk p e below P T f := by
  obtain ⟨T2, f2, h1, h2⟩ := k
  exact ⟨T2, f2, h1, fun t q => st t (h2 t q)⟩
theorem own_pm {P P' : State → JFrame → Prop} {f : JFrame} (k : own_Pk p e below P T f) (q : ∀ T' f', P T' f' → P' T' f') : own_Pk p e below P' T f := by
  obtain ⟨T2, f2, h1, h2⟩ := k
  exact ⟨T2, f2, q _ _ h1, h2⟩
/-- it returned, Q says what, and the frame is kept -/
def own_End (s : State) (below : List Frame) (Q : Option Value → Heap → List Loc → Prop) (C S : Nat) : State → Outcome → Prop := fun t o =>
  t.status = .running ∧ Ended t below o ∧ ∃ v L, o = .returned v ∧ Q v t.heap L ∧ FrameEnd s o t L C S
theorem own_body {y : MethodName} {bytes : ByteArray} {ml : Nat} {rt : Option FieldType} {rm : Room} {as' : Array Value} {h0 : Heap} {Q : Option Value → Heap → List Loc → Prop} {C S : Nat} {ws : List Jvm.Cond} (hp : plainFor y = true)
    (H : ∀ p e s m below meth c s₁, BodyLoose p l y (head1 (Jvm.Cond.code y bytes ml rt :: ws) rm) bytes ml rt e s m as' below meth c s₁ → c.maxLocals = ml → Z.Warmed39 s.vm → s₁.heap = h0 → own_Go p e below (own_End s below Q C S) s₁ (entryFrame m as' ml)) :
    MetFree l y (head1 (Jvm.Cond.code y bytes ml rt :: ws) rm) (fun a U => a = as' ∧ Z.Warmed39 U.vm ∧ U.heap = h0) (fun _ _ _ _ _ => True) (fun _ U o U' => ∃ v L, o = .returned v ∧ Q v U'.heap L ∧ FrameEnd U o U' L C S) := by
  refine MetFree.of_bodySF hp hisR ?_
  intro p e s m args below meth c s₁ Bd hml hP hK
  obtain ⟨rfl, hZ, hh⟩ := hP
  have e0 : s₁.heap = h0 := by rw [← hh, Bd.state]; rfl
  obtain ⟨t, o, h1, h2, h3, h4⟩ := H p e s m below meth c s₁ Bd hml hZ e0
  exact ⟨t, o, h1, h2, h3, h4⟩
/-- a callee's contract -/
abbrev own_Ct (l : Launch) (Z : State) (y : MethodName) (bytes : ByteArray) (ml : Nat) (rt : Option FieldType) (rm : Room) (as' : Array Value) (h0 : Heap) (Q : Option Value → Heap → List Loc → Prop) : Prop :=
  MetFree l y (head1 [Jvm.Cond.code y bytes ml rt] rm) (fun a U => a = as' ∧ Z.Warmed39 U.vm ∧ U.heap = h0) (fun _ _ _ _ _ => True) (fun _ U o U' => ∃ v L, o = .returned v ∧ Q v U'.heap L ∧ FrameEnd U o U' L rm.cells rm.slots)
section Ret
variable {Q : Option Value → Heap → List Loc → Prop} {C S : Nat}
theorem own_out {v : Option Value} {f : JFrame} (X : Stand p l e R s m args below meth c T locs cells slots) (hv : meth.sig.returnType = none → v = none) (hlocks : meth.locks = false) (hC : cells ≤ C) (hS : slots ≤ S) (eT : T.heap = h) (hq : Q v h locs)
    (go : ∀ fs, (∀ (f : JFrame) (acts : List Action), f.method = m → f.locked = none → f.entered = [] → (doReturn e (T.setTop f) acts v).1 = T.setFrames fs) → Steps p.tables e below (T.setTop f) (T.setFrames fs)) :
    own_Go p e below (own_End s below Q C S) T f := by
  obtain ⟨fs, hr, hrun, hended, hW, hsame⟩ := X.leave (v := v) hv hlocks
  refine ⟨_, _, go fs hr, hrun, hended, _, _, rfl, ?_, ⟨_, rfl⟩, hW, hsame.mono hC hS⟩
  show Q v T.heap locs
  rw [eT]; exact hq
theorem own_retI (X : Stand p l e R s m args below meth c T locs cells slots) (hx : p.tables.exec = Jvm.exec) (hlocks : meth.locks = false) (hret : meth.sig.returnType = some .int) {pc : Nat} {Ls : Array Slot} {z : Int32} {rest : List Value} (hd : decode c.code pc = .ok (.ireturn, 1)) (hC : cells ≤ C) (hS : slots ≤ S) (eT : T.heap = h) (hq : Q (some (.int z)) h locs) :
    own_Go p e below (own_End s below Q C S) T (mkF m pc Ls (.int z :: rest)) :=
  own_out X (fun q => by rw [hret] at q; cases q) hlocks hC hS eT hq fun fs hr => retOut X hx hret rfl (Or.inl ⟨rfl, Or.inl rfl, z, rfl⟩) hd hr
theorem own_retZ (X : Stand p l e R s m args below meth c T locs cells slots) (hx : p.tables.exec = Jvm.exec) (hlocks : meth.locks = false) (hret : meth.sig.returnType = some .boolean) {pc : Nat} {Ls : Array Slot} {z : Int32} {rest : List Value} (hd : decode c.code pc = .ok (.ireturn, 1)) (hz : z = 0 ∨ z = 1) (hC : cells ≤ C) (hS : slots ≤ S) (eT : T.heap = h) (hq : Q (some (.int z)) h locs) :
    own_Go p e below (own_End s below Q C S) T (mkF m pc Ls (.int z :: rest)) :=
  own_out X (fun q => by rw [hret] at q; cases q) hlocks hC hS eT hq fun fs hr => retN X hx hret (Or.inl rfl) hd (by
    have : nar .boolean z = z := by rcases hz with rfl | rfl <;> decide
    rw [this]; exact hr)
theorem own_retB (X : Stand p l e R s m args below meth c T locs cells slots) (hx : p.tables.exec = Jvm.exec) (hlocks : meth.locks = false) (hret : meth.sig.returnType = some .byte) {pc : Nat} {Ls : Array Slot} {z : Int32} {rest : List Value} (hd : decode c.code pc = .ok (.ireturn, 1)) (hz : nar .byte z = z) (hC : cells ≤ C) (hS : slots ≤ S) (eT : T.heap = h) (hq : Q (some (.int z)) h locs) :
    own_Go p e below (own_End s below Q C S) T (mkF m pc Ls (.int z :: rest)) :=
  own_out X (fun q => by rw [hret] at q; cases q) hlocks hC hS eT hq fun fs hr => retN X hx hret (Or.inr (Or.inl rfl)) hd (by rw [hz]; exact hr)
theorem own_retJ (X : Stand p l e R s m args below meth c T locs cells slots) (hx : p.tables.exec = Jvm.exec) (hlocks : meth.locks = false) (hret : meth.sig.returnType = some .long) {pc : Nat} {Ls : Array Slot} {z : Int64} {rest : List Value} (hd : decode c.code pc = .ok (.lreturn, 1)) (hC : cells ≤ C) (hS : slots ≤ S) (eT : T.heap = h) (hq : Q (some (.long z)) h locs) :
    own_Go p e below (own_End s below Q C S) T (mkF m pc Ls (.long z :: rest)) :=
  own_out X (fun q => by rw [hret] at q; cases q) hlocks hC hS eT hq fun fs hr => retOut X hx hret rfl (Or.inr (Or.inl ⟨rfl, rfl, z, rfl⟩)) hd hr
theorem own_retR {t : FieldType} {w : Value} (X : Stand p l e R s m args below meth c T locs cells slots) (hx : p.tables.exec = Jvm.exec) (hlocks : meth.locks = false) (hret : meth.sig.returnType = some t) (ht : t.isReference = true) (hw : w.isRef = true) {pc : Nat} {Ls : Array Slot} {rest : List Value} (hd : decode c.code pc = .ok (.areturn, 1)) (hC : cells ≤ C) (hS : slots ≤ S) (eT : T.heap = h) (hq : Q (some w) h locs) :
    own_Go p e below (own_End s below Q C S) T (mkF m pc Ls (w :: rest)) :=
  own_out X (fun q => by rw [hret] at q; cases q) hlocks hC hS eT hq fun fs hr => retOut X hx hret (by cases t <;> cases w <;> first | rfl | (cases ht; done) | (cases hw; done)) (Or.inr (Or.inr (Or.inr (Or.inr ⟨rfl, ht, hw⟩)))) hd hr
theorem own_retV (X : Stand p l e R s m args below meth c T locs cells slots) (hx : p.tables.exec = Jvm.exec) (hlocks : meth.locks = false) (hret : meth.sig.returnType = none) {pc : Nat} {Ls : Array Slot} (hd : decode c.code pc = .ok (.return_, 1)) (hC : cells ≤ C) (hS : slots ≤ S) (eT : T.heap = h) (hq : Q none h locs) :
    own_Go p e below (own_End s below Q C S) T (mkF m pc Ls []) :=
  own_out X (fun _ => rfl) hlocks hC hS eT hq fun fs hr => X.returnOut hx hret hd hr
end Ret
section Call
variable {own : String} {index : Nat} {y : MethodName} {bytes : ByteArray} {ml : Nat} {rt : Option FieldType} {rm : Room} {Q : Option Value → Heap → List Loc → Prop} {g : JFrame} {argsL rest : List Value} {W : Nat}
theorem own_callS (X : Stand p l e R s m args below meth c T locs cells slots) (hx : p.tables.exec = Jvm.exec) (hZ : Z.Warmed39 s.vm) (hown : s.vm.findClass own = some m.cls)
    (w1 : (Jvm.Cond.methodLink own index y).before a0 Z = true) (w2 : (Jvm.Cond.static y).before a0 Z = true) (w3 : (Jvm.Cond.initialized y.cls).before a0 Z = true) (w4 : (Jvm.Cond.code y bytes ml rt).before a0 Z = true)
    (hy : y.cls ≠ "java/lang/invoke/MethodHandle" ∧ y.cls ≠ "java/lang/invoke/VarHandle") (ct : own_Ct l Z y bytes ml rt rm argsL.toArray h Q) (eT : T.heap = h) (hg : g.method = m) (hsize : g.locals.size = c.maxLocals)
    (hlen : ∀ sig, parseMethodDescriptor y.desc = some sig → argsL.length = sig.parameters.length) (hstack : g.stack = argsL.reverse ++ rest) (hW : 2 * g.monitorRoom + (rest.map fun v => v.category).sum ≤ W) (hdg : decode c.code g.pc = .ok (.invokestatic index, 3))
    (hf : rm.frames + 1 ≤ R.frames) (hl : W + (ml + 11) + rm.locals ≤ R.locals) (hc : cells + rm.cells ≤ R.cells) (hs : slots + rm.slots ≤ R.slots) :
    ∃ v T' L, Stand p l e R s m args below meth c T' (locs ++ L) (cells + rm.cells) (slots + rm.slots) ∧ Q v T'.heap L ∧ ∀ target, Steps p.tables e below (T'.setTop { g with pc := g.pc + 3, stack := v.toList ++ rest }) target → Steps p.tables e below (T.setTop g) target := by
  obtain ⟨v, vm1, ⟨T1, L1, k1, n1⟩, -, X1, ⟨L, hQ, h1, h2, h3⟩, st⟩ := Jvm.LawKit.callS X hx hown (mvT hZ w1) (mvT hZ w2) (mvT hZ w3) (mvT hZ w4) hy (backOf (W := W) ct hZ w4 w3 hf hl) hg hsize hlen hstack hW hdg (fun _ _ => ⟨rfl, eT, hc, hs⟩)
  dsimp only [Pt.U, Pt.locs, Pt.cells, Pt.slots] at X1 h1 h2 h3 hQ st
  subst h1 h2 h3
  exact ⟨v, T1, L, X1, hQ, st⟩
theorem own_callI {a : Addr} (X : Stand p l e R s m args below meth c T locs cells slots) (hx : p.tables.exec = Jvm.exec) (hZ : Z.Warmed39 s.vm) (hown : s.vm.findClass own = some m.cls) (hy1 : y.name = "<init>")
    (w1 : (Jvm.Cond.methodLink own index y).before a0 Z = true) (w2 : (Jvm.Cond.instanceMethod y).before a0 Z = true) (w3 : (Jvm.Cond.initialized y.cls).before a0 Z = true) (w4 : (Jvm.Cond.code y bytes ml none).before a0 Z = true)
    (hy : y.cls ≠ "java/lang/invoke/MethodHandle" ∧ y.cls ≠ "java/lang/invoke/VarHandle") (ct : own_Ct l Z y bytes ml none rm (.ref a :: argsL).toArray h Q) (eT : T.heap = h) (hg : g.method = m) (hsize : g.locals.size = c.maxLocals)
    (hlen : ∀ sig, parseMethodDescriptor y.desc = some sig → argsL.length = sig.parameters.length) (hstack : g.stack = argsL.reverse ++ .ref a :: rest) (hW : 2 * g.monitorRoom + (rest.map fun v => v.category).sum ≤ W) (hdg : decode c.code g.pc = .ok (.invokespecial index, 3))
    (hf : rm.frames + 1 ≤ R.frames) (hl : W + (ml + 11) + rm.locals ≤ R.locals) (hc : cells + rm.cells ≤ R.cells) (hs : slots + rm.slots ≤ R.slots) :
    ∃ v T' L, Stand p l e R s m args below meth c T' (locs ++ L) (cells + rm.cells) (slots + rm.slots) ∧ Q v T'.heap L ∧ ∀ target, Steps p.tables e below (T'.setTop { g with pc := g.pc + 3, stack := v.toList ++ rest }) target → Steps p.tables e below (T.setTop g) target := by
  obtain ⟨v, vm1, ⟨T1, L1, k1, n1⟩, -, X1, ⟨L, hQ, h1, h2, h3⟩, st⟩ := X.specialBack hx hy1 hown (mvT hZ w1) (mvT hZ w2) (mvT hZ w4) hy (backOf (W := W) ct hZ w4 w3 hf hl) hg hsize (Steps.refl _) hlen hstack hW hdg (fun _ _ => ⟨rfl, eT, hc, hs⟩)
  dsimp only [Pt.U, Pt.locs, Pt.cells, Pt.slots] at X1 h1 h2 h3 hQ st
  subst h1 h2 h3
  exact ⟨v, T1, L, X1, hQ, fun t k => st.trans k⟩
theorem own_callV {a : Addr} {C : String} (X : Stand p l e R s m args below meth c T locs cells slots) (hx : p.tables.exec = Jvm.exec) (hZ : Z.Warmed39 s.vm) (hown : s.vm.findClass own = some m.cls) (E : Exa Z h a C) {y0 : MethodName}
    (w1 : (Jvm.Cond.methodLink own index y0).before a0 Z = true) (w2 : (Jvm.Cond.declares y0).before a0 Z = true) (w5 : (Jvm.Cond.selects C y0 y).before a0 Z = true) (nf : NotFace s y0) (w6 : (Jvm.Cond.instanceMethod y).before a0 Z = true) (w3 : (Jvm.Cond.initialized y.cls).before a0 Z = true) (w4 : (Jvm.Cond.code y bytes ml rt).before a0 Z = true)
    (hy : y0.cls ≠ "java/lang/invoke/MethodHandle" ∧ y0.cls ≠ "java/lang/invoke/VarHandle") (ct : own_Ct l Z y bytes ml rt rm (.ref a :: argsL).toArray h Q) (eT : T.heap = h) (hg : g.method = m) (hsize : g.locals.size = c.maxLocals)
    (hlen : ∀ sig, parseMethodDescriptor y0.desc = some sig → argsL.length = sig.parameters.length) (hstack : g.stack = argsL.reverse ++ .ref a :: rest) (hW : 2 * g.monitorRoom + (rest.map fun v => v.category).sum ≤ W) (hdg : decode c.code g.pc = .ok (.invokevirtual index, 3))
    (hf : rm.frames + 1 ≤ R.frames) (hl : W + (ml + 11) + rm.locals ≤ R.locals) (hc : cells + rm.cells ≤ R.cells) (hs : slots + rm.slots ≤ R.slots) :
    ∃ v T' L, Stand p l e R s m args below meth c T' (locs ++ L) (cells + rm.cells) (slots + rm.slots) ∧ Q v T'.heap L ∧ ∀ target, Steps p.tables e below (T'.setTop { g with pc := g.pc + 3, stack := v.toList ++ rest }) target → Steps p.tables e below (T.setTop g) target := by
  obtain ⟨cq, kq, qa, qb, qc⟩ := isOf hZ eT E
  obtain ⟨v, vm1, ⟨T1, L1, k1, n1⟩, -, X1, ⟨L, hQ, h1, h2, h3⟩, st⟩ := X.virtualBack hx (y := y0) (z := y) hown (mvT hZ w1) (mvT hZ w2) nf (mvT hZ w5) (mvT hZ w6) hy (backOf (W := W) ct hZ w4 w3 hf hl) qa qc hg hsize (Steps.refl _) hlen hstack hW hdg (fun _ _ => ⟨rfl, eT, hc, hs⟩)
  dsimp only [Pt.U, Pt.locs, Pt.cells, Pt.slots] at X1 h1 h2 h3 hQ st
  subst h1 h2 h3
  exact ⟨v, T1, L, X1, hQ, fun t k => st.trans k⟩
theorem own_callP {a : Addr} {C C0 : String} {x z : MethodName} (X : Stand p l e R s m args below meth c T locs cells slots) (hx : p.tables.exec = Jvm.exec) (hZ : Z.Warmed39 s.vm) (hown : s.vm.findClass own = some m.cls) (E : Exa Z h a C0) (hz : z.cls = y.cls)
    (w1 : (Jvm.Cond.methodLink own index y).before a0 Z = true) (w2 : (Jvm.Cond.instanceMethod y).before a0 Z = true) (w5 : (Jvm.Cond.selects C x z).before a0 Z = true) (wp : (Jvm.Cond.privateMethod y).before a0 Z = true) (w3 : (Jvm.Cond.initialized y.cls).before a0 Z = true) (w4 : (Jvm.Cond.code y bytes ml rt).before a0 Z = true)
    (hy : y.cls ≠ "java/lang/invoke/MethodHandle" ∧ y.cls ≠ "java/lang/invoke/VarHandle") (ct : own_Ct l Z y bytes ml rt rm (.ref a :: argsL).toArray h Q) (eT : T.heap = h) (hg : g.method = m) (hsize : g.locals.size = c.maxLocals)
    (hlen : ∀ sig, parseMethodDescriptor y.desc = some sig → argsL.length = sig.parameters.length) (hstack : g.stack = argsL.reverse ++ .ref a :: rest) (hW : 2 * g.monitorRoom + (rest.map fun v => v.category).sum ≤ W) (hdg : decode c.code g.pc = .ok (.invokevirtual index, 3))
    (hf : rm.frames + 1 ≤ R.frames) (hl : W + (ml + 11) + rm.locals ≤ R.locals) (hc : cells + rm.cells ≤ R.cells) (hs : slots + rm.slots ≤ R.slots) :
    ∃ v T' L, Stand p l e R s m args below meth c T' (locs ++ L) (cells + rm.cells) (slots + rm.slots) ∧ Q v T'.heap L ∧ ∀ target, Steps p.tables e below (T'.setTop { g with pc := g.pc + 3, stack := v.toList ++ rest }) target → Steps p.tables e below (T.setTop g) target := by
  obtain ⟨cq, q1, q2⟩ := E.cell
  have hp : s.PrivateAt y := Cond.privateMethod_at (mvP hZ wp (args := #[]))
  have w5' : (Jvm.Cond.selects C x z).before args s = true := mvT hZ w5
  obtain ⟨c2, r2, m2, -, -, q3, -, kP, hkP, hkPi⟩ := Cond.selects_spec w5'
  have hcl : s.vm.findClass y.cls = some m2.cls := hz ▸ findClass_of_methodNamed q3
  have hsel : (Jvm.Cond.selects y.cls y y).before args s = true := selects_self_of_private hcl hkP hkPi hp (mvT hZ w2) hy
  obtain ⟨v, vm1, ⟨T1, L1, k1, n1⟩, -, X1, ⟨L, hQ, h1, h2, h3⟩, st⟩ := X.privateBack hx hown (mvT hZ w1) (mvT hZ w2) hsel hp (mvT hZ w4) hy (backOf (W := W) ct hZ w4 w3 hf hl) hg hsize (Steps.refl _) (a := a) (by rw [eT]; exact q1) q2 hlen hstack hW hdg (fun _ _ => ⟨rfl, eT, hc, hs⟩)
  dsimp only [Pt.U, Pt.locs, Pt.cells, Pt.slots] at X1 h1 h2 h3 hQ st
  subst h1 h2 h3
  exact ⟨v, T1, L, X1, hQ, fun t k => st.trans k⟩
theorem own_callF {a : Addr} {C : String} {count : Nat} (X : Stand p l e R s m args below meth c T locs cells slots) (hx : p.tables.exec = Jvm.exec) (hZ : Z.Warmed39 s.vm) (hown : s.vm.findClass own = some m.cls) (E : Exa Z h a C) {y0 : MethodName}
    (w1 : (Jvm.Cond.methodLink own index y0).before a0 Z = true) (w2 : (Jvm.Cond.declares y0).before a0 Z = true) (wf : (Jvm.Cond.interfaceMethod y0.cls y0.cls y0.name y0.desc).before args s = true) (w5 : (Jvm.Cond.selects C y0 y).before a0 Z = true) (w6 : (Jvm.Cond.instanceMethod y).before a0 Z = true) (wp : (Jvm.Cond.publicMethod y).before a0 Z = true) (wu : (Jvm.Cond.unhidden C y0.name y0.desc).before a0 Z = true) (wk : (Jvm.Cond.castable C y0.cls).before a0 Z = true) (w3 : (Jvm.Cond.initialized y.cls).before a0 Z = true) (w4 : (Jvm.Cond.code y bytes ml rt).before a0 Z = true)
    (hy : y0.cls ≠ "java/lang/invoke/MethodHandle" ∧ y0.cls ≠ "java/lang/invoke/VarHandle") (ct : own_Ct l Z y bytes ml rt rm (.ref a :: argsL).toArray h Q) (eT : T.heap = h) (hg : g.method = m) (hsize : g.locals.size = c.maxLocals)
    (hlen : ∀ sig, parseMethodDescriptor y0.desc = some sig → argsL.length = sig.parameters.length) (hstack : g.stack = argsL.reverse ++ .ref a :: rest) (hW : 2 * g.monitorRoom + (rest.map fun v => v.category).sum ≤ W) (hdg : decode c.code g.pc = .ok (.invokeinterface index count, 5))
    (hf : rm.frames + 1 ≤ R.frames) (hl : W + (ml + 11) + rm.locals ≤ R.locals) (hc : cells + rm.cells ≤ R.cells) (hs : slots + rm.slots ≤ R.slots) :
    ∃ v T' L, Stand p l e R s m args below meth c T' (locs ++ L) (cells + rm.cells) (slots + rm.slots) ∧ Q v T'.heap L ∧ ∀ target, Steps p.tables e below (T'.setTop { g with pc := g.pc + 5, stack := v.toList ++ rest }) target → Steps p.tables e below (T.setTop g) target := by
  obtain ⟨cq, kq, qa, qb, qc⟩ := isOf hZ eT E
  obtain ⟨v, vm1, ⟨T1, L1, k1, n1⟩, -, X1, ⟨L, hQ, h1, h2, h3⟩, st⟩ := X.interfaceBack hx (xi := y0) (y := y) hown (mvT hZ w1) (mvT hZ w2) wf (mvT hZ w5) (mvT hZ w6) (mvT hZ wp) (mvT hZ wu) (mvT hZ wk) hy (backOf (W := W) ct hZ w4 w3 hf hl) qa qb qc hg hsize (Steps.refl _) hlen hstack hW hdg (fun _ _ => ⟨rfl, eT, hc, hs⟩)
  dsimp only [Pt.U, Pt.locs, Pt.cells, Pt.slots] at X1 h1 h2 h3 hQ st
  subst h1 h2 h3
  exact ⟨v, T1, L, X1, hQ, fun t k => st.trans k⟩
end Call
/-- getfield by an entry that is resolved already -/
theorem own_getR {O n d : String} {a : Addr} {v : Value} (X : Stand p l e R s m args below meth c T locs cells slots) (hx : p.tables.exec = Jvm.exec) (hZ : Z.Warmed39 s.vm) {own : String} {index : Nat} (hown : s.vm.findClass own = some m.cls) (w : (Jvm.Cond.fieldRef own index O n d).before a0 Z = true) (eT : T.heap = h) (F : Fld Z h a O n d v)
    {g : JFrame} (hg : g.method = m) {rest : List Value} (hs : g.stack = .ref a :: rest) (hd : decode c.code g.pc = .ok (.getfield index, 3)) :
    ∀ t, Steps p.tables e below (T.setTop { g with pc := g.pc + 3, stack := v :: rest }) t → Steps p.tables e below (T.setTop g) t := by
  have hT : Z.Warmed39 T.vm := wtrans hZ X.warmed
  have w' := Cond.fieldRef_warmed39 hT w
  have hownT : (Z.setVm T.vm).vm.findClass own = some m.cls := by
    show T.vm.findClass own = _
    rw [X.warmed.alike.findClass]; exact hown
  obtain ⟨c1, k1, i1, f1, q1, q2⟩ := Cond.fieldRef_spec hownT w'
  obtain ⟨cell, cf, k, i, f, h1, h2, h3, h4, -, -, h7⟩ := F
  obtain ⟨k', hi, -⟩ := State.fieldFound?_setVm (s := Z) hT.alike h2
  cases q1.symm.trans hi
  exact fun t kt => (X.getfieldR hx hg q2 h3 hs (by rw [eT]; exact h1) h4 h7 hd (Steps.refl _)).trans kt
theorem own_Sta.keep {C n d : String} {v : Value} (S : Sta Z h C n d v) (K : Keep h h' []) : Sta Z h' C n d v := by
  obtain ⟨cf, i, k, f, st, cell, h1, h2, h3, h4, h5, h6, h7⟩ := S
  exact ⟨cf, i, k, f, st, cell, h1, h2, h3, h4, K.2.1 _ _ h5 nin0, h6, h7⟩
theorem own_imod (x y : Int32) : x - (x / y) * y = x % y := by
  apply Int32.toInt_inj.mp
  have h1 := rng32 (x % y)
  rw [Int32.toInt_sub, Int32.toInt_mul, Int32.toInt_div, Int.bmod_mul_bmod, Int.sub_bmod_bmod, Int.mul_comm (x.toInt.tdiv y.toInt), ← Int.tmod_def, ← Int32.toInt_mod]
  exact Int.bmod_eq_of_le_mul_two (by omega) (by omega)
theorem own_irem {T target : State} {g : JFrame} (h : At T m c below) (hx : p.tables.exec = Jvm.exec) (hg : g.method = m) {x y : Int32} {rest : List Value} (hd : decode c.code g.pc = .ok (.irem, 1)) (hs : g.stack = .int y :: .int x :: rest) (hy : y ≠ 0)
    (hr : Steps p.tables e below (T.setTop { g with pc := g.pc + 1, stack := .int (x % y) :: rest }) target) : Steps p.tables e below (T.setTop g) target := by
  refine XS.irem h hx hg hd hs hy ?_
  rw [own_imod x y]
  exact hr
section Cmp
theorem own_tltL {x y : Int64} (h : x < y) : ifCond.holds .lt (lcmpW x y) = true ∧ ifCond.holds .ge (lcmpW x y) = false := by
  rw [if0, if0]; exact ⟨(tlt ((lw_lt x y).mpr h)).1, (tlt ((lw_lt x y).mpr h)).2.1⟩
theorem own_fltL {x y : Int64} (h : ¬ x < y) : ifCond.holds .lt (lcmpW x y) = false ∧ ifCond.holds .ge (lcmpW x y) = true := by
  have q : ¬ lcmpW x y < 0 := fun q => h ((lw_lt x y).mp q)
  rw [if0, if0]; exact ⟨(flt q).1, (flt q).2.1⟩
theorem own_tgtL {x y : Int64} (h : y < x) : ifCond.holds .gt (lcmpW x y) = true ∧ ifCond.holds .le (lcmpW x y) = false := by
  rw [if0, if0]; exact ⟨(tlt ((lw_gt x y).mpr h)).2.2.1, (tlt ((lw_gt x y).mpr h)).2.2.2⟩
theorem own_fgtL {x y : Int64} (h : ¬ y < x) : ifCond.holds .gt (lcmpW x y) = false ∧ ifCond.holds .le (lcmpW x y) = true := by
  have q : ¬ 0 < lcmpW x y := fun q => h ((lw_gt x y).mp q)
  rw [if0, if0]; exact ⟨(flt q).2.2.1, (flt q).2.2.2⟩
theorem own_teqL {x y : Int64} (h : x = y) : ifCond.holds .eq (lcmpW x y) = true ∧ ifCond.holds .ne (lcmpW x y) = false := by
  rw [if0, if0]; exact ⟨(teq ((lw_eq x y).mpr h)).1, (teq ((lw_eq x y).mpr h)).2⟩
theorem own_feqL {x y : Int64} (h : ¬ x = y) : ifCond.holds .eq (lcmpW x y) = false ∧ ifCond.holds .ne (lcmpW x y) = true := by
  have q : ¬ lcmpW x y = 0 := fun q => h ((lw_eq x y).mp q)
  rw [if0, if0]; exact ⟨(feq q).1, (feq q).2⟩
end Cmp
/-- an array: its kind, its length, its values -/
def own_AV (Z : State) (h : Heap) (a : Addr) (ty : FieldType) (n : Nat) (f : Nat → Value) : Prop :=
  ∃ cl : Cell, Arr Z h a cl ty ∧ cl.slots.size = n ∧ (∀ i, i < n → cl.slots[i]? = some (f i)) ∧ ∀ i, i < n → fits ty (f i) = true
/-- an array of int-like values -/
def own_AI (Z : State) (h : Heap) (a : Addr) (ty : FieldType) (n : Nat) (f : Nat → Int32) : Prop := own_AV Z h a ty n (fun i => .int (f i))
def own_AL (Z : State) (h : Heap) (a : Addr) (n : Nat) (f : Nat → Int64) : Prop := own_AV Z h a .long n (fun i => .long (f i))
def own_updV (f : Nat → Value) (k : Nat) (v : Value) : Nat → Value := fun i => if i = k then v else f i
def own_upd (f : Nat → Int32) (k : Nat) (v : Int32) : Nat → Int32 := fun i => if i = k then v else f i
def own_updL (f : Nat → Int64) (k : Nat) (v : Int64) : Nat → Int64 := fun i => if i = k then v else f i
theorem own_idx {j : Int32} {k n : Nat} {cl : Cell} (S : cl.slots.size = n) (hj : j.toInt = (k : Int)) (hk : k < n) : ¬ (j < 0 ∨ cl.slots.size ≤ j.toNatClampNeg) ∧ j.toNatClampNeg = k := by
  have e0 : (0 : Int32).toInt = 0 := by decide
  have e1 : j.toNatClampNeg = k := by
    show j.toInt.toNat = k
    rw [hj]; rfl
  refine ⟨?_, e1⟩
  rintro (q | q)
  · rw [Int32.lt_iff_toInt_lt, e0, hj] at q; omega
  · rw [e1, S] at q; omega
section AV
variable {a b : Addr} {ty : FieldType} {n : Nat} {f : Nat → Value}
theorem own_AV.lt (A : own_AV Z h a ty n f) : a < h.size := by obtain ⟨cl, h1, -⟩ := A; exact h1.lt
theorem own_AV.ext (A : own_AV Z h a ty n f) (E : Ext h h') : own_AV Z h' a ty n f := by obtain ⟨cl, h1, r⟩ := A; exact ⟨cl, h1.ext E, r⟩
theorem own_AV.other (A : own_AV Z h b ty n f) {sl : Nat} {v : Value} (W : Wr h h' a sl v) (q : b ≠ a) : own_AV Z h' b ty n f := by obtain ⟨cl, h1, r⟩ := A; exact ⟨cl, h1.other W q, r⟩
theorem own_AV.keep {ws : List Addr} (A : own_AV Z h a ty n f) (K : Keep h h' ws) (q : a ∉ ws) : own_AV Z h' a ty n f := by obtain ⟨cl, h1, r⟩ := A; exact ⟨cl, ⟨K.2.1 a cl h1.1 q, h1.2⟩, r⟩
theorem own_AV.congr {g : Nat → Value} (A : own_AV Z h a ty n f) (q : ∀ i, i < n → f i = g i) : own_AV Z h a ty n g := by
  obtain ⟨cl, h1, h2, h3, h4⟩ := A
  exact ⟨cl, h1, h2, fun i hi => by rw [← q i hi]; exact h3 i hi, fun i hi => by rw [← q i hi]; exact h4 i hi⟩
theorem own_AV.new {cA : ClassId} {z : Int32} (A : Arr Z h a (newA cA ty z) ty) (hn : z.toNatClampNeg = n) (hf : fits ty (defaultValue ty) = true) : own_AV Z h a ty n (fun _ => defaultValue ty) :=
  ⟨_, A, by rw [sz_new, hn], fun i hi => by subst hn; simp only [newA, Array.getElem?_replicate, hi, if_true], fun _ _ => hf⟩
theorem own_AV.set {k : Nat} {v : Value} (F : own_AV Z h a ty n f) (hk : k < n) (hv : fits ty v = true) (W : Wr h h' a k v) : own_AV Z h' a ty n (own_updV f k v) := by
  obtain ⟨cl, A, S, H, G⟩ := F
  refine ⟨_, A.same W, by rw [sz_set, S], fun i hi => ?_, fun i hi => ?_⟩
  · by_cases q : i = k
    · subst q; simp [Cell.setSlot, own_updV, S, hk]
    · have q' : ¬ k = i := fun r => q r.symm
      simp only [Cell.setSlot, own_updV, q, if_false]
      rw [Array.getElem?_setIfInBounds_ne q']
      exact H i hi
  · by_cases q : i = k
    · simp only [own_updV, q, if_true]; exact hv
    · simp only [own_updV, q, if_false]; exact G i hi
end AV
section AI
variable {a b : Addr} {ty : FieldType} {n : Nat} {f : Nat → Int32}
theorem own_AI.lt (A : own_AI Z h a ty n f) : a < h.size := own_AV.lt A
theorem own_AI.ext (A : own_AI Z h a ty n f) (E : Ext h h') : own_AI Z h' a ty n f := own_AV.ext A E
theorem own_AI.other (A : own_AI Z h b ty n f) {sl : Nat} {v : Value} (W : Wr h h' a sl v) (q : b ≠ a) : own_AI Z h' b ty n f := own_AV.other A W q
theorem own_AI.keep {ws : List Addr} (A : own_AI Z h a ty n f) (K : Keep h h' ws) (q : a ∉ ws) : own_AI Z h' a ty n f := own_AV.keep A K q
theorem own_AI.congr {g : Nat → Int32} (A : own_AI Z h a ty n f) (q : ∀ i, i < n → f i = g i) : own_AI Z h a ty n g := own_AV.congr A fun i hi => congrArg Value.int (q i hi)
theorem own_AI.set {k : Nat} {v : Int32} (F : own_AI Z h a ty n f) (hk : k < n) (hv : fits ty (.int v) = true) (W : Wr h h' a k (.int v)) : own_AI Z h' a ty n (own_upd f k v) :=
  (own_AV.set F hk hv W).congr fun i _ => by
    by_cases q : i = k <;> simp [own_updV, own_upd, q]
end AI
section Rd
variable {a : Addr} {n k : Nat} {j : Int32} {g : JFrame} {rest : List Value}
theorem own_rdI {f : Nat → Int32} (X : Stand p l e R s m args below meth c T locs cells slots) (hx : p.tables.exec = Jvm.exec) (hZ : Z.Warmed39 s.vm) (eT : T.heap = h) (A : own_AI Z h a .int n f) (hj : j.toInt = (k : Int)) (hk : k < n) (hg : g.method = m) (hs : g.stack = .int j :: .ref a :: rest) (hd : decode c.code g.pc = .ok (.iaload, 1)) :
    ∀ t, Steps p.tables e below (T.setTop { g with pc := g.pc + 1, stack := .int (f k) :: rest }) t → Steps p.tables e below (T.setTop g) t := by
  obtain ⟨cl, A1, S, H, -⟩ := A
  obtain ⟨hin, e1⟩ := own_idx S hj hk
  exact X.iaload hx (by rw [eT]; exact A1.1) (State.isArrayOf_alike hZ.alike A1.2.1) A1.2.2 hin (by rw [e1]; exact H k hk) hg hs hd
theorem own_rdB {f : Nat → Int32} (X : Stand p l e R s m args below meth c T locs cells slots) (hx : p.tables.exec = Jvm.exec) (hZ : Z.Warmed39 s.vm) (eT : T.heap = h) (A : own_AI Z h a .byte n f) (hj : j.toInt = (k : Int)) (hk : k < n) (hg : g.method = m) (hs : g.stack = .int j :: .ref a :: rest) (hd : decode c.code g.pc = .ok (.baload, 1)) :
    ∀ t, Steps p.tables e below (T.setTop { g with pc := g.pc + 1, stack := .int (f k) :: rest }) t → Steps p.tables e below (T.setTop g) t := by
  obtain ⟨cl, A1, S, H, -⟩ := A
  obtain ⟨hin, e1⟩ := own_idx S hj hk
  exact X.baloadBytes hx (by rw [eT]; exact A1.1) (State.isArrayOf_alike hZ.alike A1.2.1) A1.2.2 hin (by rw [e1]; exact H k hk) hg hs hd
theorem own_rdZ {f : Nat → Int32} (X : Stand p l e R s m args below meth c T locs cells slots) (hx : p.tables.exec = Jvm.exec) (hZ : Z.Warmed39 s.vm) (eT : T.heap = h) (A : own_AI Z h a .boolean n f) (hj : j.toInt = (k : Int)) (hk : k < n) (hg : g.method = m) (hs : g.stack = .int j :: .ref a :: rest) (hd : decode c.code g.pc = .ok (.baload, 1)) :
    ∀ t, Steps p.tables e below (T.setTop { g with pc := g.pc + 1, stack := .int (f k) :: rest }) t → Steps p.tables e below (T.setTop g) t := by
  obtain ⟨cl, A1, S, H, -⟩ := A
  obtain ⟨hin, e1⟩ := own_idx S hj hk
  exact X.baloadBooleans hx (by rw [eT]; exact A1.1) (State.isArrayOf_alike hZ.alike A1.2.1) A1.2.2 hin (by rw [e1]; exact H k hk) hg hs hd
theorem own_rdC {f : Nat → Int32} (X : Stand p l e R s m args below meth c T locs cells slots) (hx : p.tables.exec = Jvm.exec) (hZ : Z.Warmed39 s.vm) (eT : T.heap = h) (A : own_AI Z h a .char n f) (hj : j.toInt = (k : Int)) (hk : k < n) (hg : g.method = m) (hs : g.stack = .int j :: .ref a :: rest) (hd : decode c.code g.pc = .ok (.caload, 1)) :
    ∀ t, Steps p.tables e below (T.setTop { g with pc := g.pc + 1, stack := .int (f k) :: rest }) t → Steps p.tables e below (T.setTop g) t := by
  obtain ⟨cl, A1, S, H, -⟩ := A
  obtain ⟨hin, e1⟩ := own_idx S hj hk
  exact X.caload hx (by rw [eT]; exact A1.1) (State.isArrayOf_alike hZ.alike A1.2.1) A1.2.2 hin (by rw [e1]; exact H k hk) hg hs hd
theorem own_wrC {f : Nat → Int32} {x : Int32} (X : Stand p l e R s m args below meth c T locs cells slots) (hx : p.tables.exec = Jvm.exec) (hZ : Z.Warmed39 s.vm) (eT : T.heap = h) (A : own_AI Z h a .char n f) (hj : j.toInt = (k : Int)) (hk : k < n) (hg : g.method = m) (hs : g.stack = .int x :: .int j :: .ref a :: rest) (hd : decode c.code g.pc = .ok (.castore, 1)) :
    ∃ T' h', Stand p l e R s m args below meth c T' (locs ++ [⟨a, k⟩]) cells slots ∧ T'.heap = h' ∧ Wr h h' a k (.int (nar .char x)) ∧ own_AI Z h' a .char n (own_upd f k (nar .char x)) ∧ ∀ t, Steps p.tables e below (T'.setTop { g with pc := g.pc + 1, stack := rest }) t → Steps p.tables e below (T.setTop g) t := by
  have A0 := A
  obtain ⟨cl, A1, S, H, -⟩ := A
  obtain ⟨hin, e1⟩ := own_idx S hj hk
  obtain ⟨T', h', X', e', W', st⟩ := stC X hx hZ eT A1 hin hg hs hd
  rw [e1] at X' W'
  exact ⟨T', h', X', e', W', A0.set hk (fits_nar_char x) W', st⟩
theorem own_rdL {f : Nat → Int64} (X : Stand p l e R s m args below meth c T locs cells slots) (hx : p.tables.exec = Jvm.exec) (hZ : Z.Warmed39 s.vm) (eT : T.heap = h) (A : own_AL Z h a n f) (hj : j.toInt = (k : Int)) (hk : k < n) (hg : g.method = m) (hs : g.stack = .int j :: .ref a :: rest) (hd : decode c.code g.pc = .ok (.laload, 1)) :
    ∀ t, Steps p.tables e below (T.setTop { g with pc := g.pc + 1, stack := .long (f k) :: rest }) t → Steps p.tables e below (T.setTop g) t := by
  obtain ⟨cl, A1, S, H, -⟩ := A
  obtain ⟨hin, e1⟩ := own_idx S hj hk
  exact X.laload hx (by rw [eT]; exact A1.1) (State.isArrayOf_alike hZ.alike A1.2.1) A1.2.2 hin (by rw [e1]; exact H k hk) hg hs hd
theorem own_rdR {f : Nat → Value} {ty : FieldType} (X : Stand p l e R s m args below meth c T locs cells slots) (hx : p.tables.exec = Jvm.exec) (hZ : Z.Warmed39 s.vm) (eT : T.heap = h) (A : own_AV Z h a ty n f) (ht : ty.isReference = true) (hj : j.toInt = (k : Int)) (hk : k < n) (hg : g.method = m) (hs : g.stack = .int j :: .ref a :: rest) (hd : decode c.code g.pc = .ok (.aaload, 1)) :
    ∀ t, Steps p.tables e below (T.setTop { g with pc := g.pc + 1, stack := f k :: rest }) t → Steps p.tables e below (T.setTop g) t := by
  obtain ⟨cl, A1, S, H, -⟩ := A
  obtain ⟨hin, e1⟩ := own_idx S hj hk
  exact X.aaload hx (by rw [eT]; exact A1.1) (State.isArrayOf_alike hZ.alike A1.2.1) ht A1.2.2 hin (by rw [e1]; exact H k hk) hg hs hd
theorem own_len {f : Nat → Value} {ty : FieldType} {z : Int32} (X : Stand p l e R s m args below meth c T locs cells slots) (hx : p.tables.exec = Jvm.exec) (hZ : Z.Warmed39 s.vm) (eT : T.heap = h) (A : own_AV Z h a ty n f) (hz : n.toInt32 = z) (hg : g.method = m) (hs : g.stack = .ref a :: rest) (hd : decode c.code g.pc = .ok (.arraylength, 1)) :
    ∀ t, Steps p.tables e below (T.setTop { g with pc := g.pc + 1, stack := .int z :: rest }) t → Steps p.tables e below (T.setTop g) t := by
  obtain ⟨cl, A1, S, -, -⟩ := A
  subst hz S
  exact X.arraylength hx (by rw [eT]; exact A1.1) (State.isArrayOf_alike hZ.alike A1.2.1) hg hs hd
theorem own_wrI {f : Nat → Int32} {x : Int32} (X : Stand p l e R s m args below meth c T locs cells slots) (hx : p.tables.exec = Jvm.exec) (hZ : Z.Warmed39 s.vm) (eT : T.heap = h) (A : own_AI Z h a .int n f) (hj : j.toInt = (k : Int)) (hk : k < n) (hg : g.method = m) (hs : g.stack = .int x :: .int j :: .ref a :: rest) (hd : decode c.code g.pc = .ok (.iastore, 1)) :
    ∃ T' h', Stand p l e R s m args below meth c T' (locs ++ [⟨a, k⟩]) cells slots ∧ T'.heap = h' ∧ Wr h h' a k (.int x) ∧ own_AI Z h' a .int n (own_upd f k x) ∧ ∀ t, Steps p.tables e below (T'.setTop { g with pc := g.pc + 1, stack := rest }) t → Steps p.tables e below (T.setTop g) t := by
  have A0 := A
  obtain ⟨cl, A1, S, H, -⟩ := A
  obtain ⟨hin, e1⟩ := own_idx S hj hk
  obtain ⟨T', h', X', e', W', st⟩ := stI X hx hZ eT A1 hin hg hs hd
  rw [e1] at X' W'
  exact ⟨T', h', X', e', W', A0.set hk rfl W', st⟩
theorem own_wrB {f : Nat → Int32} {x : Int32} (X : Stand p l e R s m args below meth c T locs cells slots) (hx : p.tables.exec = Jvm.exec) (hZ : Z.Warmed39 s.vm) (eT : T.heap = h) (A : own_AI Z h a .byte n f) (hj : j.toInt = (k : Int)) (hk : k < n) (hg : g.method = m) (hs : g.stack = .int x :: .int j :: .ref a :: rest) (hd : decode c.code g.pc = .ok (.bastore, 1)) :
    ∃ T' h', Stand p l e R s m args below meth c T' (locs ++ [⟨a, k⟩]) cells slots ∧ T'.heap = h' ∧ Wr h h' a k (.int (nar .byte x)) ∧ own_AI Z h' a .byte n (own_upd f k (nar .byte x)) ∧ ∀ t, Steps p.tables e below (T'.setTop { g with pc := g.pc + 1, stack := rest }) t → Steps p.tables e below (T.setTop g) t := by
  have A0 := A
  obtain ⟨cl, A1, S, H, -⟩ := A
  obtain ⟨hin, e1⟩ := own_idx S hj hk
  obtain ⟨T', h', X', e', W', st⟩ := stB X hx hZ eT A1 hin hg hs hd
  rw [e1] at X' W'
  exact ⟨T', h', X', e', W', A0.set hk (fits_nar_byte x) W', st⟩
theorem own_wrZ {f : Nat → Int32} {x : Int32} (X : Stand p l e R s m args below meth c T locs cells slots) (hx : p.tables.exec = Jvm.exec) (hZ : Z.Warmed39 s.vm) (eT : T.heap = h) (A : own_AI Z h a .boolean n f) (hj : j.toInt = (k : Int)) (hk : k < n) (hg : g.method = m) (hs : g.stack = .int x :: .int j :: .ref a :: rest) (hd : decode c.code g.pc = .ok (.bastore, 1)) :
    ∃ T' h', Stand p l e R s m args below meth c T' (locs ++ [⟨a, k⟩]) cells slots ∧ T'.heap = h' ∧ Wr h h' a k (.int (nar .boolean x)) ∧ own_AI Z h' a .boolean n (own_upd f k (nar .boolean x)) ∧ ∀ t, Steps p.tables e below (T'.setTop { g with pc := g.pc + 1, stack := rest }) t → Steps p.tables e below (T.setTop g) t := by
  have A0 := A
  obtain ⟨cl, A1, S, H, -⟩ := A
  obtain ⟨hin, e1⟩ := own_idx S hj hk
  obtain ⟨T', h', X', e', W', st⟩ := stZ X hx hZ eT A1 hin hg hs hd
  rw [e1] at X' W'
  exact ⟨T', h', X', e', W', A0.set hk (fits_nar_bool x) W', st⟩
theorem own_wrL {f : Nat → Int64} {x : Int64} (X : Stand p l e R s m args below meth c T locs cells slots) (hx : p.tables.exec = Jvm.exec) (hZ : Z.Warmed39 s.vm) (eT : T.heap = h) (A : own_AL Z h a n f) (hj : j.toInt = (k : Int)) (hk : k < n) (hg : g.method = m) (hs : g.stack = .long x :: .int j :: .ref a :: rest) (hd : decode c.code g.pc = .ok (.lastore, 1)) :
    ∃ T' h', Stand p l e R s m args below meth c T' (locs ++ [⟨a, k⟩]) cells slots ∧ T'.heap = h' ∧ Wr h h' a k (.long x) ∧ own_AL Z h' a n (own_updL f k x) ∧ ∀ t, Steps p.tables e below (T'.setTop { g with pc := g.pc + 1, stack := rest }) t → Steps p.tables e below (T.setTop g) t := by
  have A0 := A
  obtain ⟨cl, A1, S, H, -⟩ := A
  obtain ⟨hin, e1⟩ := own_idx S hj hk
  obtain ⟨T', h', X', e', W', st⟩ := stJ X hx hZ eT A1 hin hg hs hd
  rw [e1] at X' W'
  exact ⟨T', h', X', e', W', (own_AV.set A0 hk rfl W').congr fun i _ => by by_cases q : i = k <;> simp [own_updV, own_updL, q], st⟩
theorem own_wrR {f : Nat → Value} {ty : FieldType} {v : Value} (X : Stand p l e R s m args below meth c T locs cells slots) (hx : p.tables.exec = Jvm.exec) (hZ : Z.Warmed39 s.vm) (eT : T.heap = h) (A : own_AV Z h a ty n f) (ht : ty.isReference = true) (hv : fits ty v = true) (F : Sto Z h a v) (hj : j.toInt = (k : Int)) (hk : k < n) (hg : g.method = m) (hs : g.stack = v :: .int j :: .ref a :: rest) (hd : decode c.code g.pc = .ok (.aastore, 1)) :
    ∃ T' h', Stand p l e R s m args below meth c T' (locs ++ [⟨a, k⟩]) cells slots ∧ T'.heap = h' ∧ Wr h h' a k v ∧ own_AV Z h' a ty n (own_updV f k v) ∧ ∀ t, Steps p.tables e below (T'.setTop { g with pc := g.pc + 1, stack := rest }) t → Steps p.tables e below (T.setTop g) t := by
  have A0 := A
  obtain ⟨cl, A1, S, H, -⟩ := A
  obtain ⟨hin, e1⟩ := own_idx S hj hk
  obtain ⟨T', h', X', e', W', st⟩ := stR X hx hZ eT A1 hin ht F hg hs hd
  rw [e1] at X' W'
  exact ⟨T', h', X', e', W', A0.set hk hv W', st⟩
/-- newarray: the fresh array at a = the heap's old size -/
theorem own_newP {aty : ArrayType} {z : Int32} (X : Stand p l e R s m args below meth c T locs cells slots) (hx : p.tables.exec = Jvm.exec) (hZ : Z.Warmed39 s.vm) (w : (Jvm.Cond.arrayClass (newarray.typeOf aty)).before a0 Z = true) (eT : T.heap = h) (hz : z.toInt = (n : Int)) (hf : fits (newarray.typeOf aty) (defaultValue (newarray.typeOf aty)) = true) (hg : g.method = m) (hs : g.stack = .int z :: rest) (hd : decode c.code g.pc = .ok (.newarray aty, 2)) {cap : Nat} (hcap : n ≤ cap) (hb : cap * 8 ≤ 536870912) (hc : cells + 1 ≤ R.cells) (hl : slots + cap ≤ R.slots) :
    ∃ T' h' a, a = h.size ∧ Stand p l e R s m args below meth c T' locs (cells + 1) (slots + cap) ∧ T'.heap = h' ∧ Ext h h' ∧ own_AV Z h' a (newarray.typeOf aty) n (fun _ => defaultValue (newarray.typeOf aty)) ∧ ∀ t, Steps p.tables e below (T'.setTop { g with pc := g.pc + 2, stack := .ref a :: rest }) t → Steps p.tables e below (T.setTop g) t := by
  have e0 : (0 : Int32).toInt = 0 := by decide
  have e1 : z.toNatClampNeg = n := by show z.toInt.toNat = n; rw [hz]; rfl
  have hn : ¬ z < 0 := by rw [Int32.lt_iff_toInt_lt, e0, hz]; omega
  obtain ⟨T', h', cA, X', e', E', A', st⟩ := newP X hx hZ w eT hg hd hs hn (by rw [e1]; exact hcap) hb hc hl
  exact ⟨T', h', _, rfl, X', e', E', own_AV.new A' e1 hf, st⟩
/-- newarray: the fresh array, its class besides -/
theorem own_newPE {aty : ArrayType} {z : Int32} (X : Stand p l e R s m args below meth c T locs cells slots) (hx : p.tables.exec = Jvm.exec) (hZ : Z.Warmed39 s.vm) (w : (Jvm.Cond.arrayClass (newarray.typeOf aty)).before a0 Z = true) (eT : T.heap = h) (hz : z.toInt = (n : Int)) (hf : fits (newarray.typeOf aty) (defaultValue (newarray.typeOf aty)) = true) (hg : g.method = m) (hs : g.stack = .int z :: rest) (hd : decode c.code g.pc = .ok (.newarray aty, 2)) {cap : Nat} (hcap : n ≤ cap) (hb : cap * 8 ≤ 536870912) (hc : cells + 1 ≤ R.cells) (hl : slots + cap ≤ R.slots) {ad : String} (had : "[" ++ (newarray.typeOf aty).toString = ad) :
    ∃ T' h' a, a = h.size ∧ Stand p l e R s m args below meth c T' locs (cells + 1) (slots + cap) ∧ T'.heap = h' ∧ Ext h h' ∧ own_AV Z h' a (newarray.typeOf aty) n (fun _ => defaultValue (newarray.typeOf aty)) ∧ Exa Z h' a ad ∧ ∀ t, Steps p.tables e below (T'.setTop { g with pc := g.pc + 2, stack := .ref a :: rest }) t → Steps p.tables e below (T.setTop g) t := by
  have e0 : (0 : Int32).toInt = 0 := by decide
  have e1 : z.toNatClampNeg = n := by show z.toInt.toNat = n; rw [hz]; rfl
  have hn : ¬ z < 0 := by rw [Int32.lt_iff_toInt_lt, e0, hz]; omega
  obtain ⟨T', h', cA, X', e', E', A', E2, st⟩ := newPE X hx hZ w eT hg hd hs hn (by rw [e1]; exact hcap) hb hc hl had
  exact ⟨T', h', _, rfl, X', e', E', own_AV.new A' e1 hf, E2, st⟩
/-- anewarray: the fresh array of references, all null; what may lie in it -/
theorem own_newR {C : String} {z : Int32} {own : String} {index : Nat} (X : Stand p l e R s m args below meth c T locs cells slots) (hx : p.tables.exec = Jvm.exec) (hZ : Z.Warmed39 s.vm) (hown : s.vm.findClass own = some m.cls) (w1 : (Jvm.Cond.classLink own index C).before a0 Z = true) (w2 : (Jvm.Cond.arrayOver (.object C)).before a0 Z = true) (eT : T.heap = h) (hz : z.toInt = (n : Int)) (hg : g.method = m) (hs : g.stack = .int z :: rest) (hd : decode c.code g.pc = .ok (.anewarray index, 3)) {cap : Nat} (hcap : n ≤ cap) (hb : cap * 8 ≤ 536870912) (hc : cells + 1 ≤ R.cells) (hl : slots + cap ≤ R.slots) :
    ∃ T' h' a, a = h.size ∧ Stand p l e R s m args below meth c T' locs (cells + 1) (slots + cap) ∧ T'.heap = h' ∧ Ext h h' ∧ own_AV Z h' a (.object C) n (fun _ => .null) ∧ (∃ cl : Cell, h'[a]? = some cl ∧ Ovr Z cl.cls C) ∧ ∀ t, Steps p.tables e below (T'.setTop { g with pc := g.pc + 3, stack := .ref a :: rest }) t → Steps p.tables e below (T.setTop g) t := by
  have e0 : (0 : Int32).toInt = 0 := by decide
  have e1 : z.toNatClampNeg = n := by show z.toInt.toNat = n; rw [hz]; rfl
  have hn : ¬ z < 0 := by rw [Int32.lt_iff_toInt_lt, e0, hz]; omega
  obtain ⟨T', h', cA, X', e', E', A', O', st⟩ := newR X hx hZ hown w1 w2 eT hg hd hs hn (by rw [e1]; exact hcap) hb hc hl
  exact ⟨T', h', _, rfl, X', e', E', own_AV.new A' e1 rfl, ⟨_, A'.1, O'⟩, st⟩
/-- the array over class C at a takes an object of C -/
def own_Ov (Z : State) (h : Heap) (a : Addr) (C : String) : Prop := ∃ cl : Cell, h[a]? = some cl ∧ Ovr Z cl.cls C
theorem own_Ov.keep {a : Addr} {C : String} {ws : List Addr} (O : own_Ov Z h a C) (K : Keep h h' ws) : own_Ov Z h' a C := by
  obtain ⟨cl, h1, h2⟩ := O
  obtain ⟨c', q1, q2, -, -⟩ := K.2.2 a cl h1
  exact ⟨c', q1, by rw [q2]; exact h2⟩
theorem own_Ov.sto {a y : Addr} {C : String} {ty : FieldType} {f : Nat → Value} (O : own_Ov Z h a C) (A : own_AV Z h a ty n f) (I : Ins Z h y C true) : Sto Z h a (.ref y) := by
  obtain ⟨cl, h1, h2⟩ := O
  obtain ⟨c2, A2, -⟩ := A
  cases h1.symm.trans A2.1
  exact Sto.of A2 h2 I
/-- clone() of an array -/
theorem own_clone {own ad : String} {index : Nat} {ty : FieldType} {f : Nat → Value} (X : Stand p l e R s m args below meth c T locs cells slots) (hx : p.tables.exec = Jvm.exec) (hZ : Z.Warmed39 s.vm) (hown : s.vm.findClass own = some m.cls)
    (w1 : (Jvm.Cond.methodLink own index ⟨ad, "clone", "()Ljava/lang/Object;"⟩).before a0 Z = true) (w2 : (Jvm.Cond.sameMethod ad "java/lang/Object" "clone" "()Ljava/lang/Object;").before a0 Z = true) (w3 : (Jvm.Cond.native ⟨"java/lang/Object", "clone", "()Ljava/lang/Object;"⟩).before a0 Z = true)
    (w4 : (Jvm.Cond.instanceMethod ⟨"java/lang/Object", "clone", "()Ljava/lang/Object;"⟩).before a0 Z = true) (w5 : (Jvm.Cond.selects ad ⟨ad, "clone", "()Ljava/lang/Object;"⟩ ⟨"java/lang/Object", "clone", "()Ljava/lang/Object;"⟩).before a0 Z = true) (w6 : (Jvm.Cond.castable ad "java/lang/Cloneable").before a0 Z = true)
    (eT : T.heap = h) (A : own_AV Z h a ty n f) (E : Exa Z h a ad) (hg : g.method = m) (hsize : g.locals.size = c.maxLocals) (hs : g.stack = .ref a :: rest) (hd : decode c.code g.pc = .ok (.invokevirtual index, 3))
    (hf : 1 ≤ R.frames) {W : Nat} (hW : 2 * g.monitorRoom + (rest.map fun v => v.category).sum ≤ W) (hl : W + 14 ≤ R.locals) (hc : cells + 1 ≤ R.cells) (hsl : slots + n ≤ R.slots) :
    ∃ T' h' b, b = h.size ∧ Stand p l e R s m args below meth c T' locs (cells + 1) (slots + n) ∧ T'.heap = h' ∧ Ext h h' ∧ own_AV Z h' b ty n f ∧ Exa Z h' b ad ∧ ∀ t, Steps p.tables e below (T'.setTop { g with pc := g.pc + 3, stack := .ref b :: rest }) t → Steps p.tables e below (T.setTop g) t := by
  obtain ⟨cl, A1, S, H, G⟩ := A
  have F : FitC Z cl := fitC_of A1 fun i hi v hv => by
    rw [S] at hi
    rw [H i hi] at hv
    cases hv
    exact G i hi
  obtain ⟨T', h', X', e', E', A', E2, st⟩ := cloneA X hx hZ hown w1 w2 w3 w4 w5 w6 eT A1 E F hg hsize hs hd hf hW hl (Nat.le_of_eq S) hc hsl
  exact ⟨T', h', _, rfl, X', e', E', ⟨_, A', S, H, G⟩, E2, st⟩
end Rd
end Own
end Jvm.RoadKit
namespace Jvm.Pilot.@@N@@
open Jvm Jvm.ClassFile Sem Op Lib Jvm.Free Jvm.Stand Jvm.LawKit Jvm.RoadKit Bundle Jvm.Pilot.@@N@@.Jvm.D
theorem own_d1_0 : decode prog_31_method_5_code 0 = .ok (.iload_n 0, 1) := by decide +kernel
theorem own_d1_1 : decode prog_31_method_5_code 1 = .ok (.getstatic 67, 3) := by decide +kernel
theorem own_d1_4 : decode prog_31_method_5_code 4 = .ok (.arraylength, 1) := by decide +kernel
theorem own_d1_5 : decode prog_31_method_5_code 5 = .ok (.if_icmp .ge 15, 3) := by decide +kernel
theorem own_d1_8 : decode prog_31_method_5_code 8 = .ok (.getstatic 67, 3) := by decide +kernel
theorem own_d1_11 : decode prog_31_method_5_code 11 = .ok (.iload_n 0, 1) := by decide +kernel
theorem own_d1_12 : decode prog_31_method_5_code 12 = .ok (.baload, 1) := by decide +kernel
theorem own_d1_13 : decode prog_31_method_5_code 13 = .ok (.ifCond .eq 7, 3) := by decide +kernel
theorem own_d1_16 : decode prog_31_method_5_code 16 = .ok (.iconst 1, 1) := by decide +kernel
theorem own_d1_17 : decode prog_31_method_5_code 17 = .ok (.goto 4, 3) := by decide +kernel
theorem own_d1_20 : decode prog_31_method_5_code 20 = .ok (.iconst 0, 1) := by decide +kernel
theorem own_d1_21 : decode prog_31_method_5_code 21 = .ok (.ireturn, 1) := by decide +kernel
def own_un (x : Int32) (f : Nat → Int32) : Int32 := if x < (128 : Int32) then (if f x.toInt.toNat = (0 : Int32) then (0 : Int32) else (1 : Int32)) else (0 : Int32)
theorem own_un01 (x : Int32) (f : Nat → Int32) : own_un x f = 0 ∨ own_un x f = 1 := by
  unfold own_un; repeat' (first | exact Or.inl rfl | exact Or.inr rfl | split)
theorem own_ix (x : Int32) (h : 0 ≤ x.toInt) (q : x < (128 : Int32)) : x.toInt = ((x.toInt.toNat : Nat) : Int) ∧ x.toInt.toNat < 128 := by
  have e : (128 : Int32).toInt = 128 := by decide
  rw [Int32.lt_iff_toInt_lt, e] at q
  omega
theorem own_pn0 : plainName "dev/countersign/core/PercentEncoding" = true := by first | (simp [plainName, overriddenIn]; done) | decide +kernel
theorem own_efun (m : MethodId) (x : Int32) : entryFrame m #[(.int x)] 1 = mkF m 0 #[iv x] [] := by first | (simp [entryFrame, mkF, argsToLocals, Value.category]; done) | rfl
set_option maxRecDepth 65536 in
set_option maxHeartbeats 40000000 in
theorem own_rmun (l : Launch) (Z : State) (a0 : Array Value) (hw : ∀ d ∈ tables_1, d.before a0 Z = true) (x : Int32) (a : Addr) (f : Nat → Int32) (h0 : Heap) (n0 : Nat) (Z0 : n0 ≤ h0.size) (S : Sta Z h0 "dev/countersign/core/PercentEncoding" "UNRESERVED" "[Z" (.ref a)) (A : own_AI Z h0 a .boolean 128 f) (hx0 : 0 ≤ x.toInt) :
    own_Ct l Z (⟨"dev/countersign/core/PercentEncoding", "isUnreserved", "(I)Z"⟩ : MethodName) prog_31_method_5_code 1 (some .boolean) ({ frames := 0, cells := 0, slots := 0, locals := 0 } : Room) #[(.int x)] h0 (fun v h L => v = some (.int (own_un x f)) ∧ Fr n0 L ∧ h = h0) := by
  refine own_body (y := (⟨"dev/countersign/core/PercentEncoding", "isUnreserved", "(I)Z"⟩ : MethodName)) (Q := fun v h L => v = some (.int (own_un x f)) ∧ Fr n0 L ∧ h = h0) (plainFor_of_name own_pn0) ?_
  intro p e s m below meth c s₁ Bd hml0 hZ e0
  have hx := Bd.exec
  have hby := Bd.bytes
  have hml : c.maxLocals = 1 := hml0
  have hown : s.vm.findClass "dev/countersign/core/PercentEncoding" = some m.cls := findClass_of_methodNamed Bd.named
  have hnm := (name_of_methodNamed Bd.named Bd.method).1
  have X0 : Stand p l e ({ frames := 0, cells := 0, slots := 0, locals := 0 } : Room) s m #[(.int x)] below meth c s₁ [] 0 0 := Stand.of_body Bd
  have N0 := Fr.nil n0
  rw [own_efun]
  have sg1 : own_V p e below s₁ (mkF m 1 #[iv x] [(.int x)]) (mkF m 0 #[iv x] []) := by
    intro t kt
    refine XS.iloadN X0.here hx rfl (hb hby own_d1_0) rfl ?_
    show own_S p e below s₁ m 1 #[iv x] [(.int x)] _
    exact kt
  refine own_st sg1 ?_
  obtain ⟨T2, X2, e2, st2⟩ := getS2 X0 hx hZ hown (host := "") (Or.inl (hw _ (List.mem_of_getElem? (i := 5) rfl))) Via.refl e0 S (g := (mkF m 1 #[iv x] [(.int x)])) rfl (hb hby own_d1_1)
  refine own_st st2 ?_
  show own_Go p e below _ T2 (mkF m 4 #[iv x] [(.ref a), (.int x)])
  have sg3 : own_V p e below T2 (mkF m 5 #[iv x] [(.int (128 : Int32)), (.int x)]) (mkF m 4 #[iv x] [(.ref a), (.int x)]) := by
    intro t kt
    refine own_len (z := (128 : Int32)) X2 hx hZ e2 A (by decide) (g := (mkF m 4 #[iv x] [(.ref a), (.int x)])) rfl rfl (hb hby own_d1_4) _ ?_
    show own_S p e below T2 m 5 #[iv x] [(.int (128 : Int32)), (.int x)] _
    exact kt
  refine own_st sg3 ?_
  by_cases hc4 : x < (128 : Int32)
  · skip
    have sg5 : own_V p e below T2 (mkF m 8 #[iv x] []) (mkF m 5 #[iv x] [(.int (128 : Int32)), (.int x)]) := by
      intro t kt
      refine XS.icmpNo X2.here hx rfl (hb hby own_d1_5) rfl (tlt hc4).2.1 ?_
      exact kt
    refine own_st sg5 ?_
    obtain ⟨T6, X6, e6, st6⟩ := getS2 X2 hx hZ hown (host := "") (Or.inl (hw _ (List.mem_of_getElem? (i := 5) rfl))) Via.refl e2 S (g := (mkF m 8 #[iv x] [])) rfl (hb hby own_d1_8)
    refine own_st st6 ?_
    show own_Go p e below _ T6 (mkF m 11 #[iv x] [(.ref a)])
    obtain ⟨r, hr⟩ : ∃ z : Int32, z = (if (f x.toInt.toNat) = (0 : Int32) then (0 : Int32) else (1 : Int32)) := ⟨_, rfl⟩
    have sg8 : own_V p e below T6 (mkF m 21 #[iv x] [(.int r)]) (mkF m 11 #[iv x] [(.ref a)]) := by
      intro t kt
      refine XS.iloadN X6.here hx rfl (hb hby own_d1_11) rfl ?_
      show own_S p e below T6 m 12 #[iv x] [(.int x), (.ref a)] _
      refine own_rdZ X6 hx hZ e6 A (own_ix x hx0 hc4).1 (own_ix x hx0 hc4).2 (g := (mkF m 12 #[iv x] [(.int x), (.ref a)])) rfl rfl (hb hby own_d1_12) _ ?_
      show own_S p e below T6 m 13 #[iv x] [(.int (f x.toInt.toNat))] _
      by_cases hc7 : (f x.toInt.toNat) = (0 : Int32)
      · refine XS.ifYes X6.here hx rfl (pc0 := 13) (pc' := 20) rfl (hb hby own_d1_13) rfl ((if0 _ _).trans (teq hc7).1) (by decide) (by decide) ?_
        show own_S p e below T6 m 20 #[iv x] [] _
        refine XS.iconst X6.here hx rfl (hb hby own_d1_20) ?_
        show own_S p e below T6 m 21 #[iv x] [(.int (0 : Int32))] _
        rw [show r = (0 : Int32) from by rw [hr, if_pos hc7]] at kt
        exact kt
      · refine XS.ifNo X6.here hx rfl (hb hby own_d1_13) rfl ((if0 _ _).trans (feq hc7).1) ?_
        show own_S p e below T6 m 16 #[iv x] [] _
        refine XS.iconst X6.here hx rfl (hb hby own_d1_16) ?_
        show own_S p e below T6 m 17 #[iv x] [(.int (1 : Int32))] _
        refine XS.goto X6.here hx rfl (pc0 := 17) (pc' := 21) rfl (hb hby own_d1_17) (by decide) (by decide) ?_
        show own_S p e below T6 m 21 #[iv x] [(.int (1 : Int32))] _
        rw [show r = (1 : Int32) from by rw [hr, if_neg hc7]] at kt
        exact kt
    refine own_st sg8 ?_
    have hrr : r = own_un x f := by rw [hr]; unfold own_un; rw [if_pos hc4]
    exact own_retZ X6 hx Bd.notSynchronized Bd.returns (hb hby own_d1_21) (hrr ▸ own_un01 x f) (by decide) (by decide) e6 ⟨by rw [hrr], N0, rfl⟩
  have sg9 : own_V p e below T2 (mkF m 20 #[iv x] []) (mkF m 5 #[iv x] [(.int (128 : Int32)), (.int x)]) := by
    intro t kt
    refine XS.icmpYes X2.here hx rfl (pc0 := 5) (pc' := 20) rfl (hb hby own_d1_5) rfl (flt hc4).2.1 (by decide) (by decide) ?_
    exact kt
  refine own_st sg9 ?_
  have sg10 : own_V p e below T2 (mkF m 21 #[iv x] [(.int (0 : Int32))]) (mkF m 20 #[iv x] []) := by
    intro t kt
    refine XS.iconst X2.here hx rfl (hb hby own_d1_20) ?_
    show own_S p e below T2 m 21 #[iv x] [(.int (0 : Int32))] _
    exact kt
  refine own_st sg10 ?_
  have hrr : (0 : Int32) = own_un x f := by unfold own_un; rw [if_neg hc4]
  exact own_retZ X2 hx Bd.notSynchronized Bd.returns (hb hby own_d1_21) (hrr ▸ own_un01 x f) (by decide) (by decide) e2 ⟨by rw [hrr], N0, rfl⟩
theorem own_d2_0 : decode method_2_code 0 = .ok (.iload_n 0, 1) := by decide +kernel
theorem own_d2_1 : decode method_2_code 1 = .ok (.bipush 97, 2) := by decide +kernel
theorem own_d2_3 : decode method_2_code 3 = .ok (.if_icmp .lt 11, 3) := by decide +kernel
theorem own_d2_6 : decode method_2_code 6 = .ok (.iload_n 0, 1) := by decide +kernel
theorem own_d2_7 : decode method_2_code 7 = .ok (.bipush 122, 2) := by decide +kernel
theorem own_d2_9 : decode method_2_code 9 = .ok (.if_icmp .gt 5, 3) := by decide +kernel
theorem own_d2_12 : decode method_2_code 12 = .ok (.iconst 1, 1) := by decide +kernel
theorem own_d2_13 : decode method_2_code 13 = .ok (.ireturn, 1) := by decide +kernel
theorem own_d2_14 : decode method_2_code 14 = .ok (.iload_n 0, 1) := by decide +kernel
theorem own_d2_15 : decode method_2_code 15 = .ok (.bipush 65, 2) := by decide +kernel
theorem own_d2_17 : decode method_2_code 17 = .ok (.if_icmp .lt 11, 3) := by decide +kernel
theorem own_d2_20 : decode method_2_code 20 = .ok (.iload_n 0, 1) := by decide +kernel
theorem own_d2_21 : decode method_2_code 21 = .ok (.bipush 90, 2) := by decide +kernel
theorem own_d2_23 : decode method_2_code 23 = .ok (.if_icmp .gt 5, 3) := by decide +kernel
theorem own_d2_26 : decode method_2_code 26 = .ok (.iconst 1, 1) := by decide +kernel
theorem own_d2_27 : decode method_2_code 27 = .ok (.ireturn, 1) := by decide +kernel
theorem own_d2_28 : decode method_2_code 28 = .ok (.iload_n 0, 1) := by decide +kernel
theorem own_d2_29 : decode method_2_code 29 = .ok (.bipush 48, 2) := by decide +kernel
theorem own_d2_31 : decode method_2_code 31 = .ok (.if_icmp .lt 11, 3) := by decide +kernel
theorem own_d2_34 : decode method_2_code 34 = .ok (.iload_n 0, 1) := by decide +kernel
theorem own_d2_35 : decode method_2_code 35 = .ok (.bipush 57, 2) := by decide +kernel
theorem own_d2_37 : decode method_2_code 37 = .ok (.if_icmp .gt 5, 3) := by decide +kernel
theorem own_d2_40 : decode method_2_code 40 = .ok (.iconst 1, 1) := by decide +kernel
theorem own_d2_41 : decode method_2_code 41 = .ok (.ireturn, 1) := by decide +kernel
theorem own_d2_42 : decode method_2_code 42 = .ok (.iload_n 0, 1) := by decide +kernel
theorem own_d2_43 : decode method_2_code 43 = .ok (.bipush 45, 2) := by decide +kernel
theorem own_d2_45 : decode method_2_code 45 = .ok (.if_icmp .eq 21, 3) := by decide +kernel
theorem own_d2_48 : decode method_2_code 48 = .ok (.iload_n 0, 1) := by decide +kernel
theorem own_d2_49 : decode method_2_code 49 = .ok (.bipush 46, 2) := by decide +kernel
theorem own_d2_51 : decode method_2_code 51 = .ok (.if_icmp .eq 15, 3) := by decide +kernel
theorem own_d2_54 : decode method_2_code 54 = .ok (.iload_n 0, 1) := by decide +kernel
theorem own_d2_55 : decode method_2_code 55 = .ok (.bipush 95, 2) := by decide +kernel
theorem own_d2_57 : decode method_2_code 57 = .ok (.if_icmp .eq 9, 3) := by decide +kernel
theorem own_d2_60 : decode method_2_code 60 = .ok (.iload_n 0, 1) := by decide +kernel
theorem own_d2_61 : decode method_2_code 61 = .ok (.bipush 126, 2) := by decide +kernel
theorem own_d2_63 : decode method_2_code 63 = .ok (.if_icmp .ne 7, 3) := by decide +kernel
theorem own_d2_66 : decode method_2_code 66 = .ok (.iconst 1, 1) := by decide +kernel
theorem own_d2_67 : decode method_2_code 67 = .ok (.goto 4, 3) := by decide +kernel
theorem own_d2_70 : decode method_2_code 70 = .ok (.iconst 0, 1) := by decide +kernel
theorem own_d2_71 : decode method_2_code 71 = .ok (.ireturn, 1) := by decide +kernel
def own_ref (x : Int32) : Int32 := (if x < (97 : Int32) then (if x < (65 : Int32) then (if x < (48 : Int32) then (if x = (45 : Int32) then (1 : Int32) else (if x = (46 : Int32) then (1 : Int32) else (if x = (95 : Int32) then (1 : Int32) else (if x = (126 : Int32) then (1 : Int32) else (0 : Int32))))) else (if (57 : Int32) < x then (if x = (45 : Int32) then (1 : Int32) else (if x = (46 : Int32) then (1 : Int32) else (if x = (95 : Int32) then (1 : Int32) else (if x = (126 : Int32) then (1 : Int32) else (0 : Int32))))) else (1 : Int32))) else (if (90 : Int32) < x then (if x < (48 : Int32) then (if x = (45 : Int32) then (1 : Int32) else (if x = (46 : Int32) then (1 : Int32) else (if x = (95 : Int32) then (1 : Int32) else (if x = (126 : Int32) then (1 : Int32) else (0 : Int32))))) else (if (57 : Int32) < x then (if x = (45 : Int32) then (1 : Int32) else (if x = (46 : Int32) then (1 : Int32) else (if x = (95 : Int32) then (1 : Int32) else (if x = (126 : Int32) then (1 : Int32) else (0 : Int32))))) else (1 : Int32))) else (1 : Int32))) else (if (122 : Int32) < x then (if x < (65 : Int32) then (if x < (48 : Int32) then (if x = (45 : Int32) then (1 : Int32) else (if x = (46 : Int32) then (1 : Int32) else (if x = (95 : Int32) then (1 : Int32) else (if x = (126 : Int32) then (1 : Int32) else (0 : Int32))))) else (if (57 : Int32) < x then (if x = (45 : Int32) then (1 : Int32) else (if x = (46 : Int32) then (1 : Int32) else (if x = (95 : Int32) then (1 : Int32) else (if x = (126 : Int32) then (1 : Int32) else (0 : Int32))))) else (1 : Int32))) else (if (90 : Int32) < x then (if x < (48 : Int32) then (if x = (45 : Int32) then (1 : Int32) else (if x = (46 : Int32) then (1 : Int32) else (if x = (95 : Int32) then (1 : Int32) else (if x = (126 : Int32) then (1 : Int32) else (0 : Int32))))) else (if (57 : Int32) < x then (if x = (45 : Int32) then (1 : Int32) else (if x = (46 : Int32) then (1 : Int32) else (if x = (95 : Int32) then (1 : Int32) else (if x = (126 : Int32) then (1 : Int32) else (0 : Int32))))) else (1 : Int32))) else (1 : Int32))) else (1 : Int32)))
theorem own_ref01 (x : Int32) : own_ref x = 0 ∨ own_ref x = 1 := by
  unfold own_ref; repeat' (first | exact Or.inl rfl | exact Or.inr rfl | split)
theorem own_pn1 : plainName "dev/countersign/core/PercentEncodingIsUnreservedPinLaw" = true := by first | (simp [plainName, overriddenIn]; done) | decide +kernel
theorem own_efref (m : MethodId) (x : Int32) : entryFrame m #[(.int x)] 1 = mkF m 0 #[iv x] [] := by first | (simp [entryFrame, mkF, argsToLocals, Value.category]; done) | rfl
set_option maxRecDepth 65536 in
set_option maxHeartbeats 40000000 in
theorem own_rmref (l : Launch) (Z : State) (a0 : Array Value) (hw : ∀ d ∈ tables_1, d.before a0 Z = true) (x : Int32) (h0 : Heap) (n0 : Nat) (Z0 : n0 ≤ h0.size) :
    own_Ct l Z (⟨"dev/countersign/core/PercentEncodingIsUnreservedPinLaw", "reference", "(I)Z"⟩ : MethodName) method_2_code 1 (some .boolean) ({ frames := 0, cells := 0, slots := 0, locals := 0 } : Room) #[(.int x)] h0 (fun v h L => v = some (.int (own_ref x)) ∧ Fr n0 L ∧ h = h0) := by
  refine own_body (y := (⟨"dev/countersign/core/PercentEncodingIsUnreservedPinLaw", "reference", "(I)Z"⟩ : MethodName)) (Q := fun v h L => v = some (.int (own_ref x)) ∧ Fr n0 L ∧ h = h0) (plainFor_of_name own_pn1) ?_
  intro p e s m below meth c s₁ Bd hml0 hZ e0
  have hx := Bd.exec
  have hby := Bd.bytes
  have hml : c.maxLocals = 1 := hml0
  have hown : s.vm.findClass "dev/countersign/core/PercentEncodingIsUnreservedPinLaw" = some m.cls := findClass_of_methodNamed Bd.named
  have hnm := (name_of_methodNamed Bd.named Bd.method).1
  have X0 : Stand p l e ({ frames := 0, cells := 0, slots := 0, locals := 0 } : Room) s m #[(.int x)] below meth c s₁ [] 0 0 := Stand.of_body Bd
  have N0 := Fr.nil n0
  rw [own_efref]
  have sg47 : own_V p e below s₁ (mkF m 3 #[iv x] [(.int (97 : Int32)), (.int x)]) (mkF m 0 #[iv x] []) := by
    intro t kt
    refine XS.iloadN X0.here hx rfl (hb hby own_d2_0) rfl ?_
    show own_S p e below s₁ m 1 #[iv x] [(.int x)] _
    refine XS.bipush X0.here hx rfl (hb hby own_d2_1) ?_
    show own_S p e below s₁ m 3 #[iv x] [(.int (97 : Int32)), (.int x)] _
    exact kt
  refine own_st sg47 ?_
  by_cases hc48 : x < (97 : Int32)
  · skip
    have sg49 : own_V p e below s₁ (mkF m 14 #[iv x] []) (mkF m 3 #[iv x] [(.int (97 : Int32)), (.int x)]) := by
      intro t kt
      refine XS.icmpYes X0.here hx rfl (pc0 := 3) (pc' := 14) rfl (hb hby own_d2_3) rfl (tlt hc48).1 (by decide) (by decide) ?_
      exact kt
    refine own_st sg49 ?_
    have sg50 : own_V p e below s₁ (mkF m 17 #[iv x] [(.int (65 : Int32)), (.int x)]) (mkF m 14 #[iv x] []) := by
      intro t kt
      refine XS.iloadN X0.here hx rfl (hb hby own_d2_14) rfl ?_
      show own_S p e below s₁ m 15 #[iv x] [(.int x)] _
      refine XS.bipush X0.here hx rfl (hb hby own_d2_15) ?_
      show own_S p e below s₁ m 17 #[iv x] [(.int (65 : Int32)), (.int x)] _
      exact kt
    refine own_st sg50 ?_
    by_cases hc51 : x < (65 : Int32)
    · skip
      have sg52 : own_V p e below s₁ (mkF m 28 #[iv x] []) (mkF m 17 #[iv x] [(.int (65 : Int32)), (.int x)]) := by
        intro t kt
        refine XS.icmpYes X0.here hx rfl (pc0 := 17) (pc' := 28) rfl (hb hby own_d2_17) rfl (tlt hc51).1 (by decide) (by decide) ?_
        exact kt
      refine own_st sg52 ?_
      have sg53 : own_V p e below s₁ (mkF m 31 #[iv x] [(.int (48 : Int32)), (.int x)]) (mkF m 28 #[iv x] []) := by
        intro t kt
        refine XS.iloadN X0.here hx rfl (hb hby own_d2_28) rfl ?_
        show own_S p e below s₁ m 29 #[iv x] [(.int x)] _
        refine XS.bipush X0.here hx rfl (hb hby own_d2_29) ?_
        show own_S p e below s₁ m 31 #[iv x] [(.int (48 : Int32)), (.int x)] _
        exact kt
      refine own_st sg53 ?_
      by_cases hc54 : x < (48 : Int32)
      · skip
        have sg55 : own_V p e below s₁ (mkF m 42 #[iv x] []) (mkF m 31 #[iv x] [(.int (48 : Int32)), (.int x)]) := by
          intro t kt
          refine XS.icmpYes X0.here hx rfl (pc0 := 31) (pc' := 42) rfl (hb hby own_d2_31) rfl (tlt hc54).1 (by decide) (by decide) ?_
          exact kt
        refine own_st sg55 ?_
        have sg56 : own_V p e below s₁ (mkF m 45 #[iv x] [(.int (45 : Int32)), (.int x)]) (mkF m 42 #[iv x] []) := by
          intro t kt
          refine XS.iloadN X0.here hx rfl (hb hby own_d2_42) rfl ?_
          show own_S p e below s₁ m 43 #[iv x] [(.int x)] _
          refine XS.bipush X0.here hx rfl (hb hby own_d2_43) ?_
          show own_S p e below s₁ m 45 #[iv x] [(.int (45 : Int32)), (.int x)] _
          exact kt
        refine own_st sg56 ?_
        by_cases hc57 : x = (45 : Int32)
        · skip
          have sg58 : own_V p e below s₁ (mkF m 66 #[iv x] []) (mkF m 45 #[iv x] [(.int (45 : Int32)), (.int x)]) := by
            intro t kt
            refine XS.icmpYes X0.here hx rfl (pc0 := 45) (pc' := 66) rfl (hb hby own_d2_45) rfl (teq hc57).1 (by decide) (by decide) ?_
            exact kt
          refine own_st sg58 ?_
          have sg59 : own_V p e below s₁ (mkF m 71 #[iv x] [(.int (1 : Int32))]) (mkF m 66 #[iv x] []) := by
            intro t kt
            refine XS.iconst X0.here hx rfl (hb hby own_d2_66) ?_
            show own_S p e below s₁ m 67 #[iv x] [(.int (1 : Int32))] _
            refine XS.goto X0.here hx rfl (pc0 := 67) (pc' := 71) rfl (hb hby own_d2_67) (by decide) (by decide) ?_
            show own_S p e below s₁ m 71 #[iv x] [(.int (1 : Int32))] _
            exact kt
          refine own_st sg59 ?_
          have hF : (1 : Int32) = own_ref x := by unfold own_ref; rw [if_pos hc48, if_pos hc51, if_pos hc54, if_pos hc57]
          exact own_retZ X0 hx Bd.notSynchronized Bd.returns (hb hby own_d2_71) (hF ▸ own_ref01 x) (by decide) (by decide) e0 ⟨by rw [hF], N0, rfl⟩
        have sg60 : own_V p e below s₁ (mkF m 48 #[iv x] []) (mkF m 45 #[iv x] [(.int (45 : Int32)), (.int x)]) := by
          intro t kt
          refine XS.icmpNo X0.here hx rfl (hb hby own_d2_45) rfl (feq hc57).1 ?_
          exact kt
        refine own_st sg60 ?_
        have sg61 : own_V p e below s₁ (mkF m 51 #[iv x] [(.int (46 : Int32)), (.int x)]) (mkF m 48 #[iv x] []) := by
          intro t kt
          refine XS.iloadN X0.here hx rfl (hb hby own_d2_48) rfl ?_
          show own_S p e below s₁ m 49 #[iv x] [(.int x)] _
          refine XS.bipush X0.here hx rfl (hb hby own_d2_49) ?_
          show own_S p e below s₁ m 51 #[iv x] [(.int (46 : Int32)), (.int x)] _
          exact kt
        refine own_st sg61 ?_
        by_cases hc62 : x = (46 : Int32)
        · skip
          have sg63 : own_V p e below s₁ (mkF m 66 #[iv x] []) (mkF m 51 #[iv x] [(.int (46 : Int32)), (.int x)]) := by
            intro t kt
            refine XS.icmpYes X0.here hx rfl (pc0 := 51) (pc' := 66) rfl (hb hby own_d2_51) rfl (teq hc62).1 (by decide) (by decide) ?_
            exact kt
          refine own_st sg63 ?_
          have sg64 : own_V p e below s₁ (mkF m 71 #[iv x] [(.int (1 : Int32))]) (mkF m 66 #[iv x] []) := by
            intro t kt
            refine XS.iconst X0.here hx rfl (hb hby own_d2_66) ?_
            show own_S p e below s₁ m 67 #[iv x] [(.int (1 : Int32))] _
            refine XS.goto X0.here hx rfl (pc0 := 67) (pc' := 71) rfl (hb hby own_d2_67) (by decide) (by decide) ?_
            show own_S p e below s₁ m 71 #[iv x] [(.int (1 : Int32))] _
            exact kt
          refine own_st sg64 ?_
          have hF : (1 : Int32) = own_ref x := by unfold own_ref; rw [if_pos hc48, if_pos hc51, if_pos hc54, if_neg hc57, if_pos hc62]
          exact own_retZ X0 hx Bd.notSynchronized Bd.returns (hb hby own_d2_71) (hF ▸ own_ref01 x) (by decide) (by decide) e0 ⟨by rw [hF], N0, rfl⟩
        have sg65 : own_V p e below s₁ (mkF m 54 #[iv x] []) (mkF m 51 #[iv x] [(.int (46 : Int32)), (.int x)]) := by
          intro t kt
          refine XS.icmpNo X0.here hx rfl (hb hby own_d2_51) rfl (feq hc62).1 ?_
          exact kt
        refine own_st sg65 ?_
        have sg66 : own_V p e below s₁ (mkF m 57 #[iv x] [(.int (95 : Int32)), (.int x)]) (mkF m 54 #[iv x] []) := by
          intro t kt
          refine XS.iloadN X0.here hx rfl (hb hby own_d2_54) rfl ?_
          show own_S p e below s₁ m 55 #[iv x] [(.int x)] _
          refine XS.bipush X0.here hx rfl (hb hby own_d2_55) ?_
          show own_S p e below s₁ m 57 #[iv x] [(.int (95 : Int32)), (.int x)] _
          exact kt
        refine own_st sg66 ?_
        by_cases hc67 : x = (95 : Int32)
        · skip
          have sg68 : own_V p e below s₁ (mkF m 66 #[iv x] []) (mkF m 57 #[iv x] [(.int (95 : Int32)), (.int x)]) := by
            intro t kt
            refine XS.icmpYes X0.here hx rfl (pc0 := 57) (pc' := 66) rfl (hb hby own_d2_57) rfl (teq hc67).1 (by decide) (by decide) ?_
            exact kt
          refine own_st sg68 ?_
          have sg69 : own_V p e below s₁ (mkF m 71 #[iv x] [(.int (1 : Int32))]) (mkF m 66 #[iv x] []) := by
            intro t kt
            refine XS.iconst X0.here hx rfl (hb hby own_d2_66) ?_
            show own_S p e below s₁ m 67 #[iv x] [(.int (1 : Int32))] _
            refine XS.goto X0.here hx rfl (pc0 := 67) (pc' := 71) rfl (hb hby own_d2_67) (by decide) (by decide) ?_
            show own_S p e below s₁ m 71 #[iv x] [(.int (1 : Int32))] _
            exact kt
          refine own_st sg69 ?_
          have hF : (1 : Int32) = own_ref x := by unfold own_ref; rw [if_pos hc48, if_pos hc51, if_pos hc54, if_neg hc57, if_neg hc62, if_pos hc67]
          exact own_retZ X0 hx Bd.notSynchronized Bd.returns (hb hby own_d2_71) (hF ▸ own_ref01 x) (by decide) (by decide) e0 ⟨by rw [hF], N0, rfl⟩
        have sg70 : own_V p e below s₁ (mkF m 60 #[iv x] []) (mkF m 57 #[iv x] [(.int (95 : Int32)), (.int x)]) := by
          intro t kt
          refine XS.icmpNo X0.here hx rfl (hb hby own_d2_57) rfl (feq hc67).1 ?_
          exact kt
        refine own_st sg70 ?_
        have sg71 : own_V p e below s₁ (mkF m 63 #[iv x] [(.int (126 : Int32)), (.int x)]) (mkF m 60 #[iv x] []) := by
          intro t kt
          refine XS.iloadN X0.here hx rfl (hb hby own_d2_60) rfl ?_
          show own_S p e below s₁ m 61 #[iv x] [(.int x)] _
          refine XS.bipush X0.here hx rfl (hb hby own_d2_61) ?_
          show own_S p e below s₁ m 63 #[iv x] [(.int (126 : Int32)), (.int x)] _
          exact kt
        refine own_st sg71 ?_
        by_cases hc72 : x = (126 : Int32)
        · skip
          have sg73 : own_V p e below s₁ (mkF m 66 #[iv x] []) (mkF m 63 #[iv x] [(.int (126 : Int32)), (.int x)]) := by
            intro t kt
            refine XS.icmpNo X0.here hx rfl (hb hby own_d2_63) rfl (teq hc72).2 ?_
            exact kt
          refine own_st sg73 ?_
          have sg74 : own_V p e below s₁ (mkF m 71 #[iv x] [(.int (1 : Int32))]) (mkF m 66 #[iv x] []) := by
            intro t kt
            refine XS.iconst X0.here hx rfl (hb hby own_d2_66) ?_
            show own_S p e below s₁ m 67 #[iv x] [(.int (1 : Int32))] _
            refine XS.goto X0.here hx rfl (pc0 := 67) (pc' := 71) rfl (hb hby own_d2_67) (by decide) (by decide) ?_
            show own_S p e below s₁ m 71 #[iv x] [(.int (1 : Int32))] _
            exact kt
          refine own_st sg74 ?_
          have hF : (1 : Int32) = own_ref x := by unfold own_ref; rw [if_pos hc48, if_pos hc51, if_pos hc54, if_neg hc57, if_neg hc62, if_neg hc67, if_pos hc72]
          exact own_retZ X0 hx Bd.notSynchronized Bd.returns (hb hby own_d2_71) (hF ▸ own_ref01 x) (by decide) (by decide) e0 ⟨by rw [hF], N0, rfl⟩
        have sg75 : own_V p e below s₁ (mkF m 70 #[iv x] []) (mkF m 63 #[iv x] [(.int (126 : Int32)), (.int x)]) := by
          intro t kt
          refine XS.icmpYes X0.here hx rfl (pc0 := 63) (pc' := 70) rfl (hb hby own_d2_63) rfl (feq hc72).2 (by decide) (by decide) ?_
          exact kt
        refine own_st sg75 ?_
        have sg76 : own_V p e below s₁ (mkF m 71 #[iv x] [(.int (0 : Int32))]) (mkF m 70 #[iv x] []) := by
          intro t kt
          refine XS.iconst X0.here hx rfl (hb hby own_d2_70) ?_
          show own_S p e below s₁ m 71 #[iv x] [(.int (0 : Int32))] _
          exact kt
        refine own_st sg76 ?_
        have hF : (0 : Int32) = own_ref x := by unfold own_ref; rw [if_pos hc48, if_pos hc51, if_pos hc54, if_neg hc57, if_neg hc62, if_neg hc67, if_neg hc72]
        exact own_retZ X0 hx Bd.notSynchronized Bd.returns (hb hby own_d2_71) (hF ▸ own_ref01 x) (by decide) (by decide) e0 ⟨by rw [hF], N0, rfl⟩
      have sg77 : own_V p e below s₁ (mkF m 34 #[iv x] []) (mkF m 31 #[iv x] [(.int (48 : Int32)), (.int x)]) := by
        intro t kt
        refine XS.icmpNo X0.here hx rfl (hb hby own_d2_31) rfl (flt hc54).1 ?_
        exact kt
      refine own_st sg77 ?_
      have sg78 : own_V p e below s₁ (mkF m 37 #[iv x] [(.int (57 : Int32)), (.int x)]) (mkF m 34 #[iv x] []) := by
        intro t kt
        refine XS.iloadN X0.here hx rfl (hb hby own_d2_34) rfl ?_
        show own_S p e below s₁ m 35 #[iv x] [(.int x)] _
        refine XS.bipush X0.here hx rfl (hb hby own_d2_35) ?_
        show own_S p e below s₁ m 37 #[iv x] [(.int (57 : Int32)), (.int x)] _
        exact kt
      refine own_st sg78 ?_
      by_cases hc79 : (57 : Int32) < x
      · skip
        have sg80 : own_V p e below s₁ (mkF m 42 #[iv x] []) (mkF m 37 #[iv x] [(.int (57 : Int32)), (.int x)]) := by
          intro t kt
          refine XS.icmpYes X0.here hx rfl (pc0 := 37) (pc' := 42) rfl (hb hby own_d2_37) rfl (tlt hc79).2.2.1 (by decide) (by decide) ?_
          exact kt
        refine own_st sg80 ?_
        have sg81 : own_V p e below s₁ (mkF m 45 #[iv x] [(.int (45 : Int32)), (.int x)]) (mkF m 42 #[iv x] []) := by
          intro t kt
          refine XS.iloadN X0.here hx rfl (hb hby own_d2_42) rfl ?_
          show own_S p e below s₁ m 43 #[iv x] [(.int x)] _
          refine XS.bipush X0.here hx rfl (hb hby own_d2_43) ?_
          show own_S p e below s₁ m 45 #[iv x] [(.int (45 : Int32)), (.int x)] _
          exact kt
        refine own_st sg81 ?_
        by_cases hc82 : x = (45 : Int32)
        · skip
          have sg83 : own_V p e below s₁ (mkF m 66 #[iv x] []) (mkF m 45 #[iv x] [(.int (45 : Int32)), (.int x)]) := by
            intro t kt
            refine XS.icmpYes X0.here hx rfl (pc0 := 45) (pc' := 66) rfl (hb hby own_d2_45) rfl (teq hc82).1 (by decide) (by decide) ?_
            exact kt
          refine own_st sg83 ?_
          have sg84 : own_V p e below s₁ (mkF m 71 #[iv x] [(.int (1 : Int32))]) (mkF m 66 #[iv x] []) := by
            intro t kt
            refine XS.iconst X0.here hx rfl (hb hby own_d2_66) ?_
            show own_S p e below s₁ m 67 #[iv x] [(.int (1 : Int32))] _
            refine XS.goto X0.here hx rfl (pc0 := 67) (pc' := 71) rfl (hb hby own_d2_67) (by decide) (by decide) ?_
            show own_S p e below s₁ m 71 #[iv x] [(.int (1 : Int32))] _
            exact kt
          refine own_st sg84 ?_
          have hF : (1 : Int32) = own_ref x := by unfold own_ref; rw [if_pos hc48, if_pos hc51, if_neg hc54, if_pos hc79, if_pos hc82]
          exact own_retZ X0 hx Bd.notSynchronized Bd.returns (hb hby own_d2_71) (hF ▸ own_ref01 x) (by decide) (by decide) e0 ⟨by rw [hF], N0, rfl⟩
        have sg85 : own_V p e below s₁ (mkF m 48 #[iv x] []) (mkF m 45 #[iv x] [(.int (45 : Int32)), (.int x)]) := by
          intro t kt
          refine XS.icmpNo X0.here hx rfl (hb hby own_d2_45) rfl (feq hc82).1 ?_
          exact kt
        refine own_st sg85 ?_
        have sg86 : own_V p e below s₁ (mkF m 51 #[iv x] [(.int (46 : Int32)), (.int x)]) (mkF m 48 #[iv x] []) := by
          intro t kt
          refine XS.iloadN X0.here hx rfl (hb hby own_d2_48) rfl ?_
          show own_S p e below s₁ m 49 #[iv x] [(.int x)] _
          refine XS.bipush X0.here hx rfl (hb hby own_d2_49) ?_
          show own_S p e below s₁ m 51 #[iv x] [(.int (46 : Int32)), (.int x)] _
          exact kt
        refine own_st sg86 ?_
        by_cases hc87 : x = (46 : Int32)
        · skip
          have sg88 : own_V p e below s₁ (mkF m 66 #[iv x] []) (mkF m 51 #[iv x] [(.int (46 : Int32)), (.int x)]) := by
            intro t kt
            refine XS.icmpYes X0.here hx rfl (pc0 := 51) (pc' := 66) rfl (hb hby own_d2_51) rfl (teq hc87).1 (by decide) (by decide) ?_
            exact kt
          refine own_st sg88 ?_
          have sg89 : own_V p e below s₁ (mkF m 71 #[iv x] [(.int (1 : Int32))]) (mkF m 66 #[iv x] []) := by
            intro t kt
            refine XS.iconst X0.here hx rfl (hb hby own_d2_66) ?_
            show own_S p e below s₁ m 67 #[iv x] [(.int (1 : Int32))] _
            refine XS.goto X0.here hx rfl (pc0 := 67) (pc' := 71) rfl (hb hby own_d2_67) (by decide) (by decide) ?_
            show own_S p e below s₁ m 71 #[iv x] [(.int (1 : Int32))] _
            exact kt
          refine own_st sg89 ?_
          have hF : (1 : Int32) = own_ref x := by unfold own_ref; rw [if_pos hc48, if_pos hc51, if_neg hc54, if_pos hc79, if_neg hc82, if_pos hc87]
          exact own_retZ X0 hx Bd.notSynchronized Bd.returns (hb hby own_d2_71) (hF ▸ own_ref01 x) (by decide) (by decide) e0 ⟨by rw [hF], N0, rfl⟩
        have sg90 : own_V p e below s₁ (mkF m 54 #[iv x] []) (mkF m 51 #[iv x] [(.int (46 : Int32)), (.int x)]) := by
          intro t kt
          refine XS.icmpNo X0.here hx rfl (hb hby own_d2_51) rfl (feq hc87).1 ?_
          exact kt
        refine own_st sg90 ?_
        have sg91 : own_V p e below s₁ (mkF m 57 #[iv x] [(.int (95 : Int32)), (.int x)]) (mkF m 54 #[iv x] []) := by
          intro t kt
          refine XS.iloadN X0.here hx rfl (hb hby own_d2_54) rfl ?_
          show own_S p e below s₁ m 55 #[iv x] [(.int x)] _
          refine XS.bipush X0.here hx rfl (hb hby own_d2_55) ?_
          show own_S p e below s₁ m 57 #[iv x] [(.int (95 : Int32)), (.int x)] _
          exact kt
        refine own_st sg91 ?_
        by_cases hc92 : x = (95 : Int32)
        · skip
          have sg93 : own_V p e below s₁ (mkF m 66 #[iv x] []) (mkF m 57 #[iv x] [(.int (95 : Int32)), (.int x)]) := by
            intro t kt
            refine XS.icmpYes X0.here hx rfl (pc0 := 57) (pc' := 66) rfl (hb hby own_d2_57) rfl (teq hc92).1 (by decide) (by decide) ?_
            exact kt
          refine own_st sg93 ?_
          have sg94 : own_V p e below s₁ (mkF m 71 #[iv x] [(.int (1 : Int32))]) (mkF m 66 #[iv x] []) := by
            intro t kt
            refine XS.iconst X0.here hx rfl (hb hby own_d2_66) ?_
            show own_S p e below s₁ m 67 #[iv x] [(.int (1 : Int32))] _
            refine XS.goto X0.here hx rfl (pc0 := 67) (pc' := 71) rfl (hb hby own_d2_67) (by decide) (by decide) ?_
            show own_S p e below s₁ m 71 #[iv x] [(.int (1 : Int32))] _
            exact kt
          refine own_st sg94 ?_
          have hF : (1 : Int32) = own_ref x := by unfold own_ref; rw [if_pos hc48, if_pos hc51, if_neg hc54, if_pos hc79, if_neg hc82, if_neg hc87, if_pos hc92]
          exact own_retZ X0 hx Bd.notSynchronized Bd.returns (hb hby own_d2_71) (hF ▸ own_ref01 x) (by decide) (by decide) e0 ⟨by rw [hF], N0, rfl⟩
        have sg95 : own_V p e below s₁ (mkF m 60 #[iv x] []) (mkF m 57 #[iv x] [(.int (95 : Int32)), (.int x)]) := by
          intro t kt
          refine XS.icmpNo X0.here hx rfl (hb hby own_d2_57) rfl (feq hc92).1 ?_
          exact kt
        refine own_st sg95 ?_
        have sg96 : own_V p e below s₁ (mkF m 63 #[iv x] [(.int (126 : Int32)), (.int x)]) (mkF m 60 #[iv x] []) := by
          intro t kt
          refine XS.iloadN X0.here hx rfl (hb hby own_d2_60) rfl ?_
          show own_S p e below s₁ m 61 #[iv x] [(.int x)] _
          refine XS.bipush X0.here hx rfl (hb hby own_d2_61) ?_
          show own_S p e below s₁ m 63 #[iv x] [(.int (126 : Int32)), (.int x)] _
          exact kt
        refine own_st sg96 ?_
        by_cases hc97 : x = (126 : Int32)
        · skip
          have sg98 : own_V p e below s₁ (mkF m 66 #[iv x] []) (mkF m 63 #[iv x] [(.int (126 : Int32)), (.int x)]) := by
            intro t kt
            refine XS.icmpNo X0.here hx rfl (hb hby own_d2_63) rfl (teq hc97).2 ?_
            exact kt
          refine own_st sg98 ?_
          have sg99 : own_V p e below s₁ (mkF m 71 #[iv x] [(.int (1 : Int32))]) (mkF m 66 #[iv x] []) := by
            intro t kt
            refine XS.iconst X0.here hx rfl (hb hby own_d2_66) ?_
            show own_S p e below s₁ m 67 #[iv x] [(.int (1 : Int32))] _
            refine XS.goto X0.here hx rfl (pc0 := 67) (pc' := 71) rfl (hb hby own_d2_67) (by decide) (by decide) ?_
            show own_S p e below s₁ m 71 #[iv x] [(.int (1 : Int32))] _
            exact kt
          refine own_st sg99 ?_
          have hF : (1 : Int32) = own_ref x := by unfold own_ref; rw [if_pos hc48, if_pos hc51, if_neg hc54, if_pos hc79, if_neg hc82, if_neg hc87, if_neg hc92, if_pos hc97]
          exact own_retZ X0 hx Bd.notSynchronized Bd.returns (hb hby own_d2_71) (hF ▸ own_ref01 x) (by decide) (by decide) e0 ⟨by rw [hF], N0, rfl⟩
        have sg100 : own_V p e below s₁ (mkF m 70 #[iv x] []) (mkF m 63 #[iv x] [(.int (126 : Int32)), (.int x)]) := by
          intro t kt
          refine XS.icmpYes X0.here hx rfl (pc0 := 63) (pc' := 70) rfl (hb hby own_d2_63) rfl (feq hc97).2 (by decide) (by decide) ?_
          exact kt
        refine own_st sg100 ?_
        have sg101 : own_V p e below s₁ (mkF m 71 #[iv x] [(.int (0 : Int32))]) (mkF m 70 #[iv x] []) := by
          intro t kt
          refine XS.iconst X0.here hx rfl (hb hby own_d2_70) ?_
          show own_S p e below s₁ m 71 #[iv x] [(.int (0 : Int32))] _
          exact kt
        refine own_st sg101 ?_
        have hF : (0 : Int32) = own_ref x := by unfold own_ref; rw [if_pos hc48, if_pos hc51, if_neg hc54, if_pos hc79, if_neg hc82, if_neg hc87, if_neg hc92, if_neg hc97]
        exact own_retZ X0 hx Bd.notSynchronized Bd.returns (hb hby own_d2_71) (hF ▸ own_ref01 x) (by decide) (by decide) e0 ⟨by rw [hF], N0, rfl⟩
      have sg102 : own_V p e below s₁ (mkF m 40 #[iv x] []) (mkF m 37 #[iv x] [(.int (57 : Int32)), (.int x)]) := by
        intro t kt
        refine XS.icmpNo X0.here hx rfl (hb hby own_d2_37) rfl (flt hc79).2.2.1 ?_
        exact kt
      refine own_st sg102 ?_
      have sg103 : own_V p e below s₁ (mkF m 41 #[iv x] [(.int (1 : Int32))]) (mkF m 40 #[iv x] []) := by
        intro t kt
        refine XS.iconst X0.here hx rfl (hb hby own_d2_40) ?_
        show own_S p e below s₁ m 41 #[iv x] [(.int (1 : Int32))] _
        exact kt
      refine own_st sg103 ?_
      have hF : (1 : Int32) = own_ref x := by unfold own_ref; rw [if_pos hc48, if_pos hc51, if_neg hc54, if_neg hc79]
      exact own_retZ X0 hx Bd.notSynchronized Bd.returns (hb hby own_d2_41) (hF ▸ own_ref01 x) (by decide) (by decide) e0 ⟨by rw [hF], N0, rfl⟩
    have sg104 : own_V p e below s₁ (mkF m 20 #[iv x] []) (mkF m 17 #[iv x] [(.int (65 : Int32)), (.int x)]) := by
      intro t kt
      refine XS.icmpNo X0.here hx rfl (hb hby own_d2_17) rfl (flt hc51).1 ?_
      exact kt
    refine own_st sg104 ?_
    have sg105 : own_V p e below s₁ (mkF m 23 #[iv x] [(.int (90 : Int32)), (.int x)]) (mkF m 20 #[iv x] []) := by
      intro t kt
      refine XS.iloadN X0.here hx rfl (hb hby own_d2_20) rfl ?_
      show own_S p e below s₁ m 21 #[iv x] [(.int x)] _
      refine XS.bipush X0.here hx rfl (hb hby own_d2_21) ?_
      show own_S p e below s₁ m 23 #[iv x] [(.int (90 : Int32)), (.int x)] _
      exact kt
    refine own_st sg105 ?_
    by_cases hc106 : (90 : Int32) < x
    · skip
      have sg107 : own_V p e below s₁ (mkF m 28 #[iv x] []) (mkF m 23 #[iv x] [(.int (90 : Int32)), (.int x)]) := by
        intro t kt
        refine XS.icmpYes X0.here hx rfl (pc0 := 23) (pc' := 28) rfl (hb hby own_d2_23) rfl (tlt hc106).2.2.1 (by decide) (by decide) ?_
        exact kt
      refine own_st sg107 ?_
      have sg108 : own_V p e below s₁ (mkF m 31 #[iv x] [(.int (48 : Int32)), (.int x)]) (mkF m 28 #[iv x] []) := by
        intro t kt
        refine XS.iloadN X0.here hx rfl (hb hby own_d2_28) rfl ?_
        show own_S p e below s₁ m 29 #[iv x] [(.int x)] _
        refine XS.bipush X0.here hx rfl (hb hby own_d2_29) ?_
        show own_S p e below s₁ m 31 #[iv x] [(.int (48 : Int32)), (.int x)] _
        exact kt
      refine own_st sg108 ?_
      by_cases hc109 : x < (48 : Int32)
      · skip
        have sg110 : own_V p e below s₁ (mkF m 42 #[iv x] []) (mkF m 31 #[iv x] [(.int (48 : Int32)), (.int x)]) := by
          intro t kt
          refine XS.icmpYes X0.here hx rfl (pc0 := 31) (pc' := 42) rfl (hb hby own_d2_31) rfl (tlt hc109).1 (by decide) (by decide) ?_
          exact kt
        refine own_st sg110 ?_
        have sg111 : own_V p e below s₁ (mkF m 45 #[iv x] [(.int (45 : Int32)), (.int x)]) (mkF m 42 #[iv x] []) := by
          intro t kt
          refine XS.iloadN X0.here hx rfl (hb hby own_d2_42) rfl ?_
          show own_S p e below s₁ m 43 #[iv x] [(.int x)] _
          refine XS.bipush X0.here hx rfl (hb hby own_d2_43) ?_
          show own_S p e below s₁ m 45 #[iv x] [(.int (45 : Int32)), (.int x)] _
          exact kt
        refine own_st sg111 ?_
        by_cases hc112 : x = (45 : Int32)
        · skip
          have sg113 : own_V p e below s₁ (mkF m 66 #[iv x] []) (mkF m 45 #[iv x] [(.int (45 : Int32)), (.int x)]) := by
            intro t kt
            refine XS.icmpYes X0.here hx rfl (pc0 := 45) (pc' := 66) rfl (hb hby own_d2_45) rfl (teq hc112).1 (by decide) (by decide) ?_
            exact kt
          refine own_st sg113 ?_
          have sg114 : own_V p e below s₁ (mkF m 71 #[iv x] [(.int (1 : Int32))]) (mkF m 66 #[iv x] []) := by
            intro t kt
            refine XS.iconst X0.here hx rfl (hb hby own_d2_66) ?_
            show own_S p e below s₁ m 67 #[iv x] [(.int (1 : Int32))] _
            refine XS.goto X0.here hx rfl (pc0 := 67) (pc' := 71) rfl (hb hby own_d2_67) (by decide) (by decide) ?_
            show own_S p e below s₁ m 71 #[iv x] [(.int (1 : Int32))] _
            exact kt
          refine own_st sg114 ?_
          have hF : (1 : Int32) = own_ref x := by unfold own_ref; rw [if_pos hc48, if_neg hc51, if_pos hc106, if_pos hc109, if_pos hc112]
          exact own_retZ X0 hx Bd.notSynchronized Bd.returns (hb hby own_d2_71) (hF ▸ own_ref01 x) (by decide) (by decide) e0 ⟨by rw [hF], N0, rfl⟩
        have sg115 : own_V p e below s₁ (mkF m 48 #[iv x] []) (mkF m 45 #[iv x] [(.int (45 : Int32)), (.int x)]) := by
          intro t kt
          refine XS.icmpNo X0.here hx rfl (hb hby own_d2_45) rfl (feq hc112).1 ?_
          exact kt
        refine own_st sg115 ?_
        have sg116 : own_V p e below s₁ (mkF m 51 #[iv x] [(.int (46 : Int32)), (.int x)]) (mkF m 48 #[iv x] []) := by
          intro t kt
          refine XS.iloadN X0.here hx rfl (hb hby own_d2_48) rfl ?_
          show own_S p e below s₁ m 49 #[iv x] [(.int x)] _
          refine XS.bipush X0.here hx rfl (hb hby own_d2_49) ?_
          show own_S p e below s₁ m 51 #[iv x] [(.int (46 : Int32)), (.int x)] _
          exact kt
        refine own_st sg116 ?_
        by_cases hc117 : x = (46 : Int32)
        · skip
          have sg118 : own_V p e below s₁ (mkF m 66 #[iv x] []) (mkF m 51 #[iv x] [(.int (46 : Int32)), (.int x)]) := by
            intro t kt
            refine XS.icmpYes X0.here hx rfl (pc0 := 51) (pc' := 66) rfl (hb hby own_d2_51) rfl (teq hc117).1 (by decide) (by decide) ?_
            exact kt
          refine own_st sg118 ?_
          have sg119 : own_V p e below s₁ (mkF m 71 #[iv x] [(.int (1 : Int32))]) (mkF m 66 #[iv x] []) := by
            intro t kt
            refine XS.iconst X0.here hx rfl (hb hby own_d2_66) ?_
            show own_S p e below s₁ m 67 #[iv x] [(.int (1 : Int32))] _
            refine XS.goto X0.here hx rfl (pc0 := 67) (pc' := 71) rfl (hb hby own_d2_67) (by decide) (by decide) ?_
            show own_S p e below s₁ m 71 #[iv x] [(.int (1 : Int32))] _
            exact kt
          refine own_st sg119 ?_
          have hF : (1 : Int32) = own_ref x := by unfold own_ref; rw [if_pos hc48, if_neg hc51, if_pos hc106, if_pos hc109, if_neg hc112, if_pos hc117]
          exact own_retZ X0 hx Bd.notSynchronized Bd.returns (hb hby own_d2_71) (hF ▸ own_ref01 x) (by decide) (by decide) e0 ⟨by rw [hF], N0, rfl⟩
        have sg120 : own_V p e below s₁ (mkF m 54 #[iv x] []) (mkF m 51 #[iv x] [(.int (46 : Int32)), (.int x)]) := by
          intro t kt
          refine XS.icmpNo X0.here hx rfl (hb hby own_d2_51) rfl (feq hc117).1 ?_
          exact kt
        refine own_st sg120 ?_
        have sg121 : own_V p e below s₁ (mkF m 57 #[iv x] [(.int (95 : Int32)), (.int x)]) (mkF m 54 #[iv x] []) := by
          intro t kt
          refine XS.iloadN X0.here hx rfl (hb hby own_d2_54) rfl ?_
          show own_S p e below s₁ m 55 #[iv x] [(.int x)] _
          refine XS.bipush X0.here hx rfl (hb hby own_d2_55) ?_
          show own_S p e below s₁ m 57 #[iv x] [(.int (95 : Int32)), (.int x)] _
          exact kt
        refine own_st sg121 ?_
        by_cases hc122 : x = (95 : Int32)
        · skip
          have sg123 : own_V p e below s₁ (mkF m 66 #[iv x] []) (mkF m 57 #[iv x] [(.int (95 : Int32)), (.int x)]) := by
            intro t kt
            refine XS.icmpYes X0.here hx rfl (pc0 := 57) (pc' := 66) rfl (hb hby own_d2_57) rfl (teq hc122).1 (by decide) (by decide) ?_
            exact kt
          refine own_st sg123 ?_
          have sg124 : own_V p e below s₁ (mkF m 71 #[iv x] [(.int (1 : Int32))]) (mkF m 66 #[iv x] []) := by
            intro t kt
            refine XS.iconst X0.here hx rfl (hb hby own_d2_66) ?_
            show own_S p e below s₁ m 67 #[iv x] [(.int (1 : Int32))] _
            refine XS.goto X0.here hx rfl (pc0 := 67) (pc' := 71) rfl (hb hby own_d2_67) (by decide) (by decide) ?_
            show own_S p e below s₁ m 71 #[iv x] [(.int (1 : Int32))] _
            exact kt
          refine own_st sg124 ?_
          have hF : (1 : Int32) = own_ref x := by unfold own_ref; rw [if_pos hc48, if_neg hc51, if_pos hc106, if_pos hc109, if_neg hc112, if_neg hc117, if_pos hc122]
          exact own_retZ X0 hx Bd.notSynchronized Bd.returns (hb hby own_d2_71) (hF ▸ own_ref01 x) (by decide) (by decide) e0 ⟨by rw [hF], N0, rfl⟩
        have sg125 : own_V p e below s₁ (mkF m 60 #[iv x] []) (mkF m 57 #[iv x] [(.int (95 : Int32)), (.int x)]) := by
          intro t kt
          refine XS.icmpNo X0.here hx rfl (hb hby own_d2_57) rfl (feq hc122).1 ?_
          exact kt
        refine own_st sg125 ?_
        have sg126 : own_V p e below s₁ (mkF m 63 #[iv x] [(.int (126 : Int32)), (.int x)]) (mkF m 60 #[iv x] []) := by
          intro t kt
          refine XS.iloadN X0.here hx rfl (hb hby own_d2_60) rfl ?_
          show own_S p e below s₁ m 61 #[iv x] [(.int x)] _
          refine XS.bipush X0.here hx rfl (hb hby own_d2_61) ?_
          show own_S p e below s₁ m 63 #[iv x] [(.int (126 : Int32)), (.int x)] _
          exact kt
        refine own_st sg126 ?_
        by_cases hc127 : x = (126 : Int32)
        · skip
          have sg128 : own_V p e below s₁ (mkF m 66 #[iv x] []) (mkF m 63 #[iv x] [(.int (126 : Int32)), (.int x)]) := by
            intro t kt
            refine XS.icmpNo X0.here hx rfl (hb hby own_d2_63) rfl (teq hc127).2 ?_
            exact kt
          refine own_st sg128 ?_
          have sg129 : own_V p e below s₁ (mkF m 71 #[iv x] [(.int (1 : Int32))]) (mkF m 66 #[iv x] []) := by
            intro t kt
            refine XS.iconst X0.here hx rfl (hb hby own_d2_66) ?_
            show own_S p e below s₁ m 67 #[iv x] [(.int (1 : Int32))] _
            refine XS.goto X0.here hx rfl (pc0 := 67) (pc' := 71) rfl (hb hby own_d2_67) (by decide) (by decide) ?_
            show own_S p e below s₁ m 71 #[iv x] [(.int (1 : Int32))] _
            exact kt
          refine own_st sg129 ?_
          have hF : (1 : Int32) = own_ref x := by unfold own_ref; rw [if_pos hc48, if_neg hc51, if_pos hc106, if_pos hc109, if_neg hc112, if_neg hc117, if_neg hc122, if_pos hc127]
          exact own_retZ X0 hx Bd.notSynchronized Bd.returns (hb hby own_d2_71) (hF ▸ own_ref01 x) (by decide) (by decide) e0 ⟨by rw [hF], N0, rfl⟩
        have sg130 : own_V p e below s₁ (mkF m 70 #[iv x] []) (mkF m 63 #[iv x] [(.int (126 : Int32)), (.int x)]) := by
          intro t kt
          refine XS.icmpYes X0.here hx rfl (pc0 := 63) (pc' := 70) rfl (hb hby own_d2_63) rfl (feq hc127).2 (by decide) (by decide) ?_
          exact kt
        refine own_st sg130 ?_
        have sg131 : own_V p e below s₁ (mkF m 71 #[iv x] [(.int (0 : Int32))]) (mkF m 70 #[iv x] []) := by
          intro t kt
          refine XS.iconst X0.here hx rfl (hb hby own_d2_70) ?_
          show own_S p e below s₁ m 71 #[iv x] [(.int (0 : Int32))] _
          exact kt
        refine own_st sg131 ?_
        have hF : (0 : Int32) = own_ref x := by unfold own_ref; rw [if_pos hc48, if_neg hc51, if_pos hc106, if_pos hc109, if_neg hc112, if_neg hc117, if_neg hc122, if_neg hc127]
        exact own_retZ X0 hx Bd.notSynchronized Bd.returns (hb hby own_d2_71) (hF ▸ own_ref01 x) (by decide) (by decide) e0 ⟨by rw [hF], N0, rfl⟩
      have sg132 : own_V p e below s₁ (mkF m 34 #[iv x] []) (mkF m 31 #[iv x] [(.int (48 : Int32)), (.int x)]) := by
        intro t kt
        refine XS.icmpNo X0.here hx rfl (hb hby own_d2_31) rfl (flt hc109).1 ?_
        exact kt
      refine own_st sg132 ?_
      have sg133 : own_V p e below s₁ (mkF m 37 #[iv x] [(.int (57 : Int32)), (.int x)]) (mkF m 34 #[iv x] []) := by
        intro t kt
        refine XS.iloadN X0.here hx rfl (hb hby own_d2_34) rfl ?_
        show own_S p e below s₁ m 35 #[iv x] [(.int x)] _
        refine XS.bipush X0.here hx rfl (hb hby own_d2_35) ?_
        show own_S p e below s₁ m 37 #[iv x] [(.int (57 : Int32)), (.int x)] _
        exact kt
      refine own_st sg133 ?_
      by_cases hc134 : (57 : Int32) < x
      · skip
        have sg135 : own_V p e below s₁ (mkF m 42 #[iv x] []) (mkF m 37 #[iv x] [(.int (57 : Int32)), (.int x)]) := by
          intro t kt
          refine XS.icmpYes X0.here hx rfl (pc0 := 37) (pc' := 42) rfl (hb hby own_d2_37) rfl (tlt hc134).2.2.1 (by decide) (by decide) ?_
          exact kt
        refine own_st sg135 ?_
        have sg136 : own_V p e below s₁ (mkF m 45 #[iv x] [(.int (45 : Int32)), (.int x)]) (mkF m 42 #[iv x] []) := by
          intro t kt
          refine XS.iloadN X0.here hx rfl (hb hby own_d2_42) rfl ?_
          show own_S p e below s₁ m 43 #[iv x] [(.int x)] _
          refine XS.bipush X0.here hx rfl (hb hby own_d2_43) ?_
          show own_S p e below s₁ m 45 #[iv x] [(.int (45 : Int32)), (.int x)] _
          exact kt
        refine own_st sg136 ?_
        by_cases hc137 : x = (45 : Int32)
        · skip
          have sg138 : own_V p e below s₁ (mkF m 66 #[iv x] []) (mkF m 45 #[iv x] [(.int (45 : Int32)), (.int x)]) := by
            intro t kt
            refine XS.icmpYes X0.here hx rfl (pc0 := 45) (pc' := 66) rfl (hb hby own_d2_45) rfl (teq hc137).1 (by decide) (by decide) ?_
            exact kt
          refine own_st sg138 ?_
          have sg139 : own_V p e below s₁ (mkF m 71 #[iv x] [(.int (1 : Int32))]) (mkF m 66 #[iv x] []) := by
            intro t kt
            refine XS.iconst X0.here hx rfl (hb hby own_d2_66) ?_
            show own_S p e below s₁ m 67 #[iv x] [(.int (1 : Int32))] _
            refine XS.goto X0.here hx rfl (pc0 := 67) (pc' := 71) rfl (hb hby own_d2_67) (by decide) (by decide) ?_
            show own_S p e below s₁ m 71 #[iv x] [(.int (1 : Int32))] _
            exact kt
          refine own_st sg139 ?_
          have hF : (1 : Int32) = own_ref x := by unfold own_ref; rw [if_pos hc48, if_neg hc51, if_pos hc106, if_neg hc109, if_pos hc134, if_pos hc137]
          exact own_retZ X0 hx Bd.notSynchronized Bd.returns (hb hby own_d2_71) (hF ▸ own_ref01 x) (by decide) (by decide) e0 ⟨by rw [hF], N0, rfl⟩
        have sg140 : own_V p e below s₁ (mkF m 48 #[iv x] []) (mkF m 45 #[iv x] [(.int (45 : Int32)), (.int x)]) := by
          intro t kt
          refine XS.icmpNo X0.here hx rfl (hb hby own_d2_45) rfl (feq hc137).1 ?_
          exact kt
        refine own_st sg140 ?_
        have sg141 : own_V p e below s₁ (mkF m 51 #[iv x] [(.int (46 : Int32)), (.int x)]) (mkF m 48 #[iv x] []) := by
          intro t kt
          refine XS.iloadN X0.here hx rfl (hb hby own_d2_48) rfl ?_
          show own_S p e below s₁ m 49 #[iv x] [(.int x)] _
          refine XS.bipush X0.here hx rfl (hb hby own_d2_49) ?_
          show own_S p e below s₁ m 51 #[iv x] [(.int (46 : Int32)), (.int x)] _
          exact kt
        refine own_st sg141 ?_
        by_cases hc142 : x = (46 : Int32)
        · skip
          have sg143 : own_V p e below s₁ (mkF m 66 #[iv x] []) (mkF m 51 #[iv x] [(.int (46 : Int32)), (.int x)]) := by
            intro t kt
            refine XS.icmpYes X0.here hx rfl (pc0 := 51) (pc' := 66) rfl (hb hby own_d2_51) rfl (teq hc142).1 (by decide) (by decide) ?_
            exact kt
          refine own_st sg143 ?_
          have sg144 : own_V p e below s₁ (mkF m 71 #[iv x] [(.int (1 : Int32))]) (mkF m 66 #[iv x] []) := by
            intro t kt
            refine XS.iconst X0.here hx rfl (hb hby own_d2_66) ?_
            show own_S p e below s₁ m 67 #[iv x] [(.int (1 : Int32))] _
            refine XS.goto X0.here hx rfl (pc0 := 67) (pc' := 71) rfl (hb hby own_d2_67) (by decide) (by decide) ?_
            show own_S p e below s₁ m 71 #[iv x] [(.int (1 : Int32))] _
            exact kt
          refine own_st sg144 ?_
          have hF : (1 : Int32) = own_ref x := by unfold own_ref; rw [if_pos hc48, if_neg hc51, if_pos hc106, if_neg hc109, if_pos hc134, if_neg hc137, if_pos hc142]
          exact own_retZ X0 hx Bd.notSynchronized Bd.returns (hb hby own_d2_71) (hF ▸ own_ref01 x) (by decide) (by decide) e0 ⟨by rw [hF], N0, rfl⟩
        have sg145 : own_V p e below s₁ (mkF m 54 #[iv x] []) (mkF m 51 #[iv x] [(.int (46 : Int32)), (.int x)]) := by
          intro t kt
          refine XS.icmpNo X0.here hx rfl (hb hby own_d2_51) rfl (feq hc142).1 ?_
          exact kt
        refine own_st sg145 ?_
        have sg146 : own_V p e below s₁ (mkF m 57 #[iv x] [(.int (95 : Int32)), (.int x)]) (mkF m 54 #[iv x] []) := by
          intro t kt
          refine XS.iloadN X0.here hx rfl (hb hby own_d2_54) rfl ?_
          show own_S p e below s₁ m 55 #[iv x] [(.int x)] _
          refine XS.bipush X0.here hx rfl (hb hby own_d2_55) ?_
          show own_S p e below s₁ m 57 #[iv x] [(.int (95 : Int32)), (.int x)] _
          exact kt
        refine own_st sg146 ?_
        by_cases hc147 : x = (95 : Int32)
        · skip
          have sg148 : own_V p e below s₁ (mkF m 66 #[iv x] []) (mkF m 57 #[iv x] [(.int (95 : Int32)), (.int x)]) := by
            intro t kt
            refine XS.icmpYes X0.here hx rfl (pc0 := 57) (pc' := 66) rfl (hb hby own_d2_57) rfl (teq hc147).1 (by decide) (by decide) ?_
            exact kt
          refine own_st sg148 ?_
          have sg149 : own_V p e below s₁ (mkF m 71 #[iv x] [(.int (1 : Int32))]) (mkF m 66 #[iv x] []) := by
            intro t kt
            refine XS.iconst X0.here hx rfl (hb hby own_d2_66) ?_
            show own_S p e below s₁ m 67 #[iv x] [(.int (1 : Int32))] _
            refine XS.goto X0.here hx rfl (pc0 := 67) (pc' := 71) rfl (hb hby own_d2_67) (by decide) (by decide) ?_
            show own_S p e below s₁ m 71 #[iv x] [(.int (1 : Int32))] _
            exact kt
          refine own_st sg149 ?_
          have hF : (1 : Int32) = own_ref x := by unfold own_ref; rw [if_pos hc48, if_neg hc51, if_pos hc106, if_neg hc109, if_pos hc134, if_neg hc137, if_neg hc142, if_pos hc147]
          exact own_retZ X0 hx Bd.notSynchronized Bd.returns (hb hby own_d2_71) (hF ▸ own_ref01 x) (by decide) (by decide) e0 ⟨by rw [hF], N0, rfl⟩
        have sg150 : own_V p e below s₁ (mkF m 60 #[iv x] []) (mkF m 57 #[iv x] [(.int (95 : Int32)), (.int x)]) := by
          intro t kt
          refine XS.icmpNo X0.here hx rfl (hb hby own_d2_57) rfl (feq hc147).1 ?_
          exact kt
        refine own_st sg150 ?_
        have sg151 : own_V p e below s₁ (mkF m 63 #[iv x] [(.int (126 : Int32)), (.int x)]) (mkF m 60 #[iv x] []) := by
          intro t kt
          refine XS.iloadN X0.here hx rfl (hb hby own_d2_60) rfl ?_
          show own_S p e below s₁ m 61 #[iv x] [(.int x)] _
          refine XS.bipush X0.here hx rfl (hb hby own_d2_61) ?_
          show own_S p e below s₁ m 63 #[iv x] [(.int (126 : Int32)), (.int x)] _
          exact kt
        refine own_st sg151 ?_
        by_cases hc152 : x = (126 : Int32)
        · skip
          have sg153 : own_V p e below s₁ (mkF m 66 #[iv x] []) (mkF m 63 #[iv x] [(.int (126 : Int32)), (.int x)]) := by
            intro t kt
            refine XS.icmpNo X0.here hx rfl (hb hby own_d2_63) rfl (teq hc152).2 ?_
            exact kt
          refine own_st sg153 ?_
          have sg154 : own_V p e below s₁ (mkF m 71 #[iv x] [(.int (1 : Int32))]) (mkF m 66 #[iv x] []) := by
            intro t kt
            refine XS.iconst X0.here hx rfl (hb hby own_d2_66) ?_
            show own_S p e below s₁ m 67 #[iv x] [(.int (1 : Int32))] _
            refine XS.goto X0.here hx rfl (pc0 := 67) (pc' := 71) rfl (hb hby own_d2_67) (by decide) (by decide) ?_
            show own_S p e below s₁ m 71 #[iv x] [(.int (1 : Int32))] _
            exact kt
          refine own_st sg154 ?_
          have hF : (1 : Int32) = own_ref x := by unfold own_ref; rw [if_pos hc48, if_neg hc51, if_pos hc106, if_neg hc109, if_pos hc134, if_neg hc137, if_neg hc142, if_neg hc147, if_pos hc152]
          exact own_retZ X0 hx Bd.notSynchronized Bd.returns (hb hby own_d2_71) (hF ▸ own_ref01 x) (by decide) (by decide) e0 ⟨by rw [hF], N0, rfl⟩
        have sg155 : own_V p e below s₁ (mkF m 70 #[iv x] []) (mkF m 63 #[iv x] [(.int (126 : Int32)), (.int x)]) := by
          intro t kt
          refine XS.icmpYes X0.here hx rfl (pc0 := 63) (pc' := 70) rfl (hb hby own_d2_63) rfl (feq hc152).2 (by decide) (by decide) ?_
          exact kt
        refine own_st sg155 ?_
        have sg156 : own_V p e below s₁ (mkF m 71 #[iv x] [(.int (0 : Int32))]) (mkF m 70 #[iv x] []) := by
          intro t kt
          refine XS.iconst X0.here hx rfl (hb hby own_d2_70) ?_
          show own_S p e below s₁ m 71 #[iv x] [(.int (0 : Int32))] _
          exact kt
        refine own_st sg156 ?_
        have hF : (0 : Int32) = own_ref x := by unfold own_ref; rw [if_pos hc48, if_neg hc51, if_pos hc106, if_neg hc109, if_pos hc134, if_neg hc137, if_neg hc142, if_neg hc147, if_neg hc152]
        exact own_retZ X0 hx Bd.notSynchronized Bd.returns (hb hby own_d2_71) (hF ▸ own_ref01 x) (by decide) (by decide) e0 ⟨by rw [hF], N0, rfl⟩
      have sg157 : own_V p e below s₁ (mkF m 40 #[iv x] []) (mkF m 37 #[iv x] [(.int (57 : Int32)), (.int x)]) := by
        intro t kt
        refine XS.icmpNo X0.here hx rfl (hb hby own_d2_37) rfl (flt hc134).2.2.1 ?_
        exact kt
      refine own_st sg157 ?_
      have sg158 : own_V p e below s₁ (mkF m 41 #[iv x] [(.int (1 : Int32))]) (mkF m 40 #[iv x] []) := by
        intro t kt
        refine XS.iconst X0.here hx rfl (hb hby own_d2_40) ?_
        show own_S p e below s₁ m 41 #[iv x] [(.int (1 : Int32))] _
        exact kt
      refine own_st sg158 ?_
      have hF : (1 : Int32) = own_ref x := by unfold own_ref; rw [if_pos hc48, if_neg hc51, if_pos hc106, if_neg hc109, if_neg hc134]
      exact own_retZ X0 hx Bd.notSynchronized Bd.returns (hb hby own_d2_41) (hF ▸ own_ref01 x) (by decide) (by decide) e0 ⟨by rw [hF], N0, rfl⟩
    have sg159 : own_V p e below s₁ (mkF m 26 #[iv x] []) (mkF m 23 #[iv x] [(.int (90 : Int32)), (.int x)]) := by
      intro t kt
      refine XS.icmpNo X0.here hx rfl (hb hby own_d2_23) rfl (flt hc106).2.2.1 ?_
      exact kt
    refine own_st sg159 ?_
    have sg160 : own_V p e below s₁ (mkF m 27 #[iv x] [(.int (1 : Int32))]) (mkF m 26 #[iv x] []) := by
      intro t kt
      refine XS.iconst X0.here hx rfl (hb hby own_d2_26) ?_
      show own_S p e below s₁ m 27 #[iv x] [(.int (1 : Int32))] _
      exact kt
    refine own_st sg160 ?_
    have hF : (1 : Int32) = own_ref x := by unfold own_ref; rw [if_pos hc48, if_neg hc51, if_neg hc106]
    exact own_retZ X0 hx Bd.notSynchronized Bd.returns (hb hby own_d2_27) (hF ▸ own_ref01 x) (by decide) (by decide) e0 ⟨by rw [hF], N0, rfl⟩
  have sg161 : own_V p e below s₁ (mkF m 6 #[iv x] []) (mkF m 3 #[iv x] [(.int (97 : Int32)), (.int x)]) := by
    intro t kt
    refine XS.icmpNo X0.here hx rfl (hb hby own_d2_3) rfl (flt hc48).1 ?_
    exact kt
  refine own_st sg161 ?_
  have sg162 : own_V p e below s₁ (mkF m 9 #[iv x] [(.int (122 : Int32)), (.int x)]) (mkF m 6 #[iv x] []) := by
    intro t kt
    refine XS.iloadN X0.here hx rfl (hb hby own_d2_6) rfl ?_
    show own_S p e below s₁ m 7 #[iv x] [(.int x)] _
    refine XS.bipush X0.here hx rfl (hb hby own_d2_7) ?_
    show own_S p e below s₁ m 9 #[iv x] [(.int (122 : Int32)), (.int x)] _
    exact kt
  refine own_st sg162 ?_
  by_cases hc163 : (122 : Int32) < x
  · skip
    have sg164 : own_V p e below s₁ (mkF m 14 #[iv x] []) (mkF m 9 #[iv x] [(.int (122 : Int32)), (.int x)]) := by
      intro t kt
      refine XS.icmpYes X0.here hx rfl (pc0 := 9) (pc' := 14) rfl (hb hby own_d2_9) rfl (tlt hc163).2.2.1 (by decide) (by decide) ?_
      exact kt
    refine own_st sg164 ?_
    have sg165 : own_V p e below s₁ (mkF m 17 #[iv x] [(.int (65 : Int32)), (.int x)]) (mkF m 14 #[iv x] []) := by
      intro t kt
      refine XS.iloadN X0.here hx rfl (hb hby own_d2_14) rfl ?_
      show own_S p e below s₁ m 15 #[iv x] [(.int x)] _
      refine XS.bipush X0.here hx rfl (hb hby own_d2_15) ?_
      show own_S p e below s₁ m 17 #[iv x] [(.int (65 : Int32)), (.int x)] _
      exact kt
    refine own_st sg165 ?_
    by_cases hc166 : x < (65 : Int32)
    · skip
      have sg167 : own_V p e below s₁ (mkF m 28 #[iv x] []) (mkF m 17 #[iv x] [(.int (65 : Int32)), (.int x)]) := by
        intro t kt
        refine XS.icmpYes X0.here hx rfl (pc0 := 17) (pc' := 28) rfl (hb hby own_d2_17) rfl (tlt hc166).1 (by decide) (by decide) ?_
        exact kt
      refine own_st sg167 ?_
      have sg168 : own_V p e below s₁ (mkF m 31 #[iv x] [(.int (48 : Int32)), (.int x)]) (mkF m 28 #[iv x] []) := by
        intro t kt
        refine XS.iloadN X0.here hx rfl (hb hby own_d2_28) rfl ?_
        show own_S p e below s₁ m 29 #[iv x] [(.int x)] _
        refine XS.bipush X0.here hx rfl (hb hby own_d2_29) ?_
        show own_S p e below s₁ m 31 #[iv x] [(.int (48 : Int32)), (.int x)] _
        exact kt
      refine own_st sg168 ?_
      by_cases hc169 : x < (48 : Int32)
      · skip
        have sg170 : own_V p e below s₁ (mkF m 42 #[iv x] []) (mkF m 31 #[iv x] [(.int (48 : Int32)), (.int x)]) := by
          intro t kt
          refine XS.icmpYes X0.here hx rfl (pc0 := 31) (pc' := 42) rfl (hb hby own_d2_31) rfl (tlt hc169).1 (by decide) (by decide) ?_
          exact kt
        refine own_st sg170 ?_
        have sg171 : own_V p e below s₁ (mkF m 45 #[iv x] [(.int (45 : Int32)), (.int x)]) (mkF m 42 #[iv x] []) := by
          intro t kt
          refine XS.iloadN X0.here hx rfl (hb hby own_d2_42) rfl ?_
          show own_S p e below s₁ m 43 #[iv x] [(.int x)] _
          refine XS.bipush X0.here hx rfl (hb hby own_d2_43) ?_
          show own_S p e below s₁ m 45 #[iv x] [(.int (45 : Int32)), (.int x)] _
          exact kt
        refine own_st sg171 ?_
        by_cases hc172 : x = (45 : Int32)
        · skip
          have sg173 : own_V p e below s₁ (mkF m 66 #[iv x] []) (mkF m 45 #[iv x] [(.int (45 : Int32)), (.int x)]) := by
            intro t kt
            refine XS.icmpYes X0.here hx rfl (pc0 := 45) (pc' := 66) rfl (hb hby own_d2_45) rfl (teq hc172).1 (by decide) (by decide) ?_
            exact kt
          refine own_st sg173 ?_
          have sg174 : own_V p e below s₁ (mkF m 71 #[iv x] [(.int (1 : Int32))]) (mkF m 66 #[iv x] []) := by
            intro t kt
            refine XS.iconst X0.here hx rfl (hb hby own_d2_66) ?_
            show own_S p e below s₁ m 67 #[iv x] [(.int (1 : Int32))] _
            refine XS.goto X0.here hx rfl (pc0 := 67) (pc' := 71) rfl (hb hby own_d2_67) (by decide) (by decide) ?_
            show own_S p e below s₁ m 71 #[iv x] [(.int (1 : Int32))] _
            exact kt
          refine own_st sg174 ?_
          have hF : (1 : Int32) = own_ref x := by unfold own_ref; rw [if_neg hc48, if_pos hc163, if_pos hc166, if_pos hc169, if_pos hc172]
          exact own_retZ X0 hx Bd.notSynchronized Bd.returns (hb hby own_d2_71) (hF ▸ own_ref01 x) (by decide) (by decide) e0 ⟨by rw [hF], N0, rfl⟩
        have sg175 : own_V p e below s₁ (mkF m 48 #[iv x] []) (mkF m 45 #[iv x] [(.int (45 : Int32)), (.int x)]) := by
          intro t kt
          refine XS.icmpNo X0.here hx rfl (hb hby own_d2_45) rfl (feq hc172).1 ?_
          exact kt
        refine own_st sg175 ?_
        have sg176 : own_V p e below s₁ (mkF m 51 #[iv x] [(.int (46 : Int32)), (.int x)]) (mkF m 48 #[iv x] []) := by
          intro t kt
          refine XS.iloadN X0.here hx rfl (hb hby own_d2_48) rfl ?_
          show own_S p e below s₁ m 49 #[iv x] [(.int x)] _
          refine XS.bipush X0.here hx rfl (hb hby own_d2_49) ?_
          show own_S p e below s₁ m 51 #[iv x] [(.int (46 : Int32)), (.int x)] _
          exact kt
        refine own_st sg176 ?_
        by_cases hc177 : x = (46 : Int32)
        · skip
          have sg178 : own_V p e below s₁ (mkF m 66 #[iv x] []) (mkF m 51 #[iv x] [(.int (46 : Int32)), (.int x)]) := by
            intro t kt
            refine XS.icmpYes X0.here hx rfl (pc0 := 51) (pc' := 66) rfl (hb hby own_d2_51) rfl (teq hc177).1 (by decide) (by decide) ?_
            exact kt
          refine own_st sg178 ?_
          have sg179 : own_V p e below s₁ (mkF m 71 #[iv x] [(.int (1 : Int32))]) (mkF m 66 #[iv x] []) := by
            intro t kt
            refine XS.iconst X0.here hx rfl (hb hby own_d2_66) ?_
            show own_S p e below s₁ m 67 #[iv x] [(.int (1 : Int32))] _
            refine XS.goto X0.here hx rfl (pc0 := 67) (pc' := 71) rfl (hb hby own_d2_67) (by decide) (by decide) ?_
            show own_S p e below s₁ m 71 #[iv x] [(.int (1 : Int32))] _
            exact kt
          refine own_st sg179 ?_
          have hF : (1 : Int32) = own_ref x := by unfold own_ref; rw [if_neg hc48, if_pos hc163, if_pos hc166, if_pos hc169, if_neg hc172, if_pos hc177]
          exact own_retZ X0 hx Bd.notSynchronized Bd.returns (hb hby own_d2_71) (hF ▸ own_ref01 x) (by decide) (by decide) e0 ⟨by rw [hF], N0, rfl⟩
        have sg180 : own_V p e below s₁ (mkF m 54 #[iv x] []) (mkF m 51 #[iv x] [(.int (46 : Int32)), (.int x)]) := by
          intro t kt
          refine XS.icmpNo X0.here hx rfl (hb hby own_d2_51) rfl (feq hc177).1 ?_
          exact kt
        refine own_st sg180 ?_
        have sg181 : own_V p e below s₁ (mkF m 57 #[iv x] [(.int (95 : Int32)), (.int x)]) (mkF m 54 #[iv x] []) := by
          intro t kt
          refine XS.iloadN X0.here hx rfl (hb hby own_d2_54) rfl ?_
          show own_S p e below s₁ m 55 #[iv x] [(.int x)] _
          refine XS.bipush X0.here hx rfl (hb hby own_d2_55) ?_
          show own_S p e below s₁ m 57 #[iv x] [(.int (95 : Int32)), (.int x)] _
          exact kt
        refine own_st sg181 ?_
        by_cases hc182 : x = (95 : Int32)
        · skip
          have sg183 : own_V p e below s₁ (mkF m 66 #[iv x] []) (mkF m 57 #[iv x] [(.int (95 : Int32)), (.int x)]) := by
            intro t kt
            refine XS.icmpYes X0.here hx rfl (pc0 := 57) (pc' := 66) rfl (hb hby own_d2_57) rfl (teq hc182).1 (by decide) (by decide) ?_
            exact kt
          refine own_st sg183 ?_
          have sg184 : own_V p e below s₁ (mkF m 71 #[iv x] [(.int (1 : Int32))]) (mkF m 66 #[iv x] []) := by
            intro t kt
            refine XS.iconst X0.here hx rfl (hb hby own_d2_66) ?_
            show own_S p e below s₁ m 67 #[iv x] [(.int (1 : Int32))] _
            refine XS.goto X0.here hx rfl (pc0 := 67) (pc' := 71) rfl (hb hby own_d2_67) (by decide) (by decide) ?_
            show own_S p e below s₁ m 71 #[iv x] [(.int (1 : Int32))] _
            exact kt
          refine own_st sg184 ?_
          have hF : (1 : Int32) = own_ref x := by unfold own_ref; rw [if_neg hc48, if_pos hc163, if_pos hc166, if_pos hc169, if_neg hc172, if_neg hc177, if_pos hc182]
          exact own_retZ X0 hx Bd.notSynchronized Bd.returns (hb hby own_d2_71) (hF ▸ own_ref01 x) (by decide) (by decide) e0 ⟨by rw [hF], N0, rfl⟩
        have sg185 : own_V p e below s₁ (mkF m 60 #[iv x] []) (mkF m 57 #[iv x] [(.int (95 : Int32)), (.int x)]) := by
          intro t kt
          refine XS.icmpNo X0.here hx rfl (hb hby own_d2_57) rfl (feq hc182).1 ?_
          exact kt
        refine own_st sg185 ?_
        have sg186 : own_V p e below s₁ (mkF m 63 #[iv x] [(.int (126 : Int32)), (.int x)]) (mkF m 60 #[iv x] []) := by
          intro t kt
          refine XS.iloadN X0.here hx rfl (hb hby own_d2_60) rfl ?_
          show own_S p e below s₁ m 61 #[iv x] [(.int x)] _
          refine XS.bipush X0.here hx rfl (hb hby own_d2_61) ?_
          show own_S p e below s₁ m 63 #[iv x] [(.int (126 : Int32)), (.int x)] _
          exact kt
        refine own_st sg186 ?_
        by_cases hc187 : x = (126 : Int32)
        · skip
          have sg188 : own_V p e below s₁ (mkF m 66 #[iv x] []) (mkF m 63 #[iv x] [(.int (126 : Int32)), (.int x)]) := by
            intro t kt
            refine XS.icmpNo X0.here hx rfl (hb hby own_d2_63) rfl (teq hc187).2 ?_
            exact kt
          refine own_st sg188 ?_
          have sg189 : own_V p e below s₁ (mkF m 71 #[iv x] [(.int (1 : Int32))]) (mkF m 66 #[iv x] []) := by
            intro t kt
            refine XS.iconst X0.here hx rfl (hb hby own_d2_66) ?_
            show own_S p e below s₁ m 67 #[iv x] [(.int (1 : Int32))] _
            refine XS.goto X0.here hx rfl (pc0 := 67) (pc' := 71) rfl (hb hby own_d2_67) (by decide) (by decide) ?_
            show own_S p e below s₁ m 71 #[iv x] [(.int (1 : Int32))] _
            exact kt
          refine own_st sg189 ?_
          have hF : (1 : Int32) = own_ref x := by unfold own_ref; rw [if_neg hc48, if_pos hc163, if_pos hc166, if_pos hc169, if_neg hc172, if_neg hc177, if_neg hc182, if_pos hc187]
          exact own_retZ X0 hx Bd.notSynchronized Bd.returns (hb hby own_d2_71) (hF ▸ own_ref01 x) (by decide) (by decide) e0 ⟨by rw [hF], N0, rfl⟩
        have sg190 : own_V p e below s₁ (mkF m 70 #[iv x] []) (mkF m 63 #[iv x] [(.int (126 : Int32)), (.int x)]) := by
          intro t kt
          refine XS.icmpYes X0.here hx rfl (pc0 := 63) (pc' := 70) rfl (hb hby own_d2_63) rfl (feq hc187).2 (by decide) (by decide) ?_
          exact kt
        refine own_st sg190 ?_
        have sg191 : own_V p e below s₁ (mkF m 71 #[iv x] [(.int (0 : Int32))]) (mkF m 70 #[iv x] []) := by
          intro t kt
          refine XS.iconst X0.here hx rfl (hb hby own_d2_70) ?_
          show own_S p e below s₁ m 71 #[iv x] [(.int (0 : Int32))] _
          exact kt
        refine own_st sg191 ?_
        have hF : (0 : Int32) = own_ref x := by unfold own_ref; rw [if_neg hc48, if_pos hc163, if_pos hc166, if_pos hc169, if_neg hc172, if_neg hc177, if_neg hc182, if_neg hc187]
        exact own_retZ X0 hx Bd.notSynchronized Bd.returns (hb hby own_d2_71) (hF ▸ own_ref01 x) (by decide) (by decide) e0 ⟨by rw [hF], N0, rfl⟩
      have sg192 : own_V p e below s₁ (mkF m 34 #[iv x] []) (mkF m 31 #[iv x] [(.int (48 : Int32)), (.int x)]) := by
        intro t kt
        refine XS.icmpNo X0.here hx rfl (hb hby own_d2_31) rfl (flt hc169).1 ?_
        exact kt
      refine own_st sg192 ?_
      have sg193 : own_V p e below s₁ (mkF m 37 #[iv x] [(.int (57 : Int32)), (.int x)]) (mkF m 34 #[iv x] []) := by
        intro t kt
        refine XS.iloadN X0.here hx rfl (hb hby own_d2_34) rfl ?_
        show own_S p e below s₁ m 35 #[iv x] [(.int x)] _
        refine XS.bipush X0.here hx rfl (hb hby own_d2_35) ?_
        show own_S p e below s₁ m 37 #[iv x] [(.int (57 : Int32)), (.int x)] _
        exact kt
      refine own_st sg193 ?_
      by_cases hc194 : (57 : Int32) < x
      · skip
        have sg195 : own_V p e below s₁ (mkF m 42 #[iv x] []) (mkF m 37 #[iv x] [(.int (57 : Int32)), (.int x)]) := by
          intro t kt
          refine XS.icmpYes X0.here hx rfl (pc0 := 37) (pc' := 42) rfl (hb hby own_d2_37) rfl (tlt hc194).2.2.1 (by decide) (by decide) ?_
          exact kt
        refine own_st sg195 ?_
        have sg196 : own_V p e below s₁ (mkF m 45 #[iv x] [(.int (45 : Int32)), (.int x)]) (mkF m 42 #[iv x] []) := by
          intro t kt
          refine XS.iloadN X0.here hx rfl (hb hby own_d2_42) rfl ?_
          show own_S p e below s₁ m 43 #[iv x] [(.int x)] _
          refine XS.bipush X0.here hx rfl (hb hby own_d2_43) ?_
          show own_S p e below s₁ m 45 #[iv x] [(.int (45 : Int32)), (.int x)] _
          exact kt
        refine own_st sg196 ?_
        by_cases hc197 : x = (45 : Int32)
        · skip
          have sg198 : own_V p e below s₁ (mkF m 66 #[iv x] []) (mkF m 45 #[iv x] [(.int (45 : Int32)), (.int x)]) := by
            intro t kt
            refine XS.icmpYes X0.here hx rfl (pc0 := 45) (pc' := 66) rfl (hb hby own_d2_45) rfl (teq hc197).1 (by decide) (by decide) ?_
            exact kt
          refine own_st sg198 ?_
          have sg199 : own_V p e below s₁ (mkF m 71 #[iv x] [(.int (1 : Int32))]) (mkF m 66 #[iv x] []) := by
            intro t kt
            refine XS.iconst X0.here hx rfl (hb hby own_d2_66) ?_
            show own_S p e below s₁ m 67 #[iv x] [(.int (1 : Int32))] _
            refine XS.goto X0.here hx rfl (pc0 := 67) (pc' := 71) rfl (hb hby own_d2_67) (by decide) (by decide) ?_
            show own_S p e below s₁ m 71 #[iv x] [(.int (1 : Int32))] _
            exact kt
          refine own_st sg199 ?_
          have hF : (1 : Int32) = own_ref x := by unfold own_ref; rw [if_neg hc48, if_pos hc163, if_pos hc166, if_neg hc169, if_pos hc194, if_pos hc197]
          exact own_retZ X0 hx Bd.notSynchronized Bd.returns (hb hby own_d2_71) (hF ▸ own_ref01 x) (by decide) (by decide) e0 ⟨by rw [hF], N0, rfl⟩
        have sg200 : own_V p e below s₁ (mkF m 48 #[iv x] []) (mkF m 45 #[iv x] [(.int (45 : Int32)), (.int x)]) := by
          intro t kt
          refine XS.icmpNo X0.here hx rfl (hb hby own_d2_45) rfl (feq hc197).1 ?_
          exact kt
        refine own_st sg200 ?_
        have sg201 : own_V p e below s₁ (mkF m 51 #[iv x] [(.int (46 : Int32)), (.int x)]) (mkF m 48 #[iv x] []) := by
          intro t kt
          refine XS.iloadN X0.here hx rfl (hb hby own_d2_48) rfl ?_
          show own_S p e below s₁ m 49 #[iv x] [(.int x)] _
          refine XS.bipush X0.here hx rfl (hb hby own_d2_49) ?_
          show own_S p e below s₁ m 51 #[iv x] [(.int (46 : Int32)), (.int x)] _
          exact kt
        refine own_st sg201 ?_
        by_cases hc202 : x = (46 : Int32)
        · skip
          have sg203 : own_V p e below s₁ (mkF m 66 #[iv x] []) (mkF m 51 #[iv x] [(.int (46 : Int32)), (.int x)]) := by
            intro t kt
            refine XS.icmpYes X0.here hx rfl (pc0 := 51) (pc' := 66) rfl (hb hby own_d2_51) rfl (teq hc202).1 (by decide) (by decide) ?_
            exact kt
          refine own_st sg203 ?_
          have sg204 : own_V p e below s₁ (mkF m 71 #[iv x] [(.int (1 : Int32))]) (mkF m 66 #[iv x] []) := by
            intro t kt
            refine XS.iconst X0.here hx rfl (hb hby own_d2_66) ?_
            show own_S p e below s₁ m 67 #[iv x] [(.int (1 : Int32))] _
            refine XS.goto X0.here hx rfl (pc0 := 67) (pc' := 71) rfl (hb hby own_d2_67) (by decide) (by decide) ?_
            show own_S p e below s₁ m 71 #[iv x] [(.int (1 : Int32))] _
            exact kt
          refine own_st sg204 ?_
          have hF : (1 : Int32) = own_ref x := by unfold own_ref; rw [if_neg hc48, if_pos hc163, if_pos hc166, if_neg hc169, if_pos hc194, if_neg hc197, if_pos hc202]
          exact own_retZ X0 hx Bd.notSynchronized Bd.returns (hb hby own_d2_71) (hF ▸ own_ref01 x) (by decide) (by decide) e0 ⟨by rw [hF], N0, rfl⟩
        have sg205 : own_V p e below s₁ (mkF m 54 #[iv x] []) (mkF m 51 #[iv x] [(.int (46 : Int32)), (.int x)]) := by
          intro t kt
          refine XS.icmpNo X0.here hx rfl (hb hby own_d2_51) rfl (feq hc202).1 ?_
          exact kt
        refine own_st sg205 ?_
        have sg206 : own_V p e below s₁ (mkF m 57 #[iv x] [(.int (95 : Int32)), (.int x)]) (mkF m 54 #[iv x] []) := by
          intro t kt
          refine XS.iloadN X0.here hx rfl (hb hby own_d2_54) rfl ?_
          show own_S p e below s₁ m 55 #[iv x] [(.int x)] _
          refine XS.bipush X0.here hx rfl (hb hby own_d2_55) ?_
          show own_S p e below s₁ m 57 #[iv x] [(.int (95 : Int32)), (.int x)] _
          exact kt
        refine own_st sg206 ?_
        by_cases hc207 : x = (95 : Int32)
        · skip
          have sg208 : own_V p e below s₁ (mkF m 66 #[iv x] []) (mkF m 57 #[iv x] [(.int (95 : Int32)), (.int x)]) := by
            intro t kt
            refine XS.icmpYes X0.here hx rfl (pc0 := 57) (pc' := 66) rfl (hb hby own_d2_57) rfl (teq hc207).1 (by decide) (by decide) ?_
            exact kt
          refine own_st sg208 ?_
          have sg209 : own_V p e below s₁ (mkF m 71 #[iv x] [(.int (1 : Int32))]) (mkF m 66 #[iv x] []) := by
            intro t kt
            refine XS.iconst X0.here hx rfl (hb hby own_d2_66) ?_
            show own_S p e below s₁ m 67 #[iv x] [(.int (1 : Int32))] _
            refine XS.goto X0.here hx rfl (pc0 := 67) (pc' := 71) rfl (hb hby own_d2_67) (by decide) (by decide) ?_
            show own_S p e below s₁ m 71 #[iv x] [(.int (1 : Int32))] _
            exact kt
          refine own_st sg209 ?_
          have hF : (1 : Int32) = own_ref x := by unfold own_ref; rw [if_neg hc48, if_pos hc163, if_pos hc166, if_neg hc169, if_pos hc194, if_neg hc197, if_neg hc202, if_pos hc207]
          exact own_retZ X0 hx Bd.notSynchronized Bd.returns (hb hby own_d2_71) (hF ▸ own_ref01 x) (by decide) (by decide) e0 ⟨by rw [hF], N0, rfl⟩
        have sg210 : own_V p e below s₁ (mkF m 60 #[iv x] []) (mkF m 57 #[iv x] [(.int (95 : Int32)), (.int x)]) := by
          intro t kt
          refine XS.icmpNo X0.here hx rfl (hb hby own_d2_57) rfl (feq hc207).1 ?_
          exact kt
        refine own_st sg210 ?_
        have sg211 : own_V p e below s₁ (mkF m 63 #[iv x] [(.int (126 : Int32)), (.int x)]) (mkF m 60 #[iv x] []) := by
          intro t kt
          refine XS.iloadN X0.here hx rfl (hb hby own_d2_60) rfl ?_
          show own_S p e below s₁ m 61 #[iv x] [(.int x)] _
          refine XS.bipush X0.here hx rfl (hb hby own_d2_61) ?_
          show own_S p e below s₁ m 63 #[iv x] [(.int (126 : Int32)), (.int x)] _
          exact kt
        refine own_st sg211 ?_
        by_cases hc212 : x = (126 : Int32)
        · skip
          have sg213 : own_V p e below s₁ (mkF m 66 #[iv x] []) (mkF m 63 #[iv x] [(.int (126 : Int32)), (.int x)]) := by
            intro t kt
            refine XS.icmpNo X0.here hx rfl (hb hby own_d2_63) rfl (teq hc212).2 ?_
            exact kt
          refine own_st sg213 ?_
          have sg214 : own_V p e below s₁ (mkF m 71 #[iv x] [(.int (1 : Int32))]) (mkF m 66 #[iv x] []) := by
            intro t kt
            refine XS.iconst X0.here hx rfl (hb hby own_d2_66) ?_
            show own_S p e below s₁ m 67 #[iv x] [(.int (1 : Int32))] _
            refine XS.goto X0.here hx rfl (pc0 := 67) (pc' := 71) rfl (hb hby own_d2_67) (by decide) (by decide) ?_
            show own_S p e below s₁ m 71 #[iv x] [(.int (1 : Int32))] _
            exact kt
          refine own_st sg214 ?_
          have hF : (1 : Int32) = own_ref x := by unfold own_ref; rw [if_neg hc48, if_pos hc163, if_pos hc166, if_neg hc169, if_pos hc194, if_neg hc197, if_neg hc202, if_neg hc207, if_pos hc212]
          exact own_retZ X0 hx Bd.notSynchronized Bd.returns (hb hby own_d2_71) (hF ▸ own_ref01 x) (by decide) (by decide) e0 ⟨by rw [hF], N0, rfl⟩
        have sg215 : own_V p e below s₁ (mkF m 70 #[iv x] []) (mkF m 63 #[iv x] [(.int (126 : Int32)), (.int x)]) := by
          intro t kt
          refine XS.icmpYes X0.here hx rfl (pc0 := 63) (pc' := 70) rfl (hb hby own_d2_63) rfl (feq hc212).2 (by decide) (by decide) ?_
          exact kt
        refine own_st sg215 ?_
        have sg216 : own_V p e below s₁ (mkF m 71 #[iv x] [(.int (0 : Int32))]) (mkF m 70 #[iv x] []) := by
          intro t kt
          refine XS.iconst X0.here hx rfl (hb hby own_d2_70) ?_
          show own_S p e below s₁ m 71 #[iv x] [(.int (0 : Int32))] _
          exact kt
        refine own_st sg216 ?_
        have hF : (0 : Int32) = own_ref x := by unfold own_ref; rw [if_neg hc48, if_pos hc163, if_pos hc166, if_neg hc169, if_pos hc194, if_neg hc197, if_neg hc202, if_neg hc207, if_neg hc212]
        exact own_retZ X0 hx Bd.notSynchronized Bd.returns (hb hby own_d2_71) (hF ▸ own_ref01 x) (by decide) (by decide) e0 ⟨by rw [hF], N0, rfl⟩
      have sg217 : own_V p e below s₁ (mkF m 40 #[iv x] []) (mkF m 37 #[iv x] [(.int (57 : Int32)), (.int x)]) := by
        intro t kt
        refine XS.icmpNo X0.here hx rfl (hb hby own_d2_37) rfl (flt hc194).2.2.1 ?_
        exact kt
      refine own_st sg217 ?_
      have sg218 : own_V p e below s₁ (mkF m 41 #[iv x] [(.int (1 : Int32))]) (mkF m 40 #[iv x] []) := by
        intro t kt
        refine XS.iconst X0.here hx rfl (hb hby own_d2_40) ?_
        show own_S p e below s₁ m 41 #[iv x] [(.int (1 : Int32))] _
        exact kt
      refine own_st sg218 ?_
      have hF : (1 : Int32) = own_ref x := by unfold own_ref; rw [if_neg hc48, if_pos hc163, if_pos hc166, if_neg hc169, if_neg hc194]
      exact own_retZ X0 hx Bd.notSynchronized Bd.returns (hb hby own_d2_41) (hF ▸ own_ref01 x) (by decide) (by decide) e0 ⟨by rw [hF], N0, rfl⟩
    have sg219 : own_V p e below s₁ (mkF m 20 #[iv x] []) (mkF m 17 #[iv x] [(.int (65 : Int32)), (.int x)]) := by
      intro t kt
      refine XS.icmpNo X0.here hx rfl (hb hby own_d2_17) rfl (flt hc166).1 ?_
      exact kt
    refine own_st sg219 ?_
    have sg220 : own_V p e below s₁ (mkF m 23 #[iv x] [(.int (90 : Int32)), (.int x)]) (mkF m 20 #[iv x] []) := by
      intro t kt
      refine XS.iloadN X0.here hx rfl (hb hby own_d2_20) rfl ?_
      show own_S p e below s₁ m 21 #[iv x] [(.int x)] _
      refine XS.bipush X0.here hx rfl (hb hby own_d2_21) ?_
      show own_S p e below s₁ m 23 #[iv x] [(.int (90 : Int32)), (.int x)] _
      exact kt
    refine own_st sg220 ?_
    by_cases hc221 : (90 : Int32) < x
    · skip
      have sg222 : own_V p e below s₁ (mkF m 28 #[iv x] []) (mkF m 23 #[iv x] [(.int (90 : Int32)), (.int x)]) := by
        intro t kt
        refine XS.icmpYes X0.here hx rfl (pc0 := 23) (pc' := 28) rfl (hb hby own_d2_23) rfl (tlt hc221).2.2.1 (by decide) (by decide) ?_
        exact kt
      refine own_st sg222 ?_
      have sg223 : own_V p e below s₁ (mkF m 31 #[iv x] [(.int (48 : Int32)), (.int x)]) (mkF m 28 #[iv x] []) := by
        intro t kt
        refine XS.iloadN X0.here hx rfl (hb hby own_d2_28) rfl ?_
        show own_S p e below s₁ m 29 #[iv x] [(.int x)] _
        refine XS.bipush X0.here hx rfl (hb hby own_d2_29) ?_
        show own_S p e below s₁ m 31 #[iv x] [(.int (48 : Int32)), (.int x)] _
        exact kt
      refine own_st sg223 ?_
      by_cases hc224 : x < (48 : Int32)
      · skip
        have sg225 : own_V p e below s₁ (mkF m 42 #[iv x] []) (mkF m 31 #[iv x] [(.int (48 : Int32)), (.int x)]) := by
          intro t kt
          refine XS.icmpYes X0.here hx rfl (pc0 := 31) (pc' := 42) rfl (hb hby own_d2_31) rfl (tlt hc224).1 (by decide) (by decide) ?_
          exact kt
        refine own_st sg225 ?_
        have sg226 : own_V p e below s₁ (mkF m 45 #[iv x] [(.int (45 : Int32)), (.int x)]) (mkF m 42 #[iv x] []) := by
          intro t kt
          refine XS.iloadN X0.here hx rfl (hb hby own_d2_42) rfl ?_
          show own_S p e below s₁ m 43 #[iv x] [(.int x)] _
          refine XS.bipush X0.here hx rfl (hb hby own_d2_43) ?_
          show own_S p e below s₁ m 45 #[iv x] [(.int (45 : Int32)), (.int x)] _
          exact kt
        refine own_st sg226 ?_
        by_cases hc227 : x = (45 : Int32)
        · skip
          have sg228 : own_V p e below s₁ (mkF m 66 #[iv x] []) (mkF m 45 #[iv x] [(.int (45 : Int32)), (.int x)]) := by
            intro t kt
            refine XS.icmpYes X0.here hx rfl (pc0 := 45) (pc' := 66) rfl (hb hby own_d2_45) rfl (teq hc227).1 (by decide) (by decide) ?_
            exact kt
          refine own_st sg228 ?_
          have sg229 : own_V p e below s₁ (mkF m 71 #[iv x] [(.int (1 : Int32))]) (mkF m 66 #[iv x] []) := by
            intro t kt
            refine XS.iconst X0.here hx rfl (hb hby own_d2_66) ?_
            show own_S p e below s₁ m 67 #[iv x] [(.int (1 : Int32))] _
            refine XS.goto X0.here hx rfl (pc0 := 67) (pc' := 71) rfl (hb hby own_d2_67) (by decide) (by decide) ?_
            show own_S p e below s₁ m 71 #[iv x] [(.int (1 : Int32))] _
            exact kt
          refine own_st sg229 ?_
          have hF : (1 : Int32) = own_ref x := by unfold own_ref; rw [if_neg hc48, if_pos hc163, if_neg hc166, if_pos hc221, if_pos hc224, if_pos hc227]
          exact own_retZ X0 hx Bd.notSynchronized Bd.returns (hb hby own_d2_71) (hF ▸ own_ref01 x) (by decide) (by decide) e0 ⟨by rw [hF], N0, rfl⟩
        have sg230 : own_V p e below s₁ (mkF m 48 #[iv x] []) (mkF m 45 #[iv x] [(.int (45 : Int32)), (.int x)]) := by
          intro t kt
          refine XS.icmpNo X0.here hx rfl (hb hby own_d2_45) rfl (feq hc227).1 ?_
          exact kt
        refine own_st sg230 ?_
        have sg231 : own_V p e below s₁ (mkF m 51 #[iv x] [(.int (46 : Int32)), (.int x)]) (mkF m 48 #[iv x] []) := by
          intro t kt
          refine XS.iloadN X0.here hx rfl (hb hby own_d2_48) rfl ?_
          show own_S p e below s₁ m 49 #[iv x] [(.int x)] _
          refine XS.bipush X0.here hx rfl (hb hby own_d2_49) ?_
          show own_S p e below s₁ m 51 #[iv x] [(.int (46 : Int32)), (.int x)] _
          exact kt
        refine own_st sg231 ?_
        by_cases hc232 : x = (46 : Int32)
        · skip
          have sg233 : own_V p e below s₁ (mkF m 66 #[iv x] []) (mkF m 51 #[iv x] [(.int (46 : Int32)), (.int x)]) := by
            intro t kt
            refine XS.icmpYes X0.here hx rfl (pc0 := 51) (pc' := 66) rfl (hb hby own_d2_51) rfl (teq hc232).1 (by decide) (by decide) ?_
            exact kt
          refine own_st sg233 ?_
          have sg234 : own_V p e below s₁ (mkF m 71 #[iv x] [(.int (1 : Int32))]) (mkF m 66 #[iv x] []) := by
            intro t kt
            refine XS.iconst X0.here hx rfl (hb hby own_d2_66) ?_
            show own_S p e below s₁ m 67 #[iv x] [(.int (1 : Int32))] _
            refine XS.goto X0.here hx rfl (pc0 := 67) (pc' := 71) rfl (hb hby own_d2_67) (by decide) (by decide) ?_
            show own_S p e below s₁ m 71 #[iv x] [(.int (1 : Int32))] _
            exact kt
          refine own_st sg234 ?_
          have hF : (1 : Int32) = own_ref x := by unfold own_ref; rw [if_neg hc48, if_pos hc163, if_neg hc166, if_pos hc221, if_pos hc224, if_neg hc227, if_pos hc232]
          exact own_retZ X0 hx Bd.notSynchronized Bd.returns (hb hby own_d2_71) (hF ▸ own_ref01 x) (by decide) (by decide) e0 ⟨by rw [hF], N0, rfl⟩
        have sg235 : own_V p e below s₁ (mkF m 54 #[iv x] []) (mkF m 51 #[iv x] [(.int (46 : Int32)), (.int x)]) := by
          intro t kt
          refine XS.icmpNo X0.here hx rfl (hb hby own_d2_51) rfl (feq hc232).1 ?_
          exact kt
        refine own_st sg235 ?_
        have sg236 : own_V p e below s₁ (mkF m 57 #[iv x] [(.int (95 : Int32)), (.int x)]) (mkF m 54 #[iv x] []) := by
          intro t kt
          refine XS.iloadN X0.here hx rfl (hb hby own_d2_54) rfl ?_
          show own_S p e below s₁ m 55 #[iv x] [(.int x)] _
          refine XS.bipush X0.here hx rfl (hb hby own_d2_55) ?_
          show own_S p e below s₁ m 57 #[iv x] [(.int (95 : Int32)), (.int x)] _
          exact kt
        refine own_st sg236 ?_
        by_cases hc237 : x = (95 : Int32)
        · skip
          have sg238 : own_V p e below s₁ (mkF m 66 #[iv x] []) (mkF m 57 #[iv x] [(.int (95 : Int32)), (.int x)]) := by
            intro t kt
            refine XS.icmpYes X0.here hx rfl (pc0 := 57) (pc' := 66) rfl (hb hby own_d2_57) rfl (teq hc237).1 (by decide) (by decide) ?_
            exact kt
          refine own_st sg238 ?_
          have sg239 : own_V p e below s₁ (mkF m 71 #[iv x] [(.int (1 : Int32))]) (mkF m 66 #[iv x] []) := by
            intro t kt
            refine XS.iconst X0.here hx rfl (hb hby own_d2_66) ?_
            show own_S p e below s₁ m 67 #[iv x] [(.int (1 : Int32))] _
            refine XS.goto X0.here hx rfl (pc0 := 67) (pc' := 71) rfl (hb hby own_d2_67) (by decide) (by decide) ?_
            show own_S p e below s₁ m 71 #[iv x] [(.int (1 : Int32))] _
            exact kt
          refine own_st sg239 ?_
          have hF : (1 : Int32) = own_ref x := by unfold own_ref; rw [if_neg hc48, if_pos hc163, if_neg hc166, if_pos hc221, if_pos hc224, if_neg hc227, if_neg hc232, if_pos hc237]
          exact own_retZ X0 hx Bd.notSynchronized Bd.returns (hb hby own_d2_71) (hF ▸ own_ref01 x) (by decide) (by decide) e0 ⟨by rw [hF], N0, rfl⟩
        have sg240 : own_V p e below s₁ (mkF m 60 #[iv x] []) (mkF m 57 #[iv x] [(.int (95 : Int32)), (.int x)]) := by
          intro t kt
          refine XS.icmpNo X0.here hx rfl (hb hby own_d2_57) rfl (feq hc237).1 ?_
          exact kt
        refine own_st sg240 ?_
        have sg241 : own_V p e below s₁ (mkF m 63 #[iv x] [(.int (126 : Int32)), (.int x)]) (mkF m 60 #[iv x] []) := by
          intro t kt
          refine XS.iloadN X0.here hx rfl (hb hby own_d2_60) rfl ?_
          show own_S p e below s₁ m 61 #[iv x] [(.int x)] _
          refine XS.bipush X0.here hx rfl (hb hby own_d2_61) ?_
          show own_S p e below s₁ m 63 #[iv x] [(.int (126 : Int32)), (.int x)] _
          exact kt
        refine own_st sg241 ?_
        by_cases hc242 : x = (126 : Int32)
        · skip
          have sg243 : own_V p e below s₁ (mkF m 66 #[iv x] []) (mkF m 63 #[iv x] [(.int (126 : Int32)), (.int x)]) := by
            intro t kt
            refine XS.icmpNo X0.here hx rfl (hb hby own_d2_63) rfl (teq hc242).2 ?_
            exact kt
          refine own_st sg243 ?_
          have sg244 : own_V p e below s₁ (mkF m 71 #[iv x] [(.int (1 : Int32))]) (mkF m 66 #[iv x] []) := by
            intro t kt
            refine XS.iconst X0.here hx rfl (hb hby own_d2_66) ?_
            show own_S p e below s₁ m 67 #[iv x] [(.int (1 : Int32))] _
            refine XS.goto X0.here hx rfl (pc0 := 67) (pc' := 71) rfl (hb hby own_d2_67) (by decide) (by decide) ?_
            show own_S p e below s₁ m 71 #[iv x] [(.int (1 : Int32))] _
            exact kt
          refine own_st sg244 ?_
          have hF : (1 : Int32) = own_ref x := by unfold own_ref; rw [if_neg hc48, if_pos hc163, if_neg hc166, if_pos hc221, if_pos hc224, if_neg hc227, if_neg hc232, if_neg hc237, if_pos hc242]
          exact own_retZ X0 hx Bd.notSynchronized Bd.returns (hb hby own_d2_71) (hF ▸ own_ref01 x) (by decide) (by decide) e0 ⟨by rw [hF], N0, rfl⟩
        have sg245 : own_V p e below s₁ (mkF m 70 #[iv x] []) (mkF m 63 #[iv x] [(.int (126 : Int32)), (.int x)]) := by
          intro t kt
          refine XS.icmpYes X0.here hx rfl (pc0 := 63) (pc' := 70) rfl (hb hby own_d2_63) rfl (feq hc242).2 (by decide) (by decide) ?_
          exact kt
        refine own_st sg245 ?_
        have sg246 : own_V p e below s₁ (mkF m 71 #[iv x] [(.int (0 : Int32))]) (mkF m 70 #[iv x] []) := by
          intro t kt
          refine XS.iconst X0.here hx rfl (hb hby own_d2_70) ?_
          show own_S p e below s₁ m 71 #[iv x] [(.int (0 : Int32))] _
          exact kt
        refine own_st sg246 ?_
        have hF : (0 : Int32) = own_ref x := by unfold own_ref; rw [if_neg hc48, if_pos hc163, if_neg hc166, if_pos hc221, if_pos hc224, if_neg hc227, if_neg hc232, if_neg hc237, if_neg hc242]
        exact own_retZ X0 hx Bd.notSynchronized Bd.returns (hb hby own_d2_71) (hF ▸ own_ref01 x) (by decide) (by decide) e0 ⟨by rw [hF], N0, rfl⟩
      have sg247 : own_V p e below s₁ (mkF m 34 #[iv x] []) (mkF m 31 #[iv x] [(.int (48 : Int32)), (.int x)]) := by
        intro t kt
        refine XS.icmpNo X0.here hx rfl (hb hby own_d2_31) rfl (flt hc224).1 ?_
        exact kt
      refine own_st sg247 ?_
      have sg248 : own_V p e below s₁ (mkF m 37 #[iv x] [(.int (57 : Int32)), (.int x)]) (mkF m 34 #[iv x] []) := by
        intro t kt
        refine XS.iloadN X0.here hx rfl (hb hby own_d2_34) rfl ?_
        show own_S p e below s₁ m 35 #[iv x] [(.int x)] _
        refine XS.bipush X0.here hx rfl (hb hby own_d2_35) ?_
        show own_S p e below s₁ m 37 #[iv x] [(.int (57 : Int32)), (.int x)] _
        exact kt
      refine own_st sg248 ?_
      by_cases hc249 : (57 : Int32) < x
      · skip
        have sg250 : own_V p e below s₁ (mkF m 42 #[iv x] []) (mkF m 37 #[iv x] [(.int (57 : Int32)), (.int x)]) := by
          intro t kt
          refine XS.icmpYes X0.here hx rfl (pc0 := 37) (pc' := 42) rfl (hb hby own_d2_37) rfl (tlt hc249).2.2.1 (by decide) (by decide) ?_
          exact kt
        refine own_st sg250 ?_
        have sg251 : own_V p e below s₁ (mkF m 45 #[iv x] [(.int (45 : Int32)), (.int x)]) (mkF m 42 #[iv x] []) := by
          intro t kt
          refine XS.iloadN X0.here hx rfl (hb hby own_d2_42) rfl ?_
          show own_S p e below s₁ m 43 #[iv x] [(.int x)] _
          refine XS.bipush X0.here hx rfl (hb hby own_d2_43) ?_
          show own_S p e below s₁ m 45 #[iv x] [(.int (45 : Int32)), (.int x)] _
          exact kt
        refine own_st sg251 ?_
        by_cases hc252 : x = (45 : Int32)
        · skip
          have sg253 : own_V p e below s₁ (mkF m 66 #[iv x] []) (mkF m 45 #[iv x] [(.int (45 : Int32)), (.int x)]) := by
            intro t kt
            refine XS.icmpYes X0.here hx rfl (pc0 := 45) (pc' := 66) rfl (hb hby own_d2_45) rfl (teq hc252).1 (by decide) (by decide) ?_
            exact kt
          refine own_st sg253 ?_
          have sg254 : own_V p e below s₁ (mkF m 71 #[iv x] [(.int (1 : Int32))]) (mkF m 66 #[iv x] []) := by
            intro t kt
            refine XS.iconst X0.here hx rfl (hb hby own_d2_66) ?_
            show own_S p e below s₁ m 67 #[iv x] [(.int (1 : Int32))] _
            refine XS.goto X0.here hx rfl (pc0 := 67) (pc' := 71) rfl (hb hby own_d2_67) (by decide) (by decide) ?_
            show own_S p e below s₁ m 71 #[iv x] [(.int (1 : Int32))] _
            exact kt
          refine own_st sg254 ?_
          have hF : (1 : Int32) = own_ref x := by unfold own_ref; rw [if_neg hc48, if_pos hc163, if_neg hc166, if_pos hc221, if_neg hc224, if_pos hc249, if_pos hc252]
          exact own_retZ X0 hx Bd.notSynchronized Bd.returns (hb hby own_d2_71) (hF ▸ own_ref01 x) (by decide) (by decide) e0 ⟨by rw [hF], N0, rfl⟩
        have sg255 : own_V p e below s₁ (mkF m 48 #[iv x] []) (mkF m 45 #[iv x] [(.int (45 : Int32)), (.int x)]) := by
          intro t kt
          refine XS.icmpNo X0.here hx rfl (hb hby own_d2_45) rfl (feq hc252).1 ?_
          exact kt
        refine own_st sg255 ?_
        have sg256 : own_V p e below s₁ (mkF m 51 #[iv x] [(.int (46 : Int32)), (.int x)]) (mkF m 48 #[iv x] []) := by
          intro t kt
          refine XS.iloadN X0.here hx rfl (hb hby own_d2_48) rfl ?_
          show own_S p e below s₁ m 49 #[iv x] [(.int x)] _
          refine XS.bipush X0.here hx rfl (hb hby own_d2_49) ?_
          show own_S p e below s₁ m 51 #[iv x] [(.int (46 : Int32)), (.int x)] _
          exact kt
        refine own_st sg256 ?_
        by_cases hc257 : x = (46 : Int32)
        · skip
          have sg258 : own_V p e below s₁ (mkF m 66 #[iv x] []) (mkF m 51 #[iv x] [(.int (46 : Int32)), (.int x)]) := by
            intro t kt
            refine XS.icmpYes X0.here hx rfl (pc0 := 51) (pc' := 66) rfl (hb hby own_d2_51) rfl (teq hc257).1 (by decide) (by decide) ?_
            exact kt
          refine own_st sg258 ?_
          have sg259 : own_V p e below s₁ (mkF m 71 #[iv x] [(.int (1 : Int32))]) (mkF m 66 #[iv x] []) := by
            intro t kt
            refine XS.iconst X0.here hx rfl (hb hby own_d2_66) ?_
            show own_S p e below s₁ m 67 #[iv x] [(.int (1 : Int32))] _
            refine XS.goto X0.here hx rfl (pc0 := 67) (pc' := 71) rfl (hb hby own_d2_67) (by decide) (by decide) ?_
            show own_S p e below s₁ m 71 #[iv x] [(.int (1 : Int32))] _
            exact kt
          refine own_st sg259 ?_
          have hF : (1 : Int32) = own_ref x := by unfold own_ref; rw [if_neg hc48, if_pos hc163, if_neg hc166, if_pos hc221, if_neg hc224, if_pos hc249, if_neg hc252, if_pos hc257]
          exact own_retZ X0 hx Bd.notSynchronized Bd.returns (hb hby own_d2_71) (hF ▸ own_ref01 x) (by decide) (by decide) e0 ⟨by rw [hF], N0, rfl⟩
        have sg260 : own_V p e below s₁ (mkF m 54 #[iv x] []) (mkF m 51 #[iv x] [(.int (46 : Int32)), (.int x)]) := by
          intro t kt
          refine XS.icmpNo X0.here hx rfl (hb hby own_d2_51) rfl (feq hc257).1 ?_
          exact kt
        refine own_st sg260 ?_
        have sg261 : own_V p e below s₁ (mkF m 57 #[iv x] [(.int (95 : Int32)), (.int x)]) (mkF m 54 #[iv x] []) := by
          intro t kt
          refine XS.iloadN X0.here hx rfl (hb hby own_d2_54) rfl ?_
          show own_S p e below s₁ m 55 #[iv x] [(.int x)] _
          refine XS.bipush X0.here hx rfl (hb hby own_d2_55) ?_
          show own_S p e below s₁ m 57 #[iv x] [(.int (95 : Int32)), (.int x)] _
          exact kt
        refine own_st sg261 ?_
        by_cases hc262 : x = (95 : Int32)
        · skip
          have sg263 : own_V p e below s₁ (mkF m 66 #[iv x] []) (mkF m 57 #[iv x] [(.int (95 : Int32)), (.int x)]) := by
            intro t kt
            refine XS.icmpYes X0.here hx rfl (pc0 := 57) (pc' := 66) rfl (hb hby own_d2_57) rfl (teq hc262).1 (by decide) (by decide) ?_
            exact kt
          refine own_st sg263 ?_
          have sg264 : own_V p e below s₁ (mkF m 71 #[iv x] [(.int (1 : Int32))]) (mkF m 66 #[iv x] []) := by
            intro t kt
            refine XS.iconst X0.here hx rfl (hb hby own_d2_66) ?_
            show own_S p e below s₁ m 67 #[iv x] [(.int (1 : Int32))] _
            refine XS.goto X0.here hx rfl (pc0 := 67) (pc' := 71) rfl (hb hby own_d2_67) (by decide) (by decide) ?_
            show own_S p e below s₁ m 71 #[iv x] [(.int (1 : Int32))] _
            exact kt
          refine own_st sg264 ?_
          have hF : (1 : Int32) = own_ref x := by unfold own_ref; rw [if_neg hc48, if_pos hc163, if_neg hc166, if_pos hc221, if_neg hc224, if_pos hc249, if_neg hc252, if_neg hc257, if_pos hc262]
          exact own_retZ X0 hx Bd.notSynchronized Bd.returns (hb hby own_d2_71) (hF ▸ own_ref01 x) (by decide) (by decide) e0 ⟨by rw [hF], N0, rfl⟩
        have sg265 : own_V p e below s₁ (mkF m 60 #[iv x] []) (mkF m 57 #[iv x] [(.int (95 : Int32)), (.int x)]) := by
          intro t kt
          refine XS.icmpNo X0.here hx rfl (hb hby own_d2_57) rfl (feq hc262).1 ?_
          exact kt
        refine own_st sg265 ?_
        have sg266 : own_V p e below s₁ (mkF m 63 #[iv x] [(.int (126 : Int32)), (.int x)]) (mkF m 60 #[iv x] []) := by
          intro t kt
          refine XS.iloadN X0.here hx rfl (hb hby own_d2_60) rfl ?_
          show own_S p e below s₁ m 61 #[iv x] [(.int x)] _
          refine XS.bipush X0.here hx rfl (hb hby own_d2_61) ?_
          show own_S p e below s₁ m 63 #[iv x] [(.int (126 : Int32)), (.int x)] _
          exact kt
        refine own_st sg266 ?_
        by_cases hc267 : x = (126 : Int32)
        · skip
          have sg268 : own_V p e below s₁ (mkF m 66 #[iv x] []) (mkF m 63 #[iv x] [(.int (126 : Int32)), (.int x)]) := by
            intro t kt
            refine XS.icmpNo X0.here hx rfl (hb hby own_d2_63) rfl (teq hc267).2 ?_
            exact kt
          refine own_st sg268 ?_
          have sg269 : own_V p e below s₁ (mkF m 71 #[iv x] [(.int (1 : Int32))]) (mkF m 66 #[iv x] []) := by
            intro t kt
            refine XS.iconst X0.here hx rfl (hb hby own_d2_66) ?_
            show own_S p e below s₁ m 67 #[iv x] [(.int (1 : Int32))] _
            refine XS.goto X0.here hx rfl (pc0 := 67) (pc' := 71) rfl (hb hby own_d2_67) (by decide) (by decide) ?_
            show own_S p e below s₁ m 71 #[iv x] [(.int (1 : Int32))] _
            exact kt
          refine own_st sg269 ?_
          have hF : (1 : Int32) = own_ref x := by unfold own_ref; rw [if_neg hc48, if_pos hc163, if_neg hc166, if_pos hc221, if_neg hc224, if_pos hc249, if_neg hc252, if_neg hc257, if_neg hc262, if_pos hc267]
          exact own_retZ X0 hx Bd.notSynchronized Bd.returns (hb hby own_d2_71) (hF ▸ own_ref01 x) (by decide) (by decide) e0 ⟨by rw [hF], N0, rfl⟩
        have sg270 : own_V p e below s₁ (mkF m 70 #[iv x] []) (mkF m 63 #[iv x] [(.int (126 : Int32)), (.int x)]) := by
          intro t kt
          refine XS.icmpYes X0.here hx rfl (pc0 := 63) (pc' := 70) rfl (hb hby own_d2_63) rfl (feq hc267).2 (by decide) (by decide) ?_
          exact kt
        refine own_st sg270 ?_
        have sg271 : own_V p e below s₁ (mkF m 71 #[iv x] [(.int (0 : Int32))]) (mkF m 70 #[iv x] []) := by
          intro t kt
          refine XS.iconst X0.here hx rfl (hb hby own_d2_70) ?_
          show own_S p e below s₁ m 71 #[iv x] [(.int (0 : Int32))] _
          exact kt
        refine own_st sg271 ?_
        have hF : (0 : Int32) = own_ref x := by unfold own_ref; rw [if_neg hc48, if_pos hc163, if_neg hc166, if_pos hc221, if_neg hc224, if_pos hc249, if_neg hc252, if_neg hc257, if_neg hc262, if_neg hc267]
        exact own_retZ X0 hx Bd.notSynchronized Bd.returns (hb hby own_d2_71) (hF ▸ own_ref01 x) (by decide) (by decide) e0 ⟨by rw [hF], N0, rfl⟩
      have sg272 : own_V p e below s₁ (mkF m 40 #[iv x] []) (mkF m 37 #[iv x] [(.int (57 : Int32)), (.int x)]) := by
        intro t kt
        refine XS.icmpNo X0.here hx rfl (hb hby own_d2_37) rfl (flt hc249).2.2.1 ?_
        exact kt
      refine own_st sg272 ?_
      have sg273 : own_V p e below s₁ (mkF m 41 #[iv x] [(.int (1 : Int32))]) (mkF m 40 #[iv x] []) := by
        intro t kt
        refine XS.iconst X0.here hx rfl (hb hby own_d2_40) ?_
        show own_S p e below s₁ m 41 #[iv x] [(.int (1 : Int32))] _
        exact kt
      refine own_st sg273 ?_
      have hF : (1 : Int32) = own_ref x := by unfold own_ref; rw [if_neg hc48, if_pos hc163, if_neg hc166, if_pos hc221, if_neg hc224, if_neg hc249]
      exact own_retZ X0 hx Bd.notSynchronized Bd.returns (hb hby own_d2_41) (hF ▸ own_ref01 x) (by decide) (by decide) e0 ⟨by rw [hF], N0, rfl⟩
    have sg274 : own_V p e below s₁ (mkF m 26 #[iv x] []) (mkF m 23 #[iv x] [(.int (90 : Int32)), (.int x)]) := by
      intro t kt
      refine XS.icmpNo X0.here hx rfl (hb hby own_d2_23) rfl (flt hc221).2.2.1 ?_
      exact kt
    refine own_st sg274 ?_
    have sg275 : own_V p e below s₁ (mkF m 27 #[iv x] [(.int (1 : Int32))]) (mkF m 26 #[iv x] []) := by
      intro t kt
      refine XS.iconst X0.here hx rfl (hb hby own_d2_26) ?_
      show own_S p e below s₁ m 27 #[iv x] [(.int (1 : Int32))] _
      exact kt
    refine own_st sg275 ?_
    have hF : (1 : Int32) = own_ref x := by unfold own_ref; rw [if_neg hc48, if_pos hc163, if_neg hc166, if_neg hc221]
    exact own_retZ X0 hx Bd.notSynchronized Bd.returns (hb hby own_d2_27) (hF ▸ own_ref01 x) (by decide) (by decide) e0 ⟨by rw [hF], N0, rfl⟩
  have sg276 : own_V p e below s₁ (mkF m 12 #[iv x] []) (mkF m 9 #[iv x] [(.int (122 : Int32)), (.int x)]) := by
    intro t kt
    refine XS.icmpNo X0.here hx rfl (hb hby own_d2_9) rfl (flt hc163).2.2.1 ?_
    exact kt
  refine own_st sg276 ?_
  have sg277 : own_V p e below s₁ (mkF m 13 #[iv x] [(.int (1 : Int32))]) (mkF m 12 #[iv x] []) := by
    intro t kt
    refine XS.iconst X0.here hx rfl (hb hby own_d2_12) ?_
    show own_S p e below s₁ m 13 #[iv x] [(.int (1 : Int32))] _
    exact kt
  refine own_st sg277 ?_
  have hF : (1 : Int32) = own_ref x := by unfold own_ref; rw [if_neg hc48, if_neg hc163]
  exact own_retZ X0 hx Bd.notSynchronized Bd.returns (hb hby own_d2_13) (hF ▸ own_ref01 x) (by decide) (by decide) e0 ⟨by rw [hF], N0, rfl⟩
def own_tab (i : Nat) : Int32 := if (48 ≤ i ∧ i < 58) ∨ (65 ≤ i ∧ i < 91) ∨ (97 ≤ i ∧ i < 123) ∨ i = 45 ∨ i = 46 ∨ i = 95 ∨ i = 126 then 1 else 0
theorem own_nn (x sel cc : Int32) (hcc : cc = (if (sel &&& (3 : Int32)) = (0 : Int32) then (x &&& (127 : Int32)) else (if (sel &&& (3 : Int32)) = (1 : Int32) then (x &&& (255 : Int32)) else (if (sel &&& (3 : Int32)) = (2 : Int32) then (x &&& (65535 : Int32)) else (x &&& (2147483647 : Int32)))))) : 0 ≤ cc.toInt := by
  have m1 : (x &&& (127 : Int32)).toInt = x.toInt % ((2 ^ 7 : Nat) : Int) := c_mask x 127 7 (by decide) (by decide)
  have m2 : (x &&& (255 : Int32)).toInt = x.toInt % ((2 ^ 8 : Nat) : Int) := c_mask x 255 8 (by decide) (by decide)
  have m3 : (x &&& (65535 : Int32)).toInt = x.toInt % ((2 ^ 16 : Nat) : Int) := c_mask x 65535 16 (by decide) (by decide)
  have m4 : (x &&& (2147483647 : Int32)).toInt = x.toInt % ((2 ^ 31 : Nat) : Int) := c_mask x 2147483647 31 (by decide) (by decide)
  rw [hcc]
  split
  · omega
  · split
    · omega
    · split <;> omega
set_option maxHeartbeats 8000000 in
theorem own_same (x : Int32) (f : Nat → Int32) (h0 : 0 ≤ x.toInt) (hf : ∀ i, i < 128 → f i = own_tab i) : (own_un x f) = (own_ref x) := by
  have e128 : (128 : Int32).toInt = 128 := by decide
  have e97 : (97 : Int32).toInt = 97 := by decide
  have e122 : (122 : Int32).toInt = 122 := by decide
  have e65 : (65 : Int32).toInt = 65 := by decide
  have e90 : (90 : Int32).toInt = 90 := by decide
  have e48 : (48 : Int32).toInt = 48 := by decide
  have e57 : (57 : Int32).toInt = 57 := by decide
  have e45 : (45 : Int32).toInt = 45 := by decide
  have e46 : (46 : Int32).toInt = 46 := by decide
  have e95 : (95 : Int32).toInt = 95 := by decide
  have e126 : (126 : Int32).toInt = 126 := by decide
  have eqi : ∀ y : Int32, x = y ↔ x.toInt = y.toInt := fun y => Int32.toInt_inj.symm
  have A : own_un x f = if ((48 ≤ x.toInt ∧ x.toInt < 58) ∨ (65 ≤ x.toInt ∧ x.toInt < 91) ∨ (97 ≤ x.toInt ∧ x.toInt < 123) ∨ x.toInt = 45 ∨ x.toInt = 46 ∨ x.toInt = 95 ∨ x.toInt = 126) then 1 else 0 := by
    unfold own_un
    by_cases q : x < (128 : Int32)
    · rw [if_pos q]
      rw [Int32.lt_iff_toInt_lt, e128] at q
      rw [hf _ (by omega)]
      unfold own_tab
      by_cases r : ((48 ≤ x.toInt ∧ x.toInt < 58) ∨ (65 ≤ x.toInt ∧ x.toInt < 91) ∨ (97 ≤ x.toInt ∧ x.toInt < 123) ∨ x.toInt = 45 ∨ x.toInt = 46 ∨ x.toInt = 95 ∨ x.toInt = 126)
      · have t : ((48 ≤ x.toInt.toNat ∧ x.toInt.toNat < 58) ∨ (65 ≤ x.toInt.toNat ∧ x.toInt.toNat < 91) ∨ (97 ≤ x.toInt.toNat ∧ x.toInt.toNat < 123) ∨ x.toInt.toNat = 45 ∨ x.toInt.toNat = 46 ∨ x.toInt.toNat = 95 ∨ x.toInt.toNat = 126) := by omega
        rw [if_pos r, if_pos t, if_neg (by decide)]
      · have t : ¬ ((48 ≤ x.toInt.toNat ∧ x.toInt.toNat < 58) ∨ (65 ≤ x.toInt.toNat ∧ x.toInt.toNat < 91) ∨ (97 ≤ x.toInt.toNat ∧ x.toInt.toNat < 123) ∨ x.toInt.toNat = 45 ∨ x.toInt.toNat = 46 ∨ x.toInt.toNat = 95 ∨ x.toInt.toNat = 126) := by omega
        rw [if_neg r, if_neg t, if_pos rfl]
    · rw [if_neg q]
      rw [Int32.lt_iff_toInt_lt, e128] at q
      have t : ¬ ((48 ≤ x.toInt ∧ x.toInt < 58) ∨ (65 ≤ x.toInt ∧ x.toInt < 91) ∨ (97 ≤ x.toInt ∧ x.toInt < 123) ∨ x.toInt = 45 ∨ x.toInt = 46 ∨ x.toInt = 95 ∨ x.toInt = 126) := by omega
      rw [if_neg t]
  have B : own_ref x = if ((48 ≤ x.toInt ∧ x.toInt < 58) ∨ (65 ≤ x.toInt ∧ x.toInt < 91) ∨ (97 ≤ x.toInt ∧ x.toInt < 123) ∨ x.toInt = 45 ∨ x.toInt = 46 ∨ x.toInt = 95 ∨ x.toInt = 126) then 1 else 0 := by
    by_cases r : ((48 ≤ x.toInt ∧ x.toInt < 58) ∨ (65 ≤ x.toInt ∧ x.toInt < 91) ∨ (97 ≤ x.toInt ∧ x.toInt < 123) ∨ x.toInt = 45 ∨ x.toInt = 46 ∨ x.toInt = 95 ∨ x.toInt = 126)
    · rw [if_pos r]
      unfold own_ref
      repeat' split
      all_goals first | rfl | (exfalso; simp only [Int32.lt_iff_toInt_lt, eqi, e97, e122, e65, e90, e48, e57, e45, e46, e95, e126] at *; omega)
    · rw [if_neg r]
      unfold own_ref
      repeat' split
      all_goals first | rfl | (exfalso; simp only [Int32.lt_iff_toInt_lt, eqi, e97, e122, e65, e90, e48, e57, e45, e46, e95, e126] at *; omega)
  rw [A, B]
theorem own_eqint {args : Array Value} {first s : State} {o : Option Outcome} {idx : List Nat} {t : Term} {z : Int32} (h : (Jvm.Cond.eq t (.int z)).value args first o s idx = some true) : t.eval args first o idx s = some (.int z) := Cond.eq_int (beq_iff_eq.mpr h) rfl
section Tb
variable {args : Array Value} {s : State} {t : Term} {a : Addr} {n : Nat} {f : Nat → Int32}
theorem own_elem (ev : ∀ idx, t.eval args s none idx s = some (.ref a)) (A : own_AI s s.heap a .boolean n f) {idx : List Nat} {u : Term} {j : Int32} {i : Nat} (hu : u.eval args s none idx s = some (.int j)) (hj : j.toInt = (i : Int)) (hi : i < n) : (Term.elem t u).eval args s none idx s = some (.int (f i)) := by
  obtain ⟨cl, A1, S, H, -⟩ := A
  obtain ⟨hin, e1⟩ := own_idx S hj hi
  rw [elem_f (ev idx) hu (A1.fin (Vm.Alike.refl _)) (fun q => hin (Or.inl q)), e1]
  exact H i hi
theorem own_one (ev : ∀ idx, t.eval args s none idx s = some (.ref a)) (A : own_AI s s.heap a .boolean n f) {j v : Int32} (i : Nat) (hj : j.toInt = (i : Int)) (hi : i < n) (h : (Jvm.Cond.eq (.elem t (.int j)) (.int v)).value args s none s [] = some true) : f i = v := by
  have e1 := own_eqint h
  rw [own_elem ev A (Term.int_eval j) hj hi] at e1
  exact Value.int.inj (Option.some.inj e1)
theorem own_all1 (ev : ∀ idx, t.eval args s none idx s = some (.ref a)) (A : own_AI s s.heap a .boolean n f) (hn : n < 2 ^ 31) {hi v : Int32} (h : (Jvm.Cond.all t (.or (.le (.int hi) (.index 0)) (.eq (.elem t (.index 0)) (.int v)))).value args s none s [] = some true) (i : Nat) (q : i < n) : hi.toInt ≤ (i : Int) ∨ f i = v := by
  have hi' : i.toInt32.toInt = (i : Int) := len_toInt (by omega)
  have e3 := Cond.eq_ints (own_elem ev A (idx := [i]) (Term.index_eval i) hi' q) (Term.int_eval v)
  obtain ⟨cl, A1, S, H, -⟩ := A
  have g := Cond.all_elim (ev []) (A1.fin (Vm.Alike.refl _)) h i (S ▸ q)
  rcases or_e2 (Cond.le_ints (Term.int_eval hi) (Term.index_eval i)) e3 g with r | r
  · left; rw [Int32.le_iff_toInt_le, hi'] at r; exact r
  · exact Or.inr r
theorem own_all3 (ev : ∀ idx, t.eval args s none idx s = some (.ref a)) (A : own_AI s s.heap a .boolean n f) (hn : n < 2 ^ 31) {lo hi v : Int32} (h : (Jvm.Cond.all t (.or (.lt (.index 0) (.int lo)) (.or (.le (.int hi) (.index 0)) (.eq (.elem t (.index 0)) (.int v))))).value args s none s [] = some true) (i : Nat) (q : i < n) : (i : Int) < lo.toInt ∨ hi.toInt ≤ (i : Int) ∨ f i = v := by
  have hi' : i.toInt32.toInt = (i : Int) := len_toInt (by omega)
  have e3 := Cond.eq_ints (own_elem ev A (idx := [i]) (Term.index_eval i) hi' q) (Term.int_eval v)
  obtain ⟨cl, A1, S, H, -⟩ := A
  have g := Cond.all_elim (ev []) (A1.fin (Vm.Alike.refl _)) h i (S ▸ q)
  rcases or3 g (Cond.lt_ints (Term.index_eval i) (Term.int_eval lo)) (Cond.le_ints (Term.int_eval hi) (Term.index_eval i)) e3 with r | r | r
  · left; rw [Int32.lt_iff_toInt_lt, hi'] at r; exact r
  · right; left; rw [Int32.lt_iff_toInt_lt, hi'] at r; omega
  · exact Or.inr (Or.inr r)
theorem own_start (hf : Fit s) (ev : t.eval args s none [] s = some (.ref a)) (h1 : (Jvm.Cond.arrayOf t .boolean).value args s none s [] = some true) {z : Int32} (h2 : (Jvm.Cond.eq (.length t) (.int z)).value args s none s [] = some true) (hz : z.toInt = (n : Int)) : ∃ f, own_AI s s.heap a .boolean n f := by
  obtain ⟨cl, A⟩ := Arr.start ev h1
  have e1 := own_eqint h2
  have ha := A.fin (Vm.Alike.refl _)
  have hl : cl.slots.size < 2 ^ 31 := by
    by_cases q : cl.slots.size < 2 ^ 31
    · exact q
    · simp [Term.eval, ev, ha, q] at e1
  rw [len_f ev ha hl] at e1
  have e2 : cl.slots.size.toInt32 = z := Value.int.inj (Option.some.inj e1)
  have e0 : (0 : Int32).toInt = 0 := by decide
  have hz0 : ¬ z < 0 := by rw [Int32.lt_iff_toInt_lt, e0]; omega
  have T := Tab.start hf A (Or.inr (Or.inl rfl)) hl e2 hz0
  have e3 : cl.slots.size = n := by
    have := len_toInt hl
    rw [e2] at this; omega
  have key : ∀ i, i < n → cl.slots[i]? = some (.int (atv cl i.toInt32)) ∧ fits .boolean (.int (atv cl i.toInt32)) = true := fun i hi => by
    have hi' : i.toInt32.toInt = (i : Int) := len_toInt (by omega)
    obtain ⟨hin, e4⟩ := own_idx e3 hi' hi
    have q := T.2.2.2 i.toInt32 hin
    refine ⟨by rw [e4] at q; exact q, elem_fits hf A hin q⟩
  exact ⟨fun i => atv cl i.toInt32, cl, A, e3, fun i hi => (key i hi).1, fun i hi => (key i hi).2⟩
end Tb

theorem own_pd0 : parseMethodDescriptor "(I)Z" = some ⟨[.int], some .boolean⟩ := by decide +kernel
theorem own_eflaw (m : MethodId) (x : Int32) (sel : Int32) : entryFrame m #[(.int x), (.int sel)] maxLocals = mkF m 0 #[iv x, iv sel, .unset, .unset] [] := by first | (simp [entryFrame, mkF, argsToLocals, Value.category, maxLocals]; done) | rfl
set_option maxRecDepth 65536 in
set_option maxHeartbeats 40000000 in
theorem own_rmlaw (l : Launch) (Z : State) (a0 : Array Value) (hw : ∀ d ∈ tables_1, d.before a0 Z = true) (x : Int32) (sel : Int32) (a : Addr) (f : Nat → Int32) (h0 : Heap) (n0 : Nat) (Z0 : n0 ≤ h0.size) (S : Sta Z h0 "dev/countersign/core/PercentEncoding" "UNRESERVED" "[Z" (.ref a)) (A : own_AI Z h0 a .boolean 128 f) (hf : ∀ i, i < 128 → f i = own_tab i) :
    MetFree l Jvm.Pilot.@@N@@.x (head1 (Jvm.Cond.code Jvm.Pilot.@@N@@.x code maxLocals ret :: tables_1) room_1) (fun a U => a = #[(.int x), (.int sel)] ∧ Z.Warmed39 U.vm ∧ U.heap = h0) (fun _ _ _ _ _ => True) (fun _ U o U' => ∃ v L, o = .returned v ∧ (fun v h L => v = some (.int 1) ∧ Fr n0 L) v U'.heap L ∧ FrameEnd U o U' L 0 0) := by
  refine own_body (y := Jvm.Pilot.@@N@@.x) (Q := fun v h L => v = some (.int 1) ∧ Fr n0 L) (plainFor_of_name own_pn1) ?_
  intro p e s m below meth c s₁ Bd hml0 hZ e0
  have hx := Bd.exec
  have hby := Bd.bytes
  have hml : c.maxLocals = 4 := hml0
  have hown : s.vm.findClass "dev/countersign/core/PercentEncodingIsUnreservedPinLaw" = some m.cls := findClass_of_methodNamed Bd.named
  have hnm := (name_of_methodNamed Bd.named Bd.method).1
  have X0 : Stand p l e room_1 s m #[(.int x), (.int sel)] below meth c s₁ [] 0 0 := Stand.of_body Bd
  have N0 := Fr.nil n0
  rw [own_eflaw]
  obtain ⟨cc, hcc⟩ : ∃ z : Int32, z = (if (sel &&& (3 : Int32)) = (0 : Int32) then (x &&& (127 : Int32)) else (if (sel &&& (3 : Int32)) = (1 : Int32) then (x &&& (255 : Int32)) else (if (sel &&& (3 : Int32)) = (2 : Int32) then (x &&& (65535 : Int32)) else (x &&& (2147483647 : Int32))))) := ⟨_, rfl⟩
  have sg4 : own_V p e below s₁ (mkF m 48 #[iv x, iv sel, iv (sel &&& (3 : Int32)), iv cc] []) (mkF m 0 #[iv x, iv sel, .unset, .unset] []) := by
    intro t kt
    refine XS.iloadN X0.here hx rfl (hb hby at_0) rfl ?_
    show own_S p e below s₁ m 1 #[iv x, iv sel, .unset, .unset] [(.int sel)] _
    refine XS.iconst X0.here hx rfl (hb hby at_1) ?_
    show own_S p e below s₁ m 2 #[iv x, iv sel, .unset, .unset] [(.int (3 : Int32)), (.int sel)] _
    refine XS.iand X0.here hx rfl (hb hby at_2) rfl ?_
    show own_S p e below s₁ m 3 #[iv x, iv sel, .unset, .unset] [(.int (sel &&& (3 : Int32)))] _
    refine XS.istoreN X0.here hx rfl (hb hby at_3) rfl (l' := #[iv x, iv sel, iv (sel &&& (3 : Int32)), .unset]) rfl ?_
    show own_S p e below s₁ m 4 #[iv x, iv sel, iv (sel &&& (3 : Int32)), .unset] [] _
    refine XS.iloadN X0.here hx rfl (hb hby at_4) rfl ?_
    show own_S p e below s₁ m 5 #[iv x, iv sel, iv (sel &&& (3 : Int32)), .unset] [(.int (sel &&& (3 : Int32)))] _
    by_cases hc1 : (sel &&& (3 : Int32)) = (0 : Int32)
    · refine XS.ifNo X0.here hx rfl (hb hby at_5) rfl ((if0 _ _).trans (teq hc1).2) ?_
      show own_S p e below s₁ m 8 #[iv x, iv sel, iv (sel &&& (3 : Int32)), .unset] [] _
      refine XS.iloadN X0.here hx rfl (hb hby at_8) rfl ?_
      show own_S p e below s₁ m 9 #[iv x, iv sel, iv (sel &&& (3 : Int32)), .unset] [(.int x)] _
      refine XS.bipush X0.here hx rfl (hb hby at_9) ?_
      show own_S p e below s₁ m 11 #[iv x, iv sel, iv (sel &&& (3 : Int32)), .unset] [(.int (127 : Int32)), (.int x)] _
      refine XS.iand X0.here hx rfl (hb hby at_11) rfl ?_
      show own_S p e below s₁ m 12 #[iv x, iv sel, iv (sel &&& (3 : Int32)), .unset] [(.int (x &&& (127 : Int32)))] _
      refine XS.istoreN X0.here hx rfl (hb hby at_12) rfl (l' := #[iv x, iv sel, iv (sel &&& (3 : Int32)), iv (x &&& (127 : Int32))]) rfl ?_
      show own_S p e below s₁ m 13 #[iv x, iv sel, iv (sel &&& (3 : Int32)), iv (x &&& (127 : Int32))] [] _
      refine XS.goto X0.here hx rfl (pc0 := 13) (pc' := 48) rfl (hb hby at_13) (by decide) (by decide) ?_
      show own_S p e below s₁ m 48 #[iv x, iv sel, iv (sel &&& (3 : Int32)), iv (x &&& (127 : Int32))] [] _
      rw [show cc = (x &&& (127 : Int32)) from by rw [hcc, if_pos hc1]] at kt
      exact kt
    · refine XS.ifYes X0.here hx rfl (pc0 := 5) (pc' := 16) rfl (hb hby at_5) rfl ((if0 _ _).trans (feq hc1).2) (by decide) (by decide) ?_
      show own_S p e below s₁ m 16 #[iv x, iv sel, iv (sel &&& (3 : Int32)), .unset] [] _
      refine XS.iloadN X0.here hx rfl (hb hby at_16) rfl ?_
      show own_S p e below s₁ m 17 #[iv x, iv sel, iv (sel &&& (3 : Int32)), .unset] [(.int (sel &&& (3 : Int32)))] _
      refine XS.iconst X0.here hx rfl (hb hby at_17) ?_
      show own_S p e below s₁ m 18 #[iv x, iv sel, iv (sel &&& (3 : Int32)), .unset] [(.int (1 : Int32)), (.int (sel &&& (3 : Int32)))] _
      by_cases hc2 : (sel &&& (3 : Int32)) = (1 : Int32)
      · refine XS.icmpNo X0.here hx rfl (hb hby at_18) rfl (teq hc2).2 ?_
        show own_S p e below s₁ m 21 #[iv x, iv sel, iv (sel &&& (3 : Int32)), .unset] [] _
        refine XS.iloadN X0.here hx rfl (hb hby at_21) rfl ?_
        show own_S p e below s₁ m 22 #[iv x, iv sel, iv (sel &&& (3 : Int32)), .unset] [(.int x)] _
        refine XS.sipush X0.here hx rfl (hb hby at_22) ?_
        show own_S p e below s₁ m 25 #[iv x, iv sel, iv (sel &&& (3 : Int32)), .unset] [(.int (255 : Int32)), (.int x)] _
        refine XS.iand X0.here hx rfl (hb hby at_25) rfl ?_
        show own_S p e below s₁ m 26 #[iv x, iv sel, iv (sel &&& (3 : Int32)), .unset] [(.int (x &&& (255 : Int32)))] _
        refine XS.istoreN X0.here hx rfl (hb hby at_26) rfl (l' := #[iv x, iv sel, iv (sel &&& (3 : Int32)), iv (x &&& (255 : Int32))]) rfl ?_
        show own_S p e below s₁ m 27 #[iv x, iv sel, iv (sel &&& (3 : Int32)), iv (x &&& (255 : Int32))] [] _
        refine XS.goto X0.here hx rfl (pc0 := 27) (pc' := 48) rfl (hb hby at_27) (by decide) (by decide) ?_
        show own_S p e below s₁ m 48 #[iv x, iv sel, iv (sel &&& (3 : Int32)), iv (x &&& (255 : Int32))] [] _
        rw [show cc = (x &&& (255 : Int32)) from by rw [hcc, if_neg hc1, if_pos hc2]] at kt
        exact kt
      · refine XS.icmpYes X0.here hx rfl (pc0 := 18) (pc' := 30) rfl (hb hby at_18) rfl (feq hc2).2 (by decide) (by decide) ?_
        show own_S p e below s₁ m 30 #[iv x, iv sel, iv (sel &&& (3 : Int32)), .unset] [] _
        refine XS.iloadN X0.here hx rfl (hb hby at_30) rfl ?_
        show own_S p e below s₁ m 31 #[iv x, iv sel, iv (sel &&& (3 : Int32)), .unset] [(.int (sel &&& (3 : Int32)))] _
        refine XS.iconst X0.here hx rfl (hb hby at_31) ?_
        show own_S p e below s₁ m 32 #[iv x, iv sel, iv (sel &&& (3 : Int32)), .unset] [(.int (2 : Int32)), (.int (sel &&& (3 : Int32)))] _
        by_cases hc3 : (sel &&& (3 : Int32)) = (2 : Int32)
        · refine XS.icmpNo X0.here hx rfl (hb hby at_32) rfl (teq hc3).2 ?_
          show own_S p e below s₁ m 35 #[iv x, iv sel, iv (sel &&& (3 : Int32)), .unset] [] _
          refine XS.iloadN X0.here hx rfl (hb hby at_35) rfl ?_
          show own_S p e below s₁ m 36 #[iv x, iv sel, iv (sel &&& (3 : Int32)), .unset] [(.int x)] _
          refine X0.ldcInt hx hown (mvT hZ (hw _ (List.mem_of_getElem? (i := 11) rfl))) (g := (mkF m 36 #[iv x, iv sel, iv (sel &&& (3 : Int32)), .unset] [(.int x)])) rfl (hb hby at_36) _ ?_
          show own_S p e below s₁ m 38 #[iv x, iv sel, iv (sel &&& (3 : Int32)), .unset] [(.int (65535 : Int32)), (.int x)] _
          refine XS.iand X0.here hx rfl (hb hby at_38) rfl ?_
          show own_S p e below s₁ m 39 #[iv x, iv sel, iv (sel &&& (3 : Int32)), .unset] [(.int (x &&& (65535 : Int32)))] _
          refine XS.istoreN X0.here hx rfl (hb hby at_39) rfl (l' := #[iv x, iv sel, iv (sel &&& (3 : Int32)), iv (x &&& (65535 : Int32))]) rfl ?_
          show own_S p e below s₁ m 40 #[iv x, iv sel, iv (sel &&& (3 : Int32)), iv (x &&& (65535 : Int32))] [] _
          refine XS.goto X0.here hx rfl (pc0 := 40) (pc' := 48) rfl (hb hby at_40) (by decide) (by decide) ?_
          show own_S p e below s₁ m 48 #[iv x, iv sel, iv (sel &&& (3 : Int32)), iv (x &&& (65535 : Int32))] [] _
          rw [show cc = (x &&& (65535 : Int32)) from by rw [hcc, if_neg hc1, if_neg hc2, if_pos hc3]] at kt
          exact kt
        · refine XS.icmpYes X0.here hx rfl (pc0 := 32) (pc' := 43) rfl (hb hby at_32) rfl (feq hc3).2 (by decide) (by decide) ?_
          show own_S p e below s₁ m 43 #[iv x, iv sel, iv (sel &&& (3 : Int32)), .unset] [] _
          refine XS.iloadN X0.here hx rfl (hb hby at_43) rfl ?_
          show own_S p e below s₁ m 44 #[iv x, iv sel, iv (sel &&& (3 : Int32)), .unset] [(.int x)] _
          refine X0.ldcInt hx hown (mvT hZ (hw _ (List.mem_of_getElem? (i := 0) rfl))) (g := (mkF m 44 #[iv x, iv sel, iv (sel &&& (3 : Int32)), .unset] [(.int x)])) rfl (hb hby at_44) _ ?_
          show own_S p e below s₁ m 46 #[iv x, iv sel, iv (sel &&& (3 : Int32)), .unset] [(.int (2147483647 : Int32)), (.int x)] _
          refine XS.iand X0.here hx rfl (hb hby at_46) rfl ?_
          show own_S p e below s₁ m 47 #[iv x, iv sel, iv (sel &&& (3 : Int32)), .unset] [(.int (x &&& (2147483647 : Int32)))] _
          refine XS.istoreN X0.here hx rfl (hb hby at_47) rfl (l' := #[iv x, iv sel, iv (sel &&& (3 : Int32)), iv (x &&& (2147483647 : Int32))]) rfl ?_
          show own_S p e below s₁ m 48 #[iv x, iv sel, iv (sel &&& (3 : Int32)), iv (x &&& (2147483647 : Int32))] [] _
          rw [show cc = (x &&& (2147483647 : Int32)) from by rw [hcc, if_neg hc1, if_neg hc2, if_neg hc3]] at kt
          exact kt
  refine own_st sg4 ?_
  have hc0 := own_nn x sel cc hcc
  have sg5 : own_V p e below s₁ (mkF m 49 #[iv x, iv sel, iv (sel &&& (3 : Int32)), iv cc] [(.int cc)]) (mkF m 48 #[iv x, iv sel, iv (sel &&& (3 : Int32)), iv cc] []) := by
    intro t kt
    refine XS.iloadN X0.here hx rfl (hb hby at_48) rfl ?_
    show own_S p e below s₁ m 49 #[iv x, iv sel, iv (sel &&& (3 : Int32)), iv cc] [(.int cc)] _
    exact kt
  refine own_st sg5 ?_
  obtain ⟨_, T6, L6, X6, hQ6, st6⟩ := own_callS (y := (⟨"dev/countersign/core/PercentEncoding", "isUnreserved", "(I)Z"⟩ : MethodName)) X0 hx hZ hown (hw _ (List.mem_of_getElem? (i := 1) rfl)) (hw _ (List.mem_of_getElem? (i := 2) rfl)) (hw _ (List.mem_of_getElem? (i := 3) rfl)) (hw _ (List.mem_of_getElem? (i := 4) rfl)) (by decide) (own_rmun l Z a0 hw cc a f h0 n0 Z0 S A hc0) e0 (g := (mkF m 49 #[iv x, iv sel, iv (sel &&& (3 : Int32)), iv cc] [(.int cc)])) rfl (by rw [hml]; rfl) (argsL := [(.int cc)]) (rest := []) (lenOf own_pd0 rfl) rfl (W := 0) (by show 2 * 0 + _ ≤ _; exact Nat.le_of_eq rfl) (hb hby at_49) (by decide) (by decide) (by decide) (by decide)
  obtain ⟨rfl, Nq6, e6⟩ := hQ6
  refine own_st st6 ?_
  have N6 := Fr.app N0 Nq6
  show own_Go p e below _ T6 (mkF m 52 #[iv x, iv sel, iv (sel &&& (3 : Int32)), iv cc] [(.int (own_un cc f))])
  have sg7 : own_V p e below T6 (mkF m 53 #[iv x, iv sel, iv (sel &&& (3 : Int32)), iv cc] [(.int cc), (.int (own_un cc f))]) (mkF m 52 #[iv x, iv sel, iv (sel &&& (3 : Int32)), iv cc] [(.int (own_un cc f))]) := by
    intro t kt
    refine XS.iloadN X6.here hx rfl (hb hby at_52) rfl ?_
    show own_S p e below T6 m 53 #[iv x, iv sel, iv (sel &&& (3 : Int32)), iv cc] [(.int cc), (.int (own_un cc f))] _
    exact kt
  refine own_st sg7 ?_
  obtain ⟨_, T8, L8, X8, hQ8, st8⟩ := own_callS (y := (⟨"dev/countersign/core/PercentEncodingIsUnreservedPinLaw", "reference", "(I)Z"⟩ : MethodName)) X6 hx hZ hown (hw _ (List.mem_of_getElem? (i := 7) rfl)) (hw _ (List.mem_of_getElem? (i := 8) rfl)) (hw _ (List.mem_of_getElem? (i := 9) rfl)) (hw _ (List.mem_of_getElem? (i := 10) rfl)) (by decide) (own_rmref l Z a0 hw cc h0 n0 Z0) e6 (g := (mkF m 53 #[iv x, iv sel, iv (sel &&& (3 : Int32)), iv cc] [(.int cc), (.int (own_un cc f))])) rfl (by rw [hml]; rfl) (argsL := [(.int cc)]) (rest := [(.int (own_un cc f))]) (lenOf own_pd0 rfl) rfl (W := 1) (by show 2 * 0 + _ ≤ _; exact Nat.le_of_eq rfl) (hb hby at_53) (by decide) (by decide) (by decide) (by decide)
  obtain ⟨rfl, Nq8, e8⟩ := hQ8
  refine own_st st8 ?_
  have N8 := Fr.app N6 Nq8
  show own_Go p e below _ T8 (mkF m 56 #[iv x, iv sel, iv (sel &&& (3 : Int32)), iv cc] [(.int (own_ref cc)), (.int (own_un cc f))])
  have hc9 : (own_un cc f) = (own_ref cc) := own_same cc f hc0 hf
  have sg10 : own_V p e below T8 (mkF m 59 #[iv x, iv sel, iv (sel &&& (3 : Int32)), iv cc] []) (mkF m 56 #[iv x, iv sel, iv (sel &&& (3 : Int32)), iv cc] [(.int (own_ref cc)), (.int (own_un cc f))]) := by
    intro t kt
    refine XS.icmpNo X8.here hx rfl (hb hby at_56) rfl (teq hc9).2 ?_
    exact kt
  refine own_st sg10 ?_
  have sg11 : own_V p e below T8 (mkF m 64 #[iv x, iv sel, iv (sel &&& (3 : Int32)), iv cc] [(.int (1 : Int32))]) (mkF m 59 #[iv x, iv sel, iv (sel &&& (3 : Int32)), iv cc] []) := by
    intro t kt
    refine XS.iconst X8.here hx rfl (hb hby at_59) ?_
    show own_S p e below T8 m 60 #[iv x, iv sel, iv (sel &&& (3 : Int32)), iv cc] [(.int (1 : Int32))] _
    refine XS.goto X8.here hx rfl (pc0 := 60) (pc' := 64) rfl (hb hby at_60) (by decide) (by decide) ?_
    show own_S p e below T8 m 64 #[iv x, iv sel, iv (sel &&& (3 : Int32)), iv cc] [(.int (1 : Int32))] _
    exact kt
  refine own_st sg11 ?_
  exact own_retZ X8 hx Bd.notSynchronized Bd.returns (hb hby at_64) (by decide) (by decide) (by decide) e8 ⟨rfl, N8⟩
theorem own_tabis (f : Nat → Int32) (i : Nat) (hi : i < 128) (e45 : f 45 = 1) (e46 : f 46 = 1) (e47 : f 47 = 0) (e95 : f 95 = 1) (e96 : f 96 = 0) (e123 : f 123 = 0) (e124 : f 124 = 0) (e125 : f 125 = 0) (e126 : f 126 = 1) (e127 : f 127 = 0) (a45 : (45 : Int32).toInt ≤ (i : Int) ∨ f i = 0) (a48 : (i : Int) < (48 : Int32).toInt ∨ (58 : Int32).toInt ≤ (i : Int) ∨ f i = 1) (a58 : (i : Int) < (58 : Int32).toInt ∨ (65 : Int32).toInt ≤ (i : Int) ∨ f i = 0) (a65 : (i : Int) < (65 : Int32).toInt ∨ (91 : Int32).toInt ≤ (i : Int) ∨ f i = 1) (a91 : (i : Int) < (91 : Int32).toInt ∨ (95 : Int32).toInt ≤ (i : Int) ∨ f i = 0) (a97 : (i : Int) < (97 : Int32).toInt ∨ (123 : Int32).toInt ≤ (i : Int) ∨ f i = 1) : f i = own_tab i := by
  have k45 : (45 : Int32).toInt = 45 := by decide
  have k48 : (48 : Int32).toInt = 48 := by decide
  have k58 : (58 : Int32).toInt = 58 := by decide
  have k65 : (65 : Int32).toInt = 65 := by decide
  have k91 : (91 : Int32).toInt = 91 := by decide
  have k95 : (95 : Int32).toInt = 95 := by decide
  have k97 : (97 : Int32).toInt = 97 := by decide
  have k123 : (123 : Int32).toInt = 123 := by decide
  rw [k45] at a45
  rw [k48, k58] at a48
  rw [k58, k65] at a58
  rw [k65, k91] at a65
  rw [k91, k95] at a91
  rw [k97, k123] at a97
  have ones : ∀ j, j = i → f j = f i := fun j h => by rw [h]
  unfold own_tab
  by_cases q : (48 ≤ i ∧ i < 58) ∨ (65 ≤ i ∧ i < 91) ∨ (97 ≤ i ∧ i < 123) ∨ i = 45 ∨ i = 46 ∨ i = 95 ∨ i = 126
  · rw [if_pos q]
    rcases q with q | q | q | rfl | rfl | rfl | rfl
    · rcases a48 with r | r | r
      · omega
      · omega
      · exact r
    · rcases a65 with r | r | r
      · omega
      · omega
      · exact r
    · rcases a97 with r | r | r
      · omega
      · omega
      · exact r
    · exact e45
    · exact e46
    · exact e95
    · exact e126
  · rw [if_neg q]
    rcases a45 with r1 | r1
    · rcases a58 with r2 | r2 | r2
      · have : i = 47 := by omega
        rw [this]; exact e47
      · rcases a91 with r3 | r3 | r3
        · omega
        · have : i = 96 ∨ i = 123 ∨ i = 124 ∨ i = 125 ∨ i = 127 := by omega
          rcases this with rfl | rfl | rfl | rfl | rfl <;> assumption
        · exact r3
      · exact r2
    · exact r1
set_option maxRecDepth 65536 in
set_option maxHeartbeats 40000000 in
theorem comes_1 {Post : Tables → Env → Array Value → State → Outcome → State → Prop} (hpost : ∀ tb e args s v u, (limb_1_1.after args s (.returned v) u = true ∧ limb_1_2.after args s (.returned v) u = true ∧ True) → FrameEnd s (.returned v) u (Jvm.fieldLocs frame_1_writes args s ++ Jvm.arrayLocs frame_1_arrays args s ++ Jvm.staticLocs frame_1_statics s) 0 0 → Post tb e args s (.returned v) u) :
    ArmFor flags0 classFile x code maxLocals ret World_1 tables_1 room_1 Calls_1 rest_1 Pre_1 Post := by
  intro l hfl _ _ p e ha hc hk s m args below hf hA hF happ hP
  obtain ⟨hcalls, hrest, hpre⟩ := hP
  obtain ⟨-, -, -, hnamed, -, -, -, hat⟩ := (Spec.applies_iff hf).mp happ
  obtain ⟨hg, hn⟩ := and_e (Cond.before_iff.mp (show (Jvm.Cond.and given_1 narrow_1).before args s = true from hpre))
  obtain ⟨g1, g2⟩ := and_e hg
  obtain ⟨g3, g4⟩ := and_e g2
  obtain ⟨w0, w1, rfl⟩ : ∃ w0 w1 : Value, args = #[w0, w1] := by
    have hs : args.size = 2 := by simpa [Cond.value, given_1] using g1
    obtain ⟨L⟩ := args
    match L, hs with
    | [w0, w1], _ => exact ⟨w0, w1, rfl⟩
  have hw := fun d (hd : d ∈ tables_1) => atoms_spec (ws := Jvm.Cond.code x code maxLocals ret :: tables_1) hat d (List.mem_cons_of_mem _ hd)
  have hfit : Fit s := fun {y c} hc i hi => by
    obtain ⟨ha, rfl⟩ := Array.getElem?_eq_some_iff.mp hc
    have q := List.all_eq_true.mp ((Array.all_eq_true_iff_forall_mem.mp hF) _ (Array.getElem_mem ha)) i (List.mem_range.mpr hi)
    simpa [Array.getElem?_eq_getElem hi] using q
  obtain ⟨i0, ei0⟩ := is_v g3
  obtain rfl : w0 = (.int i0) := Option.some.inj ei0
  obtain ⟨i1, ei1⟩ := is_v g4
  obtain rfl : w1 = (.int i1) := Option.some.inj ei1
  obtain ⟨t_arr, hm0⟩ := and_e hn
  obtain ⟨t_len, hm1⟩ := and_e hm0
  obtain ⟨t_a45, hm2⟩ := and_e hm1
  obtain ⟨t_e45, hm3⟩ := and_e hm2
  obtain ⟨t_e46, hm4⟩ := and_e hm3
  obtain ⟨t_e47, hm5⟩ := and_e hm4
  obtain ⟨t_a48, hm6⟩ := and_e hm5
  obtain ⟨t_a58, hm7⟩ := and_e hm6
  obtain ⟨t_a65, hm8⟩ := and_e hm7
  obtain ⟨t_a91, hm9⟩ := and_e hm8
  obtain ⟨t_e95, hm10⟩ := and_e hm9
  obtain ⟨t_e96, hm11⟩ := and_e hm10
  obtain ⟨t_a97, hm12⟩ := and_e hm11
  obtain ⟨t_e123, hm13⟩ := and_e hm12
  obtain ⟨t_e124, hm14⟩ := and_e hm13
  obtain ⟨t_e125, hm15⟩ := and_e hm14
  obtain ⟨t_e126, t_e127⟩ := and_e hm15
  obtain ⟨ua, eua⟩ := arr_v t_arr
  have ev : ∀ idx, (Jvm.Term.static "dev/countersign/core/PercentEncoding" "UNRESERVED" "[Z").eval #[(.int i0), (.int i1)] s none idx s = some (.ref ua) := fun idx => eua
  have S := Sta.start eua (Or.inr ⟨(hw _ (List.mem_of_getElem? (i := 3) rfl)), (hw _ (List.mem_of_getElem? (i := 6) rfl))⟩)
  obtain ⟨f, A⟩ := own_start (n := 128) hfit eua t_arr t_len (by decide)
  have hff : ∀ i, i < 128 → f i = own_tab i := by
    intro i hi
    have q_e45 := own_one ev A 45 (by decide) (by decide) t_e45
    have q_e46 := own_one ev A 46 (by decide) (by decide) t_e46
    have q_e47 := own_one ev A 47 (by decide) (by decide) t_e47
    have q_e95 := own_one ev A 95 (by decide) (by decide) t_e95
    have q_e96 := own_one ev A 96 (by decide) (by decide) t_e96
    have q_e123 := own_one ev A 123 (by decide) (by decide) t_e123
    have q_e124 := own_one ev A 124 (by decide) (by decide) t_e124
    have q_e125 := own_one ev A 125 (by decide) (by decide) t_e125
    have q_e126 := own_one ev A 126 (by decide) (by decide) t_e126
    have q_e127 := own_one ev A 127 (by decide) (by decide) t_e127
    have q_a45 := own_all1 ev A (by decide) t_a45 i hi
    have q_a48 := own_all3 ev A (by decide) t_a48 i hi
    have q_a58 := own_all3 ev A (by decide) t_a58 i hi
    have q_a65 := own_all3 ev A (by decide) t_a65 i hi
    have q_a91 := own_all3 ev A (by decide) t_a91 i hi
    have q_a97 := own_all3 ev A (by decide) t_a97 i hi
    exact own_tabis f i hi q_e45 q_e46 q_e47 q_e95 q_e96 q_e123 q_e124 q_e125 q_e126 q_e127 q_a45 q_a48 q_a58 q_a65 q_a91 q_a97
  obtain ⟨n, o, h1, h2, h3, _, L, rfl, ⟨rfl, N⟩, hq⟩ := own_rmlaw l s _ hw i0 i1 ua f s.heap s.heap.size (Nat.le_refl _) S A hff p e ha hc hk s m _ below hf ((Spec.applies_iff_loose hf).mp happ).1 ⟨rfl, State.Warmed39.refl s, rfl⟩ trivial
  refine ⟨n, _, h1, h2, h3, hpost _ _ _ _ _ _ ⟨Cond.after_iff.mpr rfl, Cond.after_iff.mpr (eq_i res_at (Term.int_eval (1)) rfl), trivial⟩ ⟨hq.1, hq.2.1, (hq.2.2.sift fun y hy => Or.inr (N y hy)).mono (by decide) (by decide)⟩⟩
theorem main_1_1 : Claimed_1_1 := comes_1 fun _ _ _ _ _ _ h hF => ⟨h.1, hF⟩
theorem main_1_2 : Claimed_1_2 := comes_1 fun _ _ _ _ _ _ h hF => ⟨h.2.1, hF⟩
end Jvm.Pilot.@@N@@
namespace Jvm.Pilot.@@N@@
open Jvm Jvm.ClassFile Sem Op Lib Jvm.Free Jvm.Stand Jvm.Pilot.@@N@@.Jvm.D
/-! MADE BY PROGRAM (witnessworld.py) out of the Statement's table words and the real class files: 11 classes; the members and pool entries that the words name. The judged class is class 1, her method 2. -/
namespace start1
open Jvm.ClassFile
def u (s : String) : CpInfo := .utf8 (stringToUtf16 s)
/-- a pool by its gaps: so many unusable entries, then the entry; so many at the end -/
def gap : Nat → List CpInfo → List CpInfo
  | 0, r => r
  | n + 1, r => .unusable :: gap n r
def poolList (es : List (Nat × CpInfo)) (last : Nat) : List CpInfo := es.foldr (fun e r => gap e.1 (e.2 :: r)) (gap last [])
def pool (es : List (Nat × CpInfo)) (last : Nat) : Array CpInfo := ⟨poolList es last⟩
def fileOf (pool : Array CpInfo) (this : Nat) (attrs : Array Attribute := #[]) (ms : Array MethodInfo := #[]) (fl : Nat := 33) (sup : Nat := 0) (ifs : Array Nat := #[]) (fds : Array FieldInfo := #[]) : ClassFile where
  minorVersion := 0
  majorVersion := 65
  constantPool := pool
  accessFlags := fl
  thisClass := this
  superClass := sup
  interfaces := ifs
  fields := fds
  methods := ms
  attributes := attrs
def plain (name : String) (sup : Option ClassId) : Class where
  name := name
  kind := .ordinary
  loader := none
  accessFlags := 33
  super := sup
  interfaces := #[]
  cf := none
  fields := #[]
  methods := #[]
  instanceTypes := #[]
  staticTypes := #[]
  resolved := #[]
  callSites := []
  init := .initialized
  statics := none
  mirror := none

def pool0 : Array CpInfo := pool [(5, u "<init>"), (0, u "()V"), (1, .class_ 10), (1, u "java/lang/Object")] 113

def k0m0 : Method := { name := "<init>", desc := "()V", sig := { parameters := [], returnType := none }, accessFlags := 1, code := none }
/-- java/lang/Object -/
def k0 : Class := { plain "java/lang/Object" none with
  accessFlags := 33
  interfaces := #[]
  cf := some (fileOf pool0 8 #[] #[{ accessFlags := 1, nameIndex := 5, descriptorIndex := 6, attributes := #[] }] 33 0 #[] #[])
  fields := #[]
  methods := #[k0m0]
  instanceTypes := #[]
  staticTypes := #[]
  resolved := Array.replicate 124 none
  statics := none }

def pool1 : Array CpInfo := pool [(2, .class_ 4), (1, u "java/lang/Object"), (0, u "<init>"), (0, u "()V"), (0, .integer 65535), (0, .integer 2147483647), (0, .methodref 10 11), (0, .class_ 12), (0, .nameAndType 13 14), (0, u "dev/countersign/core/PercentEncoding"), (0, u "isUnreserved"), (0, u "(I)Z"), (0, .methodref 16 17), (0, .class_ 18), (0, .nameAndType 19 14), (0, u "dev/countersign/core/PercentEncodingIsUnreservedPinLaw"), (0, u "reference"), (3, u "law"), (0, u "(II)Z")] 2

def k1m0 : Method := { name := "<init>", desc := "()V", sig := { parameters := [], returnType := none }, accessFlags := 2, code := none }
def k1c1 : Code := { maxStack := 2, maxLocals := 1, code := method_2_code, exceptionTable := #[], attributes := #[] }
def k1m1 : Method := { name := "reference", desc := "(I)Z", sig := { parameters := [.int], returnType := some .boolean }, accessFlags := 10, code := some k1c1 }
def k1c2 : Code := { maxStack := 2, maxLocals := 4, code := code, exceptionTable := #[], attributes := #[] }
def k1m2 : Method := { name := "law", desc := "(II)Z", sig := { parameters := [.int, .int], returnType := some .boolean }, accessFlags := 9, code := some k1c2 }
/-- dev/countersign/core/PercentEncodingIsUnreservedPinLaw -/
def k1 : Class := { plain "dev/countersign/core/PercentEncodingIsUnreservedPinLaw" (some 0) with
  accessFlags := 49
  interfaces := #[]
  cf := some (fileOf pool1 16 #[] #[{ accessFlags := 2, nameIndex := 5, descriptorIndex := 6, attributes := #[] }, { accessFlags := 10, nameIndex := 19, descriptorIndex := 14, attributes := #[] }, { accessFlags := 9, nameIndex := 23, descriptorIndex := 24, attributes := #[] }] 49 2 #[] #[])
  fields := #[]
  methods := #[k1m0, k1m1, k1m2]
  instanceTypes := #[]
  staticTypes := #[]
  resolved := Array.replicate 27 none
  statics := none }

def pool2 : Array CpInfo := pool [(2, .class_ 4), (1, u "java/lang/Object"), (0, u "<init>"), (0, u "()V"), (11, .class_ 20), (1, u "dev/countersign/core/PercentEncoding"), (0, u "isUnreserved"), (0, u "(I)Z"), (28, u "UPPER_HEX"), (0, u "Ljava/util/HexFormat;"), (14, .fieldref 18 68), (0, .nameAndType 69 70), (0, u "UNRESERVED"), (0, u "[Z"), (2, u "KIND"), (0, u "[B"), (1, .class_ 78), (1, u "dev/countersign/core/PercentEncoding$Form"), (23, .class_ 104), (1, u "dev/countersign/core/PercentEncoding$Reencoded"), (11, .class_ 118), (1, u "dev/countersign/core/PercentEncoding$Plus"), (22, .class_ 143), (1, u "dev/countersign/core/PercentEncoding$NotUtf8"), (76, u "UNRESERVED_SYMBOLS"), (0, u "Ljava/lang/String;"), (1, u "NO_ESCAPE"), (0, u "NOT_UTF8"), (0, u "PERCENT"), (0, u "B"), (1, u "ANY_OTHER")] 38

def k2m0 : Method := { name := "<init>", desc := "()V", sig := { parameters := [], returnType := none }, accessFlags := 2, code := none }
def k2c1 : Code := { maxStack := 2, maxLocals := 1, code := prog_31_method_5_code, exceptionTable := #[], attributes := #[] }
def k2m1 : Method := { name := "isUnreserved", desc := "(I)Z", sig := { parameters := [.int], returnType := some .boolean }, accessFlags := 8, code := some k2c1 }
/-- dev/countersign/core/PercentEncoding -/
def k2 : Class := { plain "dev/countersign/core/PercentEncoding" (some 0) with
  accessFlags := 49
  interfaces := #[]
  cf := some (fileOf pool2 18 #[.nestMembers #[102, 76, 141, 116]] #[{ accessFlags := 2, nameIndex := 5, descriptorIndex := 6, attributes := #[] }, { accessFlags := 8, nameIndex := 21, descriptorIndex := 22, attributes := #[] }] 49 2 #[] #[{ accessFlags := 26, nameIndex := 220, descriptorIndex := 221, attributes := #[] }, { accessFlags := 26, nameIndex := 51, descriptorIndex := 52, attributes := #[] }, { accessFlags := 26, nameIndex := 223, descriptorIndex := 221, attributes := #[] }, { accessFlags := 26, nameIndex := 224, descriptorIndex := 221, attributes := #[] }, { accessFlags := 26, nameIndex := 69, descriptorIndex := 70, attributes := #[] }, { accessFlags := 26, nameIndex := 225, descriptorIndex := 226, attributes := #[] }, { accessFlags := 26, nameIndex := 228, descriptorIndex := 226, attributes := #[] }, { accessFlags := 26, nameIndex := 73, descriptorIndex := 74, attributes := #[] }])
  fields := #[{ name := "UNRESERVED_SYMBOLS", type := (.object "java/lang/String"), accessFlags := 26, slot := 0, constantValue := 0 }, { name := "UPPER_HEX", type := (.object "java/util/HexFormat"), accessFlags := 26, slot := 1, constantValue := 0 }, { name := "NO_ESCAPE", type := (.object "java/lang/String"), accessFlags := 26, slot := 2, constantValue := 0 }, { name := "NOT_UTF8", type := (.object "java/lang/String"), accessFlags := 26, slot := 3, constantValue := 0 }, { name := "UNRESERVED", type := (.array .boolean), accessFlags := 26, slot := 4, constantValue := 0 }, { name := "PERCENT", type := .byte, accessFlags := 26, slot := 5, constantValue := 0 }, { name := "ANY_OTHER", type := .byte, accessFlags := 26, slot := 6, constantValue := 0 }, { name := "KIND", type := (.array .byte), accessFlags := 26, slot := 7, constantValue := 0 }]
  methods := #[k2m0, k2m1]
  instanceTypes := #[]
  staticTypes := #[(.object "java/lang/String"), (.object "java/util/HexFormat"), (.object "java/lang/String"), (.object "java/lang/String"), (.array .boolean), .byte, .byte, (.array .byte)]
  resolved := Array.replicate 267 none
  statics := some 0 }

def pool3 : Array CpInfo := pool [(1, u "java/lang/Cloneable"), (0, .class_ 1), (0, u "java/lang/Object"), (0, .class_ 3)] 3

/-- java/lang/Cloneable -/
def k3 : Class := { plain "java/lang/Cloneable" (some 0) with
  accessFlags := 1537
  interfaces := #[]
  cf := some (fileOf pool3 2 #[] #[] 1537 4 #[] #[])
  fields := #[]
  methods := #[]
  instanceTypes := #[]
  staticTypes := #[]
  resolved := Array.replicate 8 none
  statics := none }

def pool4 : Array CpInfo := pool [(1, u "java/io/Serializable"), (0, .class_ 1), (0, u "java/lang/Object"), (0, .class_ 3)] 3

/-- java/io/Serializable -/
def k4 : Class := { plain "java/io/Serializable" (some 0) with
  accessFlags := 1537
  interfaces := #[]
  cf := some (fileOf pool4 2 #[] #[] 1537 4 #[] #[])
  fields := #[]
  methods := #[]
  instanceTypes := #[]
  staticTypes := #[]
  resolved := Array.replicate 8 none
  statics := none }

/-- the primitive boolean -/
def k5 : Class := { plain "boolean" none with kind := .primitive 'Z', accessFlags := 0x411 }
/-- [Z -/
def k6 : Class := { plain "[Z" (some 0) with kind := .array 5 .boolean, interfaces := #[3, 4], accessFlags := 1041 }

/-- the primitive byte -/
def k7 : Class := { plain "byte" none with kind := .primitive 'B', accessFlags := 0x411 }
/-- [B -/
def k8 : Class := { plain "[B" (some 0) with kind := .array 7 .byte, interfaces := #[3, 4], accessFlags := 1041 }

/-- the primitive int -/
def k9 : Class := { plain "int" none with kind := .primitive 'I', accessFlags := 0x411 }
/-- [I -/
def k10 : Class := { plain "[I" (some 0) with kind := .array 9 .int, interfaces := #[3, 4], accessFlags := 1041 }

def heap : Heap := #[{ cls := 2, slots := #[.null, .null, .null, .null, .ref 1, .int 0, .int 0, .null], vm := .statics 2 },
  { cls := 6, slots := #[.int 0, .int 0, .int 0, .int 0, .int 0, .int 0, .int 0, .int 0, .int 0, .int 0, .int 0, .int 0, .int 0, .int 0, .int 0, .int 0, .int 0, .int 0, .int 0, .int 0, .int 0, .int 0, .int 0, .int 0, .int 0, .int 0, .int 0, .int 0, .int 0, .int 0, .int 0, .int 0, .int 0, .int 0, .int 0, .int 0, .int 0, .int 0, .int 0, .int 0, .int 0, .int 0, .int 0, .int 0, .int 0, .int 1, .int 1, .int 0, .int 1, .int 1, .int 1, .int 1, .int 1, .int 1, .int 1, .int 1, .int 1, .int 1, .int 0, .int 0, .int 0, .int 0, .int 0, .int 0, .int 0, .int 1, .int 1, .int 1, .int 1, .int 1, .int 1, .int 1, .int 1, .int 1, .int 1, .int 1, .int 1, .int 1, .int 1, .int 1, .int 1, .int 1, .int 1, .int 1, .int 1, .int 1, .int 1, .int 1, .int 1, .int 1, .int 1, .int 0, .int 0, .int 0, .int 0, .int 1, .int 0, .int 1, .int 1, .int 1, .int 1, .int 1, .int 1, .int 1, .int 1, .int 1, .int 1, .int 1, .int 1, .int 1, .int 1, .int 1, .int 1, .int 1, .int 1, .int 1, .int 1, .int 1, .int 1, .int 1, .int 1, .int 1, .int 1, .int 0, .int 0, .int 0, .int 1, .int 0], vm := .none }]
def classes : Array Class := #[k0, k1, k2, k3, k4, k5, k6, k7, k8, k9, k10]
def interned : List (Array UInt16 × Addr) := []
def slotsUsed : Nat := 136
def theMethod : MethodId := ⟨1, 2⟩
def args0 : Array Value := #[.int 65, .int 0]
def aboutOver (below : List Frame) : State where
  vm := { classes := classes, interned := interned.toArray }
  heap := heap
  slotsUsed := slotsUsed
  threads := #[{ frames := .invoking theMethod args0 :: below }]
def below0 : List Frame := [.native { method := ⟨0, 0⟩, args := #[] }]
def about1 : State := aboutOver below0
def p0 : Program := .bare "" "" ""
def e0 : Env := launch0.env 0 0 0
theorem w_frames : about1.frames = Frame.invoking theMethod args0 :: below0 := rfl
set_option maxRecDepth 65536 in
theorem w_args : argsFit about1.vm theMethod args0 = true := by decide +kernel
set_option maxRecDepth 65536 in
theorem w_heap : heapFits about1 = true := by decide +kernel
set_option maxRecDepth 65536 in
theorem w_runnable : about1.curStatus? = some .runnable := by decide +kernel
set_option maxRecDepth 65536 in
theorem w_alone : about1.alone = true := by decide +kernel
set_option maxRecDepth 65536 in
theorem w_named : about1.methodNamed? x = some theMethod := by decide +kernel
set_option maxRecDepth 65536 in
theorem w_hears : about1.hears theMethod below0 = true := by decide +kernel
set_option maxRecDepth 65536 in
theorem w_ripe : about1.ripe theMethod args0 below0 = true := by decide +kernel
theorem w_running : about1.status = .running := rfl
set_option maxRecDepth 65536 in
theorem w_room : about1.hasRoom e0.platform room_1 = true :=
  launch0.hasRoom_least _ room_1 (by decide +kernel) (by decide +kernel) (by decide +kernel) (by decide +kernel) (by decide +kernel) (by decide +kernel)
theorem allAtoms_all (ts : List Jvm.Cond) (a : Array Jvm.Value) (st : Jvm.State) : (allAtoms ts).before a st = ts.all (fun c => c.before a st) := by
  induction ts with
  | nil => rfl
  | cons c t ih =>
    show (Jvm.Cond.and c (allAtoms t)).before a st = _
    rw [Jvm.Cond.before_and, ih, List.all_cons]
def words1 : List Jvm.Cond := Jvm.Cond.code x code maxLocals ret :: tables_1
/-- a 'code' word, met by the world's own term for the bytes: nothing is compared byte by byte -/
theorem code_word {y : MethodName} {bytes : ByteArray} {mx : Nat} {rt : Option FieldType} {a : Array Value} {s : State} {m : MethodId} {meth : Method} {c : Code} (h1 : s.methodNamed? y = some m) (h2 : s.vm.method? m = some meth) (h3 : meth.code = some c) (h4 : c.code = bytes)
    (h5 : (c.maxLocals == mx && c.exceptionTable.isEmpty && decide (c.maxStack ≤ mostOperands) && decide (meth.sig.returnType = rt) && !meth.locks && decide (parseMethodDescriptor y.desc = some meth.sig)) = true) : (Jvm.Cond.code y bytes mx rt).before a s = true := by
  simp only [Bool.and_eq_true, beq_iff_eq, Bool.not_eq_true', decide_eq_true_eq] at h5
  obtain ⟨⟨⟨⟨⟨g1, g2⟩, g3⟩, g4⟩, g5⟩, g6⟩ := h5
  simp [Cond.before, Cond.holds, Cond.value, h1, h2, h3, h4, g1, g2, g3, g4, g5, g6]
def isCode : Jvm.Cond → Bool
  | .code _ _ _ _ => true
  | _ => false
theorem all_split {L : List Jvm.Cond} {P : Jvm.Cond → Bool} (h1 : L.all (fun c => isCode c || P c) = true) (h2 : ∀ c ∈ L.filter isCode, P c = true) : L.all P = true := by
  refine List.all_eq_true.mpr fun c hc => ?_
  have h := List.all_eq_true.mp h1 c hc
  rcases Bool.eq_false_or_eq_true (isCode c) with hi | hi
  · exact h2 c (List.mem_filter.mpr ⟨hc, hi⟩)
  · simpa [hi] using h
set_option maxRecDepth 65536 in
theorem w_c0 : (Jvm.Cond.code x code maxLocals ret).before args0 about1 = true := code_word (m := ⟨1, 2⟩) (meth := k1m2) (c := k1c2) (by decide +kernel) rfl rfl rfl (by decide +kernel)
set_option maxRecDepth 65536 in
theorem w_c1 : (Jvm.Cond.code ({ cls := "dev/countersign/core/PercentEncoding", name := "isUnreserved", desc := "(I)Z" } : Jvm.MethodName) prog_31_method_5_code (1 : Nat) (Option.some Jvm.ClassFile.FieldType.boolean)).before args0 about1 = true := code_word (m := ⟨2, 1⟩) (meth := k2m1) (c := k2c1) (by decide +kernel) rfl rfl rfl (by decide +kernel)
set_option maxRecDepth 65536 in
theorem w_c2 : (Jvm.Cond.code ({ cls := "dev/countersign/core/PercentEncodingIsUnreservedPinLaw", name := "reference", desc := "(I)Z" } : Jvm.MethodName) method_2_code (1 : Nat) (Option.some Jvm.ClassFile.FieldType.boolean)).before args0 about1 = true := code_word (m := ⟨1, 1⟩) (meth := k1m1) (c := k1c1) (by decide +kernel) rfl rfl rfl (by decide +kernel)
def codes1 : List Jvm.Cond := [Jvm.Cond.code x code maxLocals ret, Jvm.Cond.code ({ cls := "dev/countersign/core/PercentEncoding", name := "isUnreserved", desc := "(I)Z" } : Jvm.MethodName) prog_31_method_5_code (1 : Nat) (Option.some Jvm.ClassFile.FieldType.boolean), Jvm.Cond.code ({ cls := "dev/countersign/core/PercentEncodingIsUnreservedPinLaw", name := "reference", desc := "(I)Z" } : Jvm.MethodName) method_2_code (1 : Nat) (Option.some Jvm.ClassFile.FieldType.boolean)]
set_option maxRecDepth 65536 in
theorem codes_eq : words1.filter isCode = codes1 := rfl
theorem w_codes : ∀ c ∈ words1.filter isCode, c.before args0 about1 = true := by
  rw [codes_eq]
  intro c hc
  simp only [codes1, List.mem_cons, List.not_mem_nil, or_false] at hc
  rcases hc with rfl | rfl | rfl
  · exact w_c0
  · exact w_c1
  · exact w_c2
set_option maxRecDepth 65536 in
theorem w_t1 : words1.all (fun c => isCode c || c.before args0 about1) = true := by decide +kernel
theorem w_tables : (allAtoms (Jvm.Cond.code x code maxLocals ret :: tables_1)).before args0 about1 = true := by
  rw [allAtoms_all]
  show words1.all (fun c => c.before args0 about1) = true
  refine all_split ?_ w_codes
  rw [w_t1]
set_option maxRecDepth 65536 in
theorem w_case : (Jvm.Cond.and given_1 narrow_1).before args0 about1 = true := by decide +kernel
theorem w_applies : (headSpec (Jvm.Cond.code x code maxLocals ret :: tables_1) room_1).applies x e0.platform about1 = true :=
  (Spec.applies_iff w_frames).mpr ⟨w_running, w_runnable, w_alone, w_named, w_hears, w_ripe, w_room, w_tables⟩
theorem atStart : AtStart classFile x code maxLocals ret World_1 tables_1 room_1 Calls_1 rest_1 Pre_1 launch0 p0 e0 about1 theMethod args0 below0 :=
  ⟨lists_1, trivial, launch0.admits_env _ _ _, launch0.least_env, fairChoices_fair.cas, fairChoices_fair.clock, w_frames, w_args, w_heap, w_applies, trivial, trivial, w_case⟩
end start1
theorem witness_1 : WitnessClaimed_1 := ⟨start1.p0, start1.e0, start1.about1, start1.theMethod, start1.args0, start1.below0, start1.atStart⟩
end Jvm.Pilot.@@N@@
