import JvmDerived
import JvmDerived.Pilot.@@N@@Statement
import JvmDerived.Pilot.@@N@@Code
set_option linter.unusedVariables false
set_option linter.unusedSimpArgs false
namespace Jvm.RoadKit
open Sem ClassFile Op Lib Jvm.Stand Jvm.Free Jvm.LawKit
section Own
variable {p : Program} {l : Launch} {e : Env} {R : Room} {s : State} {m : MethodId} {args : Array Value} {below : List Frame} {meth : Method} {c : Code} {T T' : State} {locs : List Loc} {cells slots : Nat} {Z : State} {a0 : Array Value} {h h' : Heap}
abbrev own_lv (x : Int64) : Slot := .val (.long x)
abbrev own_S (p : Program) (e : Env) (below : List Frame) (T : State) (m : MethodId) (pc : Nat) (L : Array Slot) (S : List Value) (t : State) : Prop := Steps p.tables e below (T.setTop (mkF m pc L S)) t
/-- in one state, from the second frame to the first -/
abbrev own_V (p : Program) (e : Env) (below : List Frame) (T : State) (f' f : JFrame) : Prop := ∀ t, Steps p.tables e below (T.setTop f') t → Steps p.tables e below (T.setTop f) t
/-- from this frame on the run comes to an end that G says -/
def own_Go (p : Program) (e : Env) (below : List Frame) (G : State → Outcome → Prop) (T : State) (f : JFrame) : Prop :=
  ∃ t o, Steps p.tables e below (T.setTop f) t ∧ G t o
theorem own_st {G : State → Outcome → Prop} {f f' : JFrame} (st : ∀ t, Steps p.tables e below (T'.setTop f') t → Steps p.tables e below (T.setTop f) t) (k : own_Go p e below G T' f') : own_Go p e below G T f := by
  obtain ⟨t, o, h1, h2⟩ := k
  exact ⟨t, o, st t h1, h2⟩
/-- from this frame on the run comes to a state and a frame that P says -/
def own_Pk (p : Program) (e : Env) (below : List Frame) (P : State → JFrame → Prop) (T : State) (f : JFrame) : Prop :=
  ∃ T' f', P T' f' ∧ ∀ t, Steps p.tables e below (T'.setTop f') t → Steps p.tables e below (T.setTop f) t
theorem own_sp {P : State → JFrame → Prop} {f f' : JFrame} (st : ∀ t, Steps p.tables e below (T'.setTop f') t → Steps p.tables e below (T.setTop f) t) (k : own_Pk p e below P T' f') : own_Pk p e below P T f := by
  obtain ⟨T2, f2, h1, h2⟩ := k
  exact ⟨T2, f2, h1, fun t q => st t (h2 t q)⟩
theorem own_pm {P P' : State → JFrame → Prop} {f : JFrame} (k : own_Pk p e below P T f) (q : ∀ T' f', P T' f' → P' T' f') : own_Pk p e below P' T f := by
  obtain ⟨T2, f2, h1, h2⟩ := k
  exact ⟨T2, f2, q _ _ h1, h2⟩
/-- it returned, Q says what, and the frame is kept -/
def own_End (s : State) (below : List Frame) (Q : Option Value → Heap → List Loc → Prop) (C S : Nat) : State → Outcome → Prop := fun t o =>
  t.status = .running ∧ Ended t below o ∧ ∃ v L, o = .returned v ∧ Q v t.heap L ∧ FrameEnd s o t L C S
theorem own_body {y : MethodName} {bytes : ByteArray} {ml : Nat} {rt : Option FieldType} {rm : Room} {as' : Array Value} {h0 : Heap} {Q : Option Value → Heap → List Loc → Prop} {C S : Nat} {ws : List Jvm.Cond} (hp : plainFor y = true)
    (H : ∀ p e s m below meth c s₁, BodyLoose p l y (head1 (Jvm.Cond.code y bytes ml rt :: ws) rm) bytes ml rt e s m as' below meth c s₁ → c.maxLocals = ml → Z.Warmed39 s.vm → s₁.heap = h0 → own_Go p e below (own_End s below Q C S) s₁ (entryFrame m as' ml)) :
    MetFree l y (head1 (Jvm.Cond.code y bytes ml rt :: ws) rm) (fun a U => a = as' ∧ Z.Warmed39 U.vm ∧ U.heap = h0) (fun _ _ _ _ _ => True) (fun _ U o U' => ∃ v L, o = .returned v ∧ Q v U'.heap L ∧ FrameEnd U o U' L C S) := by
  refine MetFree.of_bodySF hp hisR ?_
  intro p e s m args below meth c s₁ Bd hml hP hK
  obtain ⟨rfl, hZ, hh⟩ := hP
  have e0 : s₁.heap = h0 := by rw [← hh, Bd.state]; rfl
  obtain ⟨t, o, h1, h2, h3, h4⟩ := H p e s m below meth c s₁ Bd hml hZ e0
  exact ⟨t, o, h1, h2, h3, h4⟩
/-- a callee's contract -/
abbrev own_Ct (l : Launch) (Z : State) (y : MethodName) (bytes : ByteArray) (ml : Nat) (rt : Option FieldType) (rm : Room) (as' : Array Value) (h0 : Heap) (Q : Option Value → Heap → List Loc → Prop) : Prop :=
  MetFree l y (head1 [Jvm.Cond.code y bytes ml rt] rm) (fun a U => a = as' ∧ Z.Warmed39 U.vm ∧ U.heap = h0) (fun _ _ _ _ _ => True) (fun _ U o U' => ∃ v L, o = .returned v ∧ Q v U'.heap L ∧ FrameEnd U o U' L rm.cells rm.slots)
section Ret
variable {Q : Option Value → Heap → List Loc → Prop} {C S : Nat}
theorem own_out {v : Option Value} {f : JFrame} (X : Stand p l e R s m args below meth c T locs cells slots) (hv : meth.sig.returnType = none → v = none) (hlocks : meth.locks = false) (hC : cells ≤ C) (hS : slots ≤ S) (eT : T.heap = h) (hq : Q v h locs)
    (go : ∀ fs, (∀ (f : JFrame) (acts : List Action), f.method = m → f.locked = none → f.entered = [] → (doReturn e (T.setTop f) acts v).1 = T.setFrames fs) → Steps p.tables e below (T.setTop f) (T.setFrames fs)) :
    own_Go p e below (own_End s below Q C S) T f := by
  obtain ⟨fs, hr, hrun, hended, hW, hsame⟩ := X.leave (v := v) hv hlocks
  refine ⟨_, _, go fs hr, hrun, hended, _, _, rfl, ?_, ⟨_, rfl⟩, hW, hsame.mono hC hS⟩
  show Q v T.heap locs
  rw [eT]; exact hq
theorem own_retI (X : Stand p l e R s m args below meth c T locs cells slots) (hx : p.tables.exec = Jvm.exec) (hlocks : meth.locks = false) (hret : meth.sig.returnType = some .int) {pc : Nat} {Ls : Array Slot} {z : Int32} {rest : List Value} (hd : decode c.code pc = .ok (.ireturn, 1)) (hC : cells ≤ C) (hS : slots ≤ S) (eT : T.heap = h) (hq : Q (some (.int z)) h locs) :
    own_Go p e below (own_End s below Q C S) T (mkF m pc Ls (.int z :: rest)) :=
  own_out X (fun q => by rw [hret] at q; cases q) hlocks hC hS eT hq fun fs hr => retOut X hx hret rfl (Or.inl ⟨rfl, Or.inl rfl, z, rfl⟩) hd hr
theorem own_retZ (X : Stand p l e R s m args below meth c T locs cells slots) (hx : p.tables.exec = Jvm.exec) (hlocks : meth.locks = false) (hret : meth.sig.returnType = some .boolean) {pc : Nat} {Ls : Array Slot} {z : Int32} {rest : List Value} (hd : decode c.code pc = .ok (.ireturn, 1)) (hz : z = 0 ∨ z = 1) (hC : cells ≤ C) (hS : slots ≤ S) (eT : T.heap = h) (hq : Q (some (.int z)) h locs) :
    own_Go p e below (own_End s below Q C S) T (mkF m pc Ls (.int z :: rest)) :=
  own_out X (fun q => by rw [hret] at q; cases q) hlocks hC hS eT hq fun fs hr => retN X hx hret (Or.inl rfl) hd (by
    have : nar .boolean z = z := by rcases hz with rfl | rfl <;> decide
    rw [this]; exact hr)
theorem own_retB (X : Stand p l e R s m args below meth c T locs cells slots) (hx : p.tables.exec = Jvm.exec) (hlocks : meth.locks = false) (hret : meth.sig.returnType = some .byte) {pc : Nat} {Ls : Array Slot} {z : Int32} {rest : List Value} (hd : decode c.code pc = .ok (.ireturn, 1)) (hz : nar .byte z = z) (hC : cells ≤ C) (hS : slots ≤ S) (eT : T.heap = h) (hq : Q (some (.int z)) h locs) :
    own_Go p e below (own_End s below Q C S) T (mkF m pc Ls (.int z :: rest)) :=
  own_out X (fun q => by rw [hret] at q; cases q) hlocks hC hS eT hq fun fs hr => retN X hx hret (Or.inr (Or.inl rfl)) hd (by rw [hz]; exact hr)
theorem own_retJ (X : Stand p l e R s m args below meth c T locs cells slots) (hx : p.tables.exec = Jvm.exec) (hlocks : meth.locks = false) (hret : meth.sig.returnType = some .long) {pc : Nat} {Ls : Array Slot} {z : Int64} {rest : List Value} (hd : decode c.code pc = .ok (.lreturn, 1)) (hC : cells ≤ C) (hS : slots ≤ S) (eT : T.heap = h) (hq : Q (some (.long z)) h locs) :
    own_Go p e below (own_End s below Q C S) T (mkF m pc Ls (.long z :: rest)) :=
  own_out X (fun q => by rw [hret] at q; cases q) hlocks hC hS eT hq fun fs hr => retOut X hx hret rfl (Or.inr (Or.inl ⟨rfl, rfl, z, rfl⟩)) hd hr
theorem own_retR {t : FieldType} {w : Value} (X : Stand p l e R s m args below meth c T locs cells slots) (hx : p.tables.exec = Jvm.exec) (hlocks : meth.locks = false) (hret : meth.sig.returnType = some t) (ht : t.isReference = true) (hw : w.isRef = true) {pc : Nat} {Ls : Array Slot} {rest : List Value} (hd : decode c.code pc = .ok (.areturn, 1)) (hC : cells ≤ C) (hS : slots ≤ S) (eT : T.heap = h) (hq : Q (some w) h locs) :
    own_Go p e below (own_End s below Q C S) T (mkF m pc Ls (w :: rest)) :=
  own_out X (fun q => by rw [hret] at q; cases q) hlocks hC hS eT hq fun fs hr => retOut X hx hret (by cases t <;> cases w <;> first | rfl | (cases ht; done) | (cases hw; done)) (Or.inr (Or.inr (Or.inr (Or.inr ⟨rfl, ht, hw⟩)))) hd hr
theorem own_retV (X : Stand p l e R s m args below meth c T locs cells slots) (hx : p.tables.exec = Jvm.exec) (hlocks : meth.locks = false) (hret : meth.sig.returnType = none) {pc : Nat} {Ls : Array Slot} (hd : decode c.code pc = .ok (.return_, 1)) (hC : cells ≤ C) (hS : slots ≤ S) (eT : T.heap = h) (hq : Q none h locs) :
    own_Go p e below (own_End s below Q C S) T (mkF m pc Ls []) :=
  own_out X (fun _ => rfl) hlocks hC hS eT hq fun fs hr => X.returnOut hx hret hd hr
end Ret
section Call
variable {own : String} {index : Nat} {y : MethodName} {bytes : ByteArray} {ml : Nat} {rt : Option FieldType} {rm : Room} {Q : Option Value → Heap → List Loc → Prop} {g : JFrame} {argsL rest : List Value} {W : Nat}
theorem own_callS (X : Stand p l e R s m args below meth c T locs cells slots) (hx : p.tables.exec = Jvm.exec) (hZ : Z.Warmed39 s.vm) (hown : s.vm.findClass own = some m.cls)
    (w1 : (Jvm.Cond.methodLink own index y).before a0 Z = true) (w2 : (Jvm.Cond.static y).before a0 Z = true) (w3 : (Jvm.Cond.initialized y.cls).before a0 Z = true) (w4 : (Jvm.Cond.code y bytes ml rt).before a0 Z = true)
    (hy : y.cls ≠ "java/lang/invoke/MethodHandle" ∧ y.cls ≠ "java/lang/invoke/VarHandle") (ct : own_Ct l Z y bytes ml rt rm argsL.toArray h Q) (eT : T.heap = h) (hg : g.method = m) (hsize : g.locals.size = c.maxLocals)
    (hlen : ∀ sig, parseMethodDescriptor y.desc = some sig → argsL.length = sig.parameters.length) (hstack : g.stack = argsL.reverse ++ rest) (hW : 2 * g.monitorRoom + (rest.map fun v => v.category).sum ≤ W) (hdg : decode c.code g.pc = .ok (.invokestatic index, 3))
    (hf : rm.frames + 1 ≤ R.frames) (hl : W + (ml + 11) + rm.locals ≤ R.locals) (hc : cells + rm.cells ≤ R.cells) (hs : slots + rm.slots ≤ R.slots) :
    ∃ v T' L, Stand p l e R s m args below meth c T' (locs ++ L) (cells + rm.cells) (slots + rm.slots) ∧ Q v T'.heap L ∧ ∀ target, Steps p.tables e below (T'.setTop { g with pc := g.pc + 3, stack := v.toList ++ rest }) target → Steps p.tables e below (T.setTop g) target := by
  obtain ⟨v, vm1, ⟨T1, L1, k1, n1⟩, -, X1, ⟨L, hQ, h1, h2, h3⟩, st⟩ := Jvm.LawKit.callS X hx hown (mvT hZ w1) (mvT hZ w2) (mvT hZ w3) (mvT hZ w4) hy (backOf (W := W) ct hZ w4 w3 hf hl) hg hsize hlen hstack hW hdg (fun _ _ => ⟨rfl, eT, hc, hs⟩)
  dsimp only [Pt.U, Pt.locs, Pt.cells, Pt.slots] at X1 h1 h2 h3 hQ st
  subst h1 h2 h3
  exact ⟨v, T1, L, X1, hQ, st⟩
theorem own_callI {a : Addr} (X : Stand p l e R s m args below meth c T locs cells slots) (hx : p.tables.exec = Jvm.exec) (hZ : Z.Warmed39 s.vm) (hown : s.vm.findClass own = some m.cls) (hy1 : y.name = "<init>")
    (w1 : (Jvm.Cond.methodLink own index y).before a0 Z = true) (w2 : (Jvm.Cond.instanceMethod y).before a0 Z = true) (w3 : (Jvm.Cond.initialized y.cls).before a0 Z = true) (w4 : (Jvm.Cond.code y bytes ml none).before a0 Z = true)
    (hy : y.cls ≠ "java/lang/invoke/MethodHandle" ∧ y.cls ≠ "java/lang/invoke/VarHandle") (ct : own_Ct l Z y bytes ml none rm (.ref a :: argsL).toArray h Q) (eT : T.heap = h) (hg : g.method = m) (hsize : g.locals.size = c.maxLocals)
    (hlen : ∀ sig, parseMethodDescriptor y.desc = some sig → argsL.length = sig.parameters.length) (hstack : g.stack = argsL.reverse ++ .ref a :: rest) (hW : 2 * g.monitorRoom + (rest.map fun v => v.category).sum ≤ W) (hdg : decode c.code g.pc = .ok (.invokespecial index, 3))
    (hf : rm.frames + 1 ≤ R.frames) (hl : W + (ml + 11) + rm.locals ≤ R.locals) (hc : cells + rm.cells ≤ R.cells) (hs : slots + rm.slots ≤ R.slots) :
    ∃ v T' L, Stand p l e R s m args below meth c T' (locs ++ L) (cells + rm.cells) (slots + rm.slots) ∧ Q v T'.heap L ∧ ∀ target, Steps p.tables e below (T'.setTop { g with pc := g.pc + 3, stack := v.toList ++ rest }) target → Steps p.tables e below (T.setTop g) target := by
  obtain ⟨v, vm1, ⟨T1, L1, k1, n1⟩, -, X1, ⟨L, hQ, h1, h2, h3⟩, st⟩ := X.specialBack hx hy1 hown (mvT hZ w1) (mvT hZ w2) (mvT hZ w4) hy (backOf (W := W) ct hZ w4 w3 hf hl) hg hsize (Steps.refl _) hlen hstack hW hdg (fun _ _ => ⟨rfl, eT, hc, hs⟩)
  dsimp only [Pt.U, Pt.locs, Pt.cells, Pt.slots] at X1 h1 h2 h3 hQ st
  subst h1 h2 h3
  exact ⟨v, T1, L, X1, hQ, fun t k => st.trans k⟩
theorem own_callV {a : Addr} {C : String} (X : Stand p l e R s m args below meth c T locs cells slots) (hx : p.tables.exec = Jvm.exec) (hZ : Z.Warmed39 s.vm) (hown : s.vm.findClass own = some m.cls) (E : Exa Z h a C) {y0 : MethodName}
    (w1 : (Jvm.Cond.methodLink own index y0).before a0 Z = true) (w2 : (Jvm.Cond.declares y0).before a0 Z = true) (w5 : (Jvm.Cond.selects C y0 y).before a0 Z = true) (nf : NotFace s y0) (w6 : (Jvm.Cond.instanceMethod y).before a0 Z = true) (w3 : (Jvm.Cond.initialized y.cls).before a0 Z = true) (w4 : (Jvm.Cond.code y bytes ml rt).before a0 Z = true)
    (hy : y0.cls ≠ "java/lang/invoke/MethodHandle" ∧ y0.cls ≠ "java/lang/invoke/VarHandle") (ct : own_Ct l Z y bytes ml rt rm (.ref a :: argsL).toArray h Q) (eT : T.heap = h) (hg : g.method = m) (hsize : g.locals.size = c.maxLocals)
    (hlen : ∀ sig, parseMethodDescriptor y0.desc = some sig → argsL.length = sig.parameters.length) (hstack : g.stack = argsL.reverse ++ .ref a :: rest) (hW : 2 * g.monitorRoom + (rest.map fun v => v.category).sum ≤ W) (hdg : decode c.code g.pc = .ok (.invokevirtual index, 3))
    (hf : rm.frames + 1 ≤ R.frames) (hl : W + (ml + 11) + rm.locals ≤ R.locals) (hc : cells + rm.cells ≤ R.cells) (hs : slots + rm.slots ≤ R.slots) :
    ∃ v T' L, Stand p l e R s m args below meth c T' (locs ++ L) (cells + rm.cells) (slots + rm.slots) ∧ Q v T'.heap L ∧ ∀ target, Steps p.tables e below (T'.setTop { g with pc := g.pc + 3, stack := v.toList ++ rest }) target → Steps p.tables e below (T.setTop g) target := by
  obtain ⟨cq, kq, qa, qb, qc⟩ := isOf hZ eT E
  obtain ⟨v, vm1, ⟨T1, L1, k1, n1⟩, -, X1, ⟨L, hQ, h1, h2, h3⟩, st⟩ := X.virtualBack hx (y := y0) (z := y) hown (mvT hZ w1) (mvT hZ w2) nf (mvT hZ w5) (mvT hZ w6) hy (backOf (W := W) ct hZ w4 w3 hf hl) qa qc hg hsize (Steps.refl _) hlen hstack hW hdg (fun _ _ => ⟨rfl, eT, hc, hs⟩)
  dsimp only [Pt.U, Pt.locs, Pt.cells, Pt.slots] at X1 h1 h2 h3 hQ st
  subst h1 h2 h3
  exact ⟨v, T1, L, X1, hQ, fun t k => st.trans k⟩
theorem own_callP {a : Addr} {C C0 : String} {x z : MethodName} (X : Stand p l e R s m args below meth c T locs cells slots) (hx : p.tables.exec = Jvm.exec) (hZ : Z.Warmed39 s.vm) (hown : s.vm.findClass own = some m.cls) (E : Exa Z h a C0) (hz : z.cls = y.cls)
    (w1 : (Jvm.Cond.methodLink own index y).before a0 Z = true) (w2 : (Jvm.Cond.instanceMethod y).before a0 Z = true) (w5 : (Jvm.Cond.selects C x z).before a0 Z = true) (wp : (Jvm.Cond.privateMethod y).before a0 Z = true) (w3 : (Jvm.Cond.initialized y.cls).before a0 Z = true) (w4 : (Jvm.Cond.code y bytes ml rt).before a0 Z = true)
    (hy : y.cls ≠ "java/lang/invoke/MethodHandle" ∧ y.cls ≠ "java/lang/invoke/VarHandle") (ct : own_Ct l Z y bytes ml rt rm (.ref a :: argsL).toArray h Q) (eT : T.heap = h) (hg : g.method = m) (hsize : g.locals.size = c.maxLocals)
    (hlen : ∀ sig, parseMethodDescriptor y.desc = some sig → argsL.length = sig.parameters.length) (hstack : g.stack = argsL.reverse ++ .ref a :: rest) (hW : 2 * g.monitorRoom + (rest.map fun v => v.category).sum ≤ W) (hdg : decode c.code g.pc = .ok (.invokevirtual index, 3))
    (hf : rm.frames + 1 ≤ R.frames) (hl : W + (ml + 11) + rm.locals ≤ R.locals) (hc : cells + rm.cells ≤ R.cells) (hs : slots + rm.slots ≤ R.slots) :
    ∃ v T' L, Stand p l e R s m args below meth c T' (locs ++ L) (cells + rm.cells) (slots + rm.slots) ∧ Q v T'.heap L ∧ ∀ target, Steps p.tables e below (T'.setTop { g with pc := g.pc + 3, stack := v.toList ++ rest }) target → Steps p.tables e below (T.setTop g) target := by
  obtain ⟨cq, q1, q2⟩ := E.cell
  have hp : s.PrivateAt y := Cond.privateMethod_at (mvP hZ wp (args := #[]))
  have w5' : (Jvm.Cond.selects C x z).before args s = true := mvT hZ w5
  obtain ⟨c2, r2, m2, -, -, q3, -, kP, hkP, hkPi⟩ := Cond.selects_spec w5'
  have hcl : s.vm.findClass y.cls = some m2.cls := hz ▸ findClass_of_methodNamed q3
  have hsel : (Jvm.Cond.selects y.cls y y).before args s = true := selects_self_of_private hcl hkP hkPi hp (mvT hZ w2) hy
  obtain ⟨v, vm1, ⟨T1, L1, k1, n1⟩, -, X1, ⟨L, hQ, h1, h2, h3⟩, st⟩ := X.privateBack hx hown (mvT hZ w1) (mvT hZ w2) hsel hp (mvT hZ w4) hy (backOf (W := W) ct hZ w4 w3 hf hl) hg hsize (Steps.refl _) (a := a) (by rw [eT]; exact q1) q2 hlen hstack hW hdg (fun _ _ => ⟨rfl, eT, hc, hs⟩)
  dsimp only [Pt.U, Pt.locs, Pt.cells, Pt.slots] at X1 h1 h2 h3 hQ st
  subst h1 h2 h3
  exact ⟨v, T1, L, X1, hQ, fun t k => st.trans k⟩
theorem own_callF {a : Addr} {C : String} {count : Nat} (X : Stand p l e R s m args below meth c T locs cells slots) (hx : p.tables.exec = Jvm.exec) (hZ : Z.Warmed39 s.vm) (hown : s.vm.findClass own = some m.cls) (E : Exa Z h a C) {y0 : MethodName}
    (w1 : (Jvm.Cond.methodLink own index y0).before a0 Z = true) (w2 : (Jvm.Cond.declares y0).before a0 Z = true) (wf : (Jvm.Cond.interfaceMethod y0.cls y0.cls y0.name y0.desc).before args s = true) (w5 : (Jvm.Cond.selects C y0 y).before a0 Z = true) (w6 : (Jvm.Cond.instanceMethod y).before a0 Z = true) (wp : (Jvm.Cond.publicMethod y).before a0 Z = true) (wu : (Jvm.Cond.unhidden C y0.name y0.desc).before a0 Z = true) (wk : (Jvm.Cond.castable C y0.cls).before a0 Z = true) (w3 : (Jvm.Cond.initialized y.cls).before a0 Z = true) (w4 : (Jvm.Cond.code y bytes ml rt).before a0 Z = true)
    (hy : y0.cls ≠ "java/lang/invoke/MethodHandle" ∧ y0.cls ≠ "java/lang/invoke/VarHandle") (ct : own_Ct l Z y bytes ml rt rm (.ref a :: argsL).toArray h Q) (eT : T.heap = h) (hg : g.method = m) (hsize : g.locals.size = c.maxLocals)
    (hlen : ∀ sig, parseMethodDescriptor y0.desc = some sig → argsL.length = sig.parameters.length) (hstack : g.stack = argsL.reverse ++ .ref a :: rest) (hW : 2 * g.monitorRoom + (rest.map fun v => v.category).sum ≤ W) (hdg : decode c.code g.pc = .ok (.invokeinterface index count, 5))
    (hf : rm.frames + 1 ≤ R.frames) (hl : W + (ml + 11) + rm.locals ≤ R.locals) (hc : cells + rm.cells ≤ R.cells) (hs : slots + rm.slots ≤ R.slots) :
    ∃ v T' L, Stand p l e R s m args below meth c T' (locs ++ L) (cells + rm.cells) (slots + rm.slots) ∧ Q v T'.heap L ∧ ∀ target, Steps p.tables e below (T'.setTop { g with pc := g.pc + 5, stack := v.toList ++ rest }) target → Steps p.tables e below (T.setTop g) target := by
  obtain ⟨cq, kq, qa, qb, qc⟩ := isOf hZ eT E
  obtain ⟨v, vm1, ⟨T1, L1, k1, n1⟩, -, X1, ⟨L, hQ, h1, h2, h3⟩, st⟩ := X.interfaceBack hx (xi := y0) (y := y) hown (mvT hZ w1) (mvT hZ w2) wf (mvT hZ w5) (mvT hZ w6) (mvT hZ wp) (mvT hZ wu) (mvT hZ wk) hy (backOf (W := W) ct hZ w4 w3 hf hl) qa qb qc hg hsize (Steps.refl _) hlen hstack hW hdg (fun _ _ => ⟨rfl, eT, hc, hs⟩)
  dsimp only [Pt.U, Pt.locs, Pt.cells, Pt.slots] at X1 h1 h2 h3 hQ st
  subst h1 h2 h3
  exact ⟨v, T1, L, X1, hQ, fun t k => st.trans k⟩
end Call
/-- getfield by an entry that is resolved already -/
theorem own_getR {O n d : String} {a : Addr} {v : Value} (X : Stand p l e R s m args below meth c T locs cells slots) (hx : p.tables.exec = Jvm.exec) (hZ : Z.Warmed39 s.vm) {own : String} {index : Nat} (hown : s.vm.findClass own = some m.cls) (w : (Jvm.Cond.fieldRef own index O n d).before a0 Z = true) (eT : T.heap = h) (F : Fld Z h a O n d v)
    {g : JFrame} (hg : g.method = m) {rest : List Value} (hs : g.stack = .ref a :: rest) (hd : decode c.code g.pc = .ok (.getfield index, 3)) :
    ∀ t, Steps p.tables e below (T.setTop { g with pc := g.pc + 3, stack := v :: rest }) t → Steps p.tables e below (T.setTop g) t := by
  have hT : Z.Warmed39 T.vm := wtrans hZ X.warmed
  have w' := Cond.fieldRef_warmed39 hT w
  have hownT : (Z.setVm T.vm).vm.findClass own = some m.cls := by
    show T.vm.findClass own = _
    rw [X.warmed.alike.findClass]; exact hown
  obtain ⟨c1, k1, i1, f1, q1, q2⟩ := Cond.fieldRef_spec hownT w'
  obtain ⟨cell, cf, k, i, f, h1, h2, h3, h4, -, -, h7⟩ := F
  obtain ⟨k', hi, -⟩ := State.fieldFound?_setVm (s := Z) hT.alike h2
  cases q1.symm.trans hi
  exact fun t kt => (X.getfieldR hx hg q2 h3 hs (by rw [eT]; exact h1) h4 h7 hd (Steps.refl _)).trans kt
theorem own_Sta.keep {C n d : String} {v : Value} (S : Sta Z h C n d v) (K : Keep h h' []) : Sta Z h' C n d v := by
  obtain ⟨cf, i, k, f, st, cell, h1, h2, h3, h4, h5, h6, h7⟩ := S
  exact ⟨cf, i, k, f, st, cell, h1, h2, h3, h4, K.2.1 _ _ h5 nin0, h6, h7⟩
theorem own_imod (x y : Int32) : x - (x / y) * y = x % y := by
  apply Int32.toInt_inj.mp
  have h1 := rng32 (x % y)
  rw [Int32.toInt_sub, Int32.toInt_mul, Int32.toInt_div, Int.bmod_mul_bmod, Int.sub_bmod_bmod, Int.mul_comm (x.toInt.tdiv y.toInt), ← Int.tmod_def, ← Int32.toInt_mod]
  exact Int.bmod_eq_of_le_mul_two (by omega) (by omega)
theorem own_irem {T target : State} {g : JFrame} (h : At T m c below) (hx : p.tables.exec = Jvm.exec) (hg : g.method = m) {x y : Int32} {rest : List Value} (hd : decode c.code g.pc = .ok (.irem, 1)) (hs : g.stack = .int y :: .int x :: rest) (hy : y ≠ 0)
    (hr : Steps p.tables e below (T.setTop { g with pc := g.pc + 1, stack := .int (x % y) :: rest }) target) : Steps p.tables e below (T.setTop g) target := by
  refine XS.irem h hx hg hd hs hy ?_
  rw [own_imod x y]
  exact hr
section Cmp
theorem own_tltL {x y : Int64} (h : x < y) : ifCond.holds .lt (lcmpW x y) = true ∧ ifCond.holds .ge (lcmpW x y) = false := by
  rw [if0, if0]; exact ⟨(tlt ((lw_lt x y).mpr h)).1, (tlt ((lw_lt x y).mpr h)).2.1⟩
theorem own_fltL {x y : Int64} (h : ¬ x < y) : ifCond.holds .lt (lcmpW x y) = false ∧ ifCond.holds .ge (lcmpW x y) = true := by
  have q : ¬ lcmpW x y < 0 := fun q => h ((lw_lt x y).mp q)
  rw [if0, if0]; exact ⟨(flt q).1, (flt q).2.1⟩
theorem own_tgtL {x y : Int64} (h : y < x) : ifCond.holds .gt (lcmpW x y) = true ∧ ifCond.holds .le (lcmpW x y) = false := by
  rw [if0, if0]; exact ⟨(tlt ((lw_gt x y).mpr h)).2.2.1, (tlt ((lw_gt x y).mpr h)).2.2.2⟩
theorem own_fgtL {x y : Int64} (h : ¬ y < x) : ifCond.holds .gt (lcmpW x y) = false ∧ ifCond.holds .le (lcmpW x y) = true := by
  have q : ¬ 0 < lcmpW x y := fun q => h ((lw_gt x y).mp q)
  rw [if0, if0]; exact ⟨(flt q).2.2.1, (flt q).2.2.2⟩
theorem own_teqL {x y : Int64} (h : x = y) : ifCond.holds .eq (lcmpW x y) = true ∧ ifCond.holds .ne (lcmpW x y) = false := by
  rw [if0, if0]; exact ⟨(teq ((lw_eq x y).mpr h)).1, (teq ((lw_eq x y).mpr h)).2⟩
theorem own_feqL {x y : Int64} (h : ¬ x = y) : ifCond.holds .eq (lcmpW x y) = false ∧ ifCond.holds .ne (lcmpW x y) = true := by
  have q : ¬ lcmpW x y = 0 := fun q => h ((lw_eq x y).mp q)
  rw [if0, if0]; exact ⟨(feq q).1, (feq q).2⟩
end Cmp
/-- an array: its kind, its length, its values -/
def own_AV (Z : State) (h : Heap) (a : Addr) (ty : FieldType) (n : Nat) (f : Nat → Value) : Prop :=
  ∃ cl : Cell, Arr Z h a cl ty ∧ cl.slots.size = n ∧ (∀ i, i < n → cl.slots[i]? = some (f i)) ∧ ∀ i, i < n → fits ty (f i) = true
/-- an array of int-like values -/
def own_AI (Z : State) (h : Heap) (a : Addr) (ty : FieldType) (n : Nat) (f : Nat → Int32) : Prop := own_AV Z h a ty n (fun i => .int (f i))
def own_AL (Z : State) (h : Heap) (a : Addr) (n : Nat) (f : Nat → Int64) : Prop := own_AV Z h a .long n (fun i => .long (f i))
def own_updV (f : Nat → Value) (k : Nat) (v : Value) : Nat → Value := fun i => if i = k then v else f i
def own_upd (f : Nat → Int32) (k : Nat) (v : Int32) : Nat → Int32 := fun i => if i = k then v else f i
def own_updL (f : Nat → Int64) (k : Nat) (v : Int64) : Nat → Int64 := fun i => if i = k then v else f i
theorem own_idx {j : Int32} {k n : Nat} {cl : Cell} (S : cl.slots.size = n) (hj : j.toInt = (k : Int)) (hk : k < n) : ¬ (j < 0 ∨ cl.slots.size ≤ j.toNatClampNeg) ∧ j.toNatClampNeg = k := by
  have e0 : (0 : Int32).toInt = 0 := by decide
  have e1 : j.toNatClampNeg = k := by
    show j.toInt.toNat = k
    rw [hj]; rfl
  refine ⟨?_, e1⟩
  rintro (q | q)
  · rw [Int32.lt_iff_toInt_lt, e0, hj] at q; omega
  · rw [e1, S] at q; omega
section AV
variable {a b : Addr} {ty : FieldType} {n : Nat} {f : Nat → Value}
theorem own_AV.lt (A : own_AV Z h a ty n f) : a < h.size := by obtain ⟨cl, h1, -⟩ := A; exact h1.lt
theorem own_AV.ext (A : own_AV Z h a ty n f) (E : Ext h h') : own_AV Z h' a ty n f := by obtain ⟨cl, h1, r⟩ := A; exact ⟨cl, h1.ext E, r⟩
theorem own_AV.other (A : own_AV Z h b ty n f) {sl : Nat} {v : Value} (W : Wr h h' a sl v) (q : b ≠ a) : own_AV Z h' b ty n f := by obtain ⟨cl, h1, r⟩ := A; exact ⟨cl, h1.other W q, r⟩
theorem own_AV.keep {ws : List Addr} (A : own_AV Z h a ty n f) (K : Keep h h' ws) (q : a ∉ ws) : own_AV Z h' a ty n f := by obtain ⟨cl, h1, r⟩ := A; exact ⟨cl, ⟨K.2.1 a cl h1.1 q, h1.2⟩, r⟩
theorem own_AV.congr {g : Nat → Value} (A : own_AV Z h a ty n f) (q : ∀ i, i < n → f i = g i) : own_AV Z h a ty n g := by
  obtain ⟨cl, h1, h2, h3, h4⟩ := A
  exact ⟨cl, h1, h2, fun i hi => by rw [← q i hi]; exact h3 i hi, fun i hi => by rw [← q i hi]; exact h4 i hi⟩
theorem own_AV.new {cA : ClassId} {z : Int32} (A : Arr Z h a (newA cA ty z) ty) (hn : z.toNatClampNeg = n) (hf : fits ty (defaultValue ty) = true) : own_AV Z h a ty n (fun _ => defaultValue ty) :=
  ⟨_, A, by rw [sz_new, hn], fun i hi => by subst hn; simp only [newA, Array.getElem?_replicate, hi, if_true], fun _ _ => hf⟩
theorem own_AV.set {k : Nat} {v : Value} (F : own_AV Z h a ty n f) (hk : k < n) (hv : fits ty v = true) (W : Wr h h' a k v) : own_AV Z h' a ty n (own_updV f k v) := by
  obtain ⟨cl, A, S, H, G⟩ := F
  refine ⟨_, A.same W, by rw [sz_set, S], fun i hi => ?_, fun i hi => ?_⟩
  · by_cases q : i = k
    · subst q; simp [Cell.setSlot, own_updV, S, hk]
    · have q' : ¬ k = i := fun r => q r.symm
      simp only [Cell.setSlot, own_updV, q, if_false]
      rw [Array.getElem?_setIfInBounds_ne q']
      exact H i hi
  · by_cases q : i = k
    · simp only [own_updV, q, if_true]; exact hv
    · simp only [own_updV, q, if_false]; exact G i hi
end AV
section AI
variable {a b : Addr} {ty : FieldType} {n : Nat} {f : Nat → Int32}
theorem own_AI.lt (A : own_AI Z h a ty n f) : a < h.size := own_AV.lt A
theorem own_AI.ext (A : own_AI Z h a ty n f) (E : Ext h h') : own_AI Z h' a ty n f := own_AV.ext A E
theorem own_AI.other (A : own_AI Z h b ty n f) {sl : Nat} {v : Value} (W : Wr h h' a sl v) (q : b ≠ a) : own_AI Z h' b ty n f := own_AV.other A W q
theorem own_AI.keep {ws : List Addr} (A : own_AI Z h a ty n f) (K : Keep h h' ws) (q : a ∉ ws) : own_AI Z h' a ty n f := own_AV.keep A K q
theorem own_AI.congr {g : Nat → Int32} (A : own_AI Z h a ty n f) (q : ∀ i, i < n → f i = g i) : own_AI Z h a ty n g := own_AV.congr A fun i hi => congrArg Value.int (q i hi)
theorem own_AI.set {k : Nat} {v : Int32} (F : own_AI Z h a ty n f) (hk : k < n) (hv : fits ty (.int v) = true) (W : Wr h h' a k (.int v)) : own_AI Z h' a ty n (own_upd f k v) :=
  (own_AV.set F hk hv W).congr fun i _ => by
    by_cases q : i = k <;> simp [own_updV, own_upd, q]
end AI
section Rd
variable {a : Addr} {n k : Nat} {j : Int32} {g : JFrame} {rest : List Value}
theorem own_rdI {f : Nat → Int32} (X : Stand p l e R s m args below meth c T locs cells slots) (hx : p.tables.exec = Jvm.exec) (hZ : Z.Warmed39 s.vm) (eT : T.heap = h) (A : own_AI Z h a .int n f) (hj : j.toInt = (k : Int)) (hk : k < n) (hg : g.method = m) (hs : g.stack = .int j :: .ref a :: rest) (hd : decode c.code g.pc = .ok (.iaload, 1)) :
    ∀ t, Steps p.tables e below (T.setTop { g with pc := g.pc + 1, stack := .int (f k) :: rest }) t → Steps p.tables e below (T.setTop g) t := by
  obtain ⟨cl, A1, S, H, -⟩ := A
  obtain ⟨hin, e1⟩ := own_idx S hj hk
  exact X.iaload hx (by rw [eT]; exact A1.1) (State.isArrayOf_alike hZ.alike A1.2.1) A1.2.2 hin (by rw [e1]; exact H k hk) hg hs hd
theorem own_rdB {f : Nat → Int32} (X : Stand p l e R s m args below meth c T locs cells slots) (hx : p.tables.exec = Jvm.exec) (hZ : Z.Warmed39 s.vm) (eT : T.heap = h) (A : own_AI Z h a .byte n f) (hj : j.toInt = (k : Int)) (hk : k < n) (hg : g.method = m) (hs : g.stack = .int j :: .ref a :: rest) (hd : decode c.code g.pc = .ok (.baload, 1)) :
    ∀ t, Steps p.tables e below (T.setTop { g with pc := g.pc + 1, stack := .int (f k) :: rest }) t → Steps p.tables e below (T.setTop g) t := by
  obtain ⟨cl, A1, S, H, -⟩ := A
  obtain ⟨hin, e1⟩ := own_idx S hj hk
  exact X.baloadBytes hx (by rw [eT]; exact A1.1) (State.isArrayOf_alike hZ.alike A1.2.1) A1.2.2 hin (by rw [e1]; exact H k hk) hg hs hd
theorem own_rdZ {f : Nat → Int32} (X : Stand p l e R s m args below meth c T locs cells slots) (hx : p.tables.exec = Jvm.exec) (hZ : Z.Warmed39 s.vm) (eT : T.heap = h) (A : own_AI Z h a .boolean n f) (hj : j.toInt = (k : Int)) (hk : k < n) (hg : g.method = m) (hs : g.stack = .int j :: .ref a :: rest) (hd : decode c.code g.pc = .ok (.baload, 1)) :
    ∀ t, Steps p.tables e below (T.setTop { g with pc := g.pc + 1, stack := .int (f k) :: rest }) t → Steps p.tables e below (T.setTop g) t := by
  obtain ⟨cl, A1, S, H, -⟩ := A
  obtain ⟨hin, e1⟩ := own_idx S hj hk
  exact X.baloadBooleans hx (by rw [eT]; exact A1.1) (State.isArrayOf_alike hZ.alike A1.2.1) A1.2.2 hin (by rw [e1]; exact H k hk) hg hs hd
theorem own_rdC {f : Nat → Int32} (X : Stand p l e R s m args below meth c T locs cells slots) (hx : p.tables.exec = Jvm.exec) (hZ : Z.Warmed39 s.vm) (eT : T.heap = h) (A : own_AI Z h a .char n f) (hj : j.toInt = (k : Int)) (hk : k < n) (hg : g.method = m) (hs : g.stack = .int j :: .ref a :: rest) (hd : decode c.code g.pc = .ok (.caload, 1)) :
    ∀ t, Steps p.tables e below (T.setTop { g with pc := g.pc + 1, stack := .int (f k) :: rest }) t → Steps p.tables e below (T.setTop g) t := by
  obtain ⟨cl, A1, S, H, -⟩ := A
  obtain ⟨hin, e1⟩ := own_idx S hj hk
  exact X.caload hx (by rw [eT]; exact A1.1) (State.isArrayOf_alike hZ.alike A1.2.1) A1.2.2 hin (by rw [e1]; exact H k hk) hg hs hd
theorem own_wrC {f : Nat → Int32} {x : Int32} (X : Stand p l e R s m args below meth c T locs cells slots) (hx : p.tables.exec = Jvm.exec) (hZ : Z.Warmed39 s.vm) (eT : T.heap = h) (A : own_AI Z h a .char n f) (hj : j.toInt = (k : Int)) (hk : k < n) (hg : g.method = m) (hs : g.stack = .int x :: .int j :: .ref a :: rest) (hd : decode c.code g.pc = .ok (.castore, 1)) :
    ∃ T' h', Stand p l e R s m args below meth c T' (locs ++ [⟨a, k⟩]) cells slots ∧ T'.heap = h' ∧ Wr h h' a k (.int (nar .char x)) ∧ own_AI Z h' a .char n (own_upd f k (nar .char x)) ∧ ∀ t, Steps p.tables e below (T'.setTop { g with pc := g.pc + 1, stack := rest }) t → Steps p.tables e below (T.setTop g) t := by
  have A0 := A
  obtain ⟨cl, A1, S, H, -⟩ := A
  obtain ⟨hin, e1⟩ := own_idx S hj hk
  obtain ⟨T', h', X', e', W', st⟩ := stC X hx hZ eT A1 hin hg hs hd
  rw [e1] at X' W'
  exact ⟨T', h', X', e', W', A0.set hk (fits_nar_char x) W', st⟩
theorem own_rdL {f : Nat → Int64} (X : Stand p l e R s m args below meth c T locs cells slots) (hx : p.tables.exec = Jvm.exec) (hZ : Z.Warmed39 s.vm) (eT : T.heap = h) (A : own_AL Z h a n f) (hj : j.toInt = (k : Int)) (hk : k < n) (hg : g.method = m) (hs : g.stack = .int j :: .ref a :: rest) (hd : decode c.code g.pc = .ok (.laload, 1)) :
    ∀ t, Steps p.tables e below (T.setTop { g with pc := g.pc + 1, stack := .long (f k) :: rest }) t → Steps p.tables e below (T.setTop g) t := by
  obtain ⟨cl, A1, S, H, -⟩ := A
  obtain ⟨hin, e1⟩ := own_idx S hj hk
  exact X.laload hx (by rw [eT]; exact A1.1) (State.isArrayOf_alike hZ.alike A1.2.1) A1.2.2 hin (by rw [e1]; exact H k hk) hg hs hd
theorem own_rdR {f : Nat → Value} {ty : FieldType} (X : Stand p l e R s m args below meth c T locs cells slots) (hx : p.tables.exec = Jvm.exec) (hZ : Z.Warmed39 s.vm) (eT : T.heap = h) (A : own_AV Z h a ty n f) (ht : ty.isReference = true) (hj : j.toInt = (k : Int)) (hk : k < n) (hg : g.method = m) (hs : g.stack = .int j :: .ref a :: rest) (hd : decode c.code g.pc = .ok (.aaload, 1)) :
    ∀ t, Steps p.tables e below (T.setTop { g with pc := g.pc + 1, stack := f k :: rest }) t → Steps p.tables e below (T.setTop g) t := by
  obtain ⟨cl, A1, S, H, -⟩ := A
  obtain ⟨hin, e1⟩ := own_idx S hj hk
  exact X.aaload hx (by rw [eT]; exact A1.1) (State.isArrayOf_alike hZ.alike A1.2.1) ht A1.2.2 hin (by rw [e1]; exact H k hk) hg hs hd
theorem own_len {f : Nat → Value} {ty : FieldType} {z : Int32} (X : Stand p l e R s m args below meth c T locs cells slots) (hx : p.tables.exec = Jvm.exec) (hZ : Z.Warmed39 s.vm) (eT : T.heap = h) (A : own_AV Z h a ty n f) (hz : n.toInt32 = z) (hg : g.method = m) (hs : g.stack = .ref a :: rest) (hd : decode c.code g.pc = .ok (.arraylength, 1)) :
    ∀ t, Steps p.tables e below (T.setTop { g with pc := g.pc + 1, stack := .int z :: rest }) t → Steps p.tables e below (T.setTop g) t := by
  obtain ⟨cl, A1, S, -, -⟩ := A
  subst hz S
  exact X.arraylength hx (by rw [eT]; exact A1.1) (State.isArrayOf_alike hZ.alike A1.2.1) hg hs hd
theorem own_wrI {f : Nat → Int32} {x : Int32} (X : Stand p l e R s m args below meth c T locs cells slots) (hx : p.tables.exec = Jvm.exec) (hZ : Z.Warmed39 s.vm) (eT : T.heap = h) (A : own_AI Z h a .int n f) (hj : j.toInt = (k : Int)) (hk : k < n) (hg : g.method = m) (hs : g.stack = .int x :: .int j :: .ref a :: rest) (hd : decode c.code g.pc = .ok (.iastore, 1)) :
    ∃ T' h', Stand p l e R s m args below meth c T' (locs ++ [⟨a, k⟩]) cells slots ∧ T'.heap = h' ∧ Wr h h' a k (.int x) ∧ own_AI Z h' a .int n (own_upd f k x) ∧ ∀ t, Steps p.tables e below (T'.setTop { g with pc := g.pc + 1, stack := rest }) t → Steps p.tables e below (T.setTop g) t := by
  have A0 := A
  obtain ⟨cl, A1, S, H, -⟩ := A
  obtain ⟨hin, e1⟩ := own_idx S hj hk
  obtain ⟨T', h', X', e', W', st⟩ := stI X hx hZ eT A1 hin hg hs hd
  rw [e1] at X' W'
  exact ⟨T', h', X', e', W', A0.set hk rfl W', st⟩
theorem own_wrB {f : Nat → Int32} {x : Int32} (X : Stand p l e R s m args below meth c T locs cells slots) (hx : p.tables.exec = Jvm.exec) (hZ : Z.Warmed39 s.vm) (eT : T.heap = h) (A : own_AI Z h a .byte n f) (hj : j.toInt = (k : Int)) (hk : k < n) (hg : g.method = m) (hs : g.stack = .int x :: .int j :: .ref a :: rest) (hd : decode c.code g.pc = .ok (.bastore, 1)) :
    ∃ T' h', Stand p l e R s m args below meth c T' (locs ++ [⟨a, k⟩]) cells slots ∧ T'.heap = h' ∧ Wr h h' a k (.int (nar .byte x)) ∧ own_AI Z h' a .byte n (own_upd f k (nar .byte x)) ∧ ∀ t, Steps p.tables e below (T'.setTop { g with pc := g.pc + 1, stack := rest }) t → Steps p.tables e below (T.setTop g) t := by
  have A0 := A
  obtain ⟨cl, A1, S, H, -⟩ := A
  obtain ⟨hin, e1⟩ := own_idx S hj hk
  obtain ⟨T', h', X', e', W', st⟩ := stB X hx hZ eT A1 hin hg hs hd
  rw [e1] at X' W'
  exact ⟨T', h', X', e', W', A0.set hk (fits_nar_byte x) W', st⟩
theorem own_wrZ {f : Nat → Int32} {x : Int32} (X : Stand p l e R s m args below meth c T locs cells slots) (hx : p.tables.exec = Jvm.exec) (hZ : Z.Warmed39 s.vm) (eT : T.heap = h) (A : own_AI Z h a .boolean n f) (hj : j.toInt = (k : Int)) (hk : k < n) (hg : g.method = m) (hs : g.stack = .int x :: .int j :: .ref a :: rest) (hd : decode c.code g.pc = .ok (.bastore, 1)) :
    ∃ T' h', Stand p l e R s m args below meth c T' (locs ++ [⟨a, k⟩]) cells slots ∧ T'.heap = h' ∧ Wr h h' a k (.int (nar .boolean x)) ∧ own_AI Z h' a .boolean n (own_upd f k (nar .boolean x)) ∧ ∀ t, Steps p.tables e below (T'.setTop { g with pc := g.pc + 1, stack := rest }) t → Steps p.tables e below (T.setTop g) t := by
  have A0 := A
  obtain ⟨cl, A1, S, H, -⟩ := A
  obtain ⟨hin, e1⟩ := own_idx S hj hk
  obtain ⟨T', h', X', e', W', st⟩ := stZ X hx hZ eT A1 hin hg hs hd
  rw [e1] at X' W'
  exact ⟨T', h', X', e', W', A0.set hk (fits_nar_bool x) W', st⟩
theorem own_wrL {f : Nat → Int64} {x : Int64} (X : Stand p l e R s m args below meth c T locs cells slots) (hx : p.tables.exec = Jvm.exec) (hZ : Z.Warmed39 s.vm) (eT : T.heap = h) (A : own_AL Z h a n f) (hj : j.toInt = (k : Int)) (hk : k < n) (hg : g.method = m) (hs : g.stack = .long x :: .int j :: .ref a :: rest) (hd : decode c.code g.pc = .ok (.lastore, 1)) :
    ∃ T' h', Stand p l e R s m args below meth c T' (locs ++ [⟨a, k⟩]) cells slots ∧ T'.heap = h' ∧ Wr h h' a k (.long x) ∧ own_AL Z h' a n (own_updL f k x) ∧ ∀ t, Steps p.tables e below (T'.setTop { g with pc := g.pc + 1, stack := rest }) t → Steps p.tables e below (T.setTop g) t := by
  have A0 := A
  obtain ⟨cl, A1, S, H, -⟩ := A
  obtain ⟨hin, e1⟩ := own_idx S hj hk
  obtain ⟨T', h', X', e', W', st⟩ := stJ X hx hZ eT A1 hin hg hs hd
  rw [e1] at X' W'
  exact ⟨T', h', X', e', W', (own_AV.set A0 hk rfl W').congr fun i _ => by by_cases q : i = k <;> simp [own_updV, own_updL, q], st⟩
theorem own_wrR {f : Nat → Value} {ty : FieldType} {v : Value} (X : Stand p l e R s m args below meth c T locs cells slots) (hx : p.tables.exec = Jvm.exec) (hZ : Z.Warmed39 s.vm) (eT : T.heap = h) (A : own_AV Z h a ty n f) (ht : ty.isReference = true) (hv : fits ty v = true) (F : Sto Z h a v) (hj : j.toInt = (k : Int)) (hk : k < n) (hg : g.method = m) (hs : g.stack = v :: .int j :: .ref a :: rest) (hd : decode c.code g.pc = .ok (.aastore, 1)) :
    ∃ T' h', Stand p l e R s m args below meth c T' (locs ++ [⟨a, k⟩]) cells slots ∧ T'.heap = h' ∧ Wr h h' a k v ∧ own_AV Z h' a ty n (own_updV f k v) ∧ ∀ t, Steps p.tables e below (T'.setTop { g with pc := g.pc + 1, stack := rest }) t → Steps p.tables e below (T.setTop g) t := by
  have A0 := A
  obtain ⟨cl, A1, S, H, -⟩ := A
  obtain ⟨hin, e1⟩ := own_idx S hj hk
  obtain ⟨T', h', X', e', W', st⟩ := stR X hx hZ eT A1 hin ht F hg hs hd
  rw [e1] at X' W'
  exact ⟨T', h', X', e', W', A0.set hk hv W', st⟩
/-- newarray: the fresh array at a = the heap's old size -/
theorem own_newP {aty : ArrayType} {z : Int32} (X : Stand p l e R s m args below meth c T locs cells slots) (hx : p.tables.exec = Jvm.exec) (hZ : Z.Warmed39 s.vm) (w : (Jvm.Cond.arrayClass (newarray.typeOf aty)).before a0 Z = true) (eT : T.heap = h) (hz : z.toInt = (n : Int)) (hf : fits (newarray.typeOf aty) (defaultValue (newarray.typeOf aty)) = true) (hg : g.method = m) (hs : g.stack = .int z :: rest) (hd : decode c.code g.pc = .ok (.newarray aty, 2)) {cap : Nat} (hcap : n ≤ cap) (hb : cap * 8 ≤ 536870912) (hc : cells + 1 ≤ R.cells) (hl : slots + cap ≤ R.slots) :
    ∃ T' h' a, a = h.size ∧ Stand p l e R s m args below meth c T' locs (cells + 1) (slots + cap) ∧ T'.heap = h' ∧ Ext h h' ∧ own_AV Z h' a (newarray.typeOf aty) n (fun _ => defaultValue (newarray.typeOf aty)) ∧ ∀ t, Steps p.tables e below (T'.setTop { g with pc := g.pc + 2, stack := .ref a :: rest }) t → Steps p.tables e below (T.setTop g) t := by
  have e0 : (0 : Int32).toInt = 0 := by decide
  have e1 : z.toNatClampNeg = n := by show z.toInt.toNat = n; rw [hz]; rfl
  have hn : ¬ z < 0 := by rw [Int32.lt_iff_toInt_lt, e0, hz]; omega
  obtain ⟨T', h', cA, X', e', E', A', st⟩ := newP X hx hZ w eT hg hd hs hn (by rw [e1]; exact hcap) hb hc hl
  exact ⟨T', h', _, rfl, X', e', E', own_AV.new A' e1 hf, st⟩
/-- newarray: the fresh array, its class besides -/
theorem own_newPE {aty : ArrayType} {z : Int32} (X : Stand p l e R s m args below meth c T locs cells slots) (hx : p.tables.exec = Jvm.exec) (hZ : Z.Warmed39 s.vm) (w : (Jvm.Cond.arrayClass (newarray.typeOf aty)).before a0 Z = true) (eT : T.heap = h) (hz : z.toInt = (n : Int)) (hf : fits (newarray.typeOf aty) (defaultValue (newarray.typeOf aty)) = true) (hg : g.method = m) (hs : g.stack = .int z :: rest) (hd : decode c.code g.pc = .ok (.newarray aty, 2)) {cap : Nat} (hcap : n ≤ cap) (hb : cap * 8 ≤ 536870912) (hc : cells + 1 ≤ R.cells) (hl : slots + cap ≤ R.slots) {ad : String} (had : "[" ++ (newarray.typeOf aty).toString = ad) :
    ∃ T' h' a, a = h.size ∧ Stand p l e R s m args below meth c T' locs (cells + 1) (slots + cap) ∧ T'.heap = h' ∧ Ext h h' ∧ own_AV Z h' a (newarray.typeOf aty) n (fun _ => defaultValue (newarray.typeOf aty)) ∧ Exa Z h' a ad ∧ ∀ t, Steps p.tables e below (T'.setTop { g with pc := g.pc + 2, stack := .ref a :: rest }) t → Steps p.tables e below (T.setTop g) t := by
  have e0 : (0 : Int32).toInt = 0 := by decide
  have e1 : z.toNatClampNeg = n := by show z.toInt.toNat = n; rw [hz]; rfl
  have hn : ¬ z < 0 := by rw [Int32.lt_iff_toInt_lt, e0, hz]; omega
  obtain ⟨T', h', cA, X', e', E', A', E2, st⟩ := newPE X hx hZ w eT hg hd hs hn (by rw [e1]; exact hcap) hb hc hl had
  exact ⟨T', h', _, rfl, X', e', E', own_AV.new A' e1 hf, E2, st⟩
/-- anewarray: the fresh array of references, all null; what may lie in it -/
theorem own_newR {C : String} {z : Int32} {own : String} {index : Nat} (X : Stand p l e R s m args below meth c T locs cells slots) (hx : p.tables.exec = Jvm.exec) (hZ : Z.Warmed39 s.vm) (hown : s.vm.findClass own = some m.cls) (w1 : (Jvm.Cond.classLink own index C).before a0 Z = true) (w2 : (Jvm.Cond.arrayOver (.object C)).before a0 Z = true) (eT : T.heap = h) (hz : z.toInt = (n : Int)) (hg : g.method = m) (hs : g.stack = .int z :: rest) (hd : decode c.code g.pc = .ok (.anewarray index, 3)) {cap : Nat} (hcap : n ≤ cap) (hb : cap * 8 ≤ 536870912) (hc : cells + 1 ≤ R.cells) (hl : slots + cap ≤ R.slots) :
    ∃ T' h' a, a = h.size ∧ Stand p l e R s m args below meth c T' locs (cells + 1) (slots + cap) ∧ T'.heap = h' ∧ Ext h h' ∧ own_AV Z h' a (.object C) n (fun _ => .null) ∧ (∃ cl : Cell, h'[a]? = some cl ∧ Ovr Z cl.cls C) ∧ ∀ t, Steps p.tables e below (T'.setTop { g with pc := g.pc + 3, stack := .ref a :: rest }) t → Steps p.tables e below (T.setTop g) t := by
  have e0 : (0 : Int32).toInt = 0 := by decide
  have e1 : z.toNatClampNeg = n := by show z.toInt.toNat = n; rw [hz]; rfl
  have hn : ¬ z < 0 := by rw [Int32.lt_iff_toInt_lt, e0, hz]; omega
  obtain ⟨T', h', cA, X', e', E', A', O', st⟩ := newR X hx hZ hown w1 w2 eT hg hd hs hn (by rw [e1]; exact hcap) hb hc hl
  exact ⟨T', h', _, rfl, X', e', E', own_AV.new A' e1 rfl, ⟨_, A'.1, O'⟩, st⟩
/-- the array over class C at a takes an object of C -/
def own_Ov (Z : State) (h : Heap) (a : Addr) (C : String) : Prop := ∃ cl : Cell, h[a]? = some cl ∧ Ovr Z cl.cls C
theorem own_Ov.keep {a : Addr} {C : String} {ws : List Addr} (O : own_Ov Z h a C) (K : Keep h h' ws) : own_Ov Z h' a C := by
  obtain ⟨cl, h1, h2⟩ := O
  obtain ⟨c', q1, q2, -, -⟩ := K.2.2 a cl h1
  exact ⟨c', q1, by rw [q2]; exact h2⟩
theorem own_Ov.sto {a y : Addr} {C : String} {ty : FieldType} {f : Nat → Value} (O : own_Ov Z h a C) (A : own_AV Z h a ty n f) (I : Ins Z h y C true) : Sto Z h a (.ref y) := by
  obtain ⟨cl, h1, h2⟩ := O
  obtain ⟨c2, A2, -⟩ := A
  cases h1.symm.trans A2.1
  exact Sto.of A2 h2 I
/-- clone() of an array -/
theorem own_clone {own ad : String} {index : Nat} {ty : FieldType} {f : Nat → Value} (X : Stand p l e R s m args below meth c T locs cells slots) (hx : p.tables.exec = Jvm.exec) (hZ : Z.Warmed39 s.vm) (hown : s.vm.findClass own = some m.cls)
    (w1 : (Jvm.Cond.methodLink own index ⟨ad, "clone", "()Ljava/lang/Object;"⟩).before a0 Z = true) (w2 : (Jvm.Cond.sameMethod ad "java/lang/Object" "clone" "()Ljava/lang/Object;").before a0 Z = true) (w3 : (Jvm.Cond.native ⟨"java/lang/Object", "clone", "()Ljava/lang/Object;"⟩).before a0 Z = true)
    (w4 : (Jvm.Cond.instanceMethod ⟨"java/lang/Object", "clone", "()Ljava/lang/Object;"⟩).before a0 Z = true) (w5 : (Jvm.Cond.selects ad ⟨ad, "clone", "()Ljava/lang/Object;"⟩ ⟨"java/lang/Object", "clone", "()Ljava/lang/Object;"⟩).before a0 Z = true) (w6 : (Jvm.Cond.castable ad "java/lang/Cloneable").before a0 Z = true)
    (eT : T.heap = h) (A : own_AV Z h a ty n f) (E : Exa Z h a ad) (hg : g.method = m) (hsize : g.locals.size = c.maxLocals) (hs : g.stack = .ref a :: rest) (hd : decode c.code g.pc = .ok (.invokevirtual index, 3))
    (hf : 1 ≤ R.frames) {W : Nat} (hW : 2 * g.monitorRoom + (rest.map fun v => v.category).sum ≤ W) (hl : W + 14 ≤ R.locals) (hc : cells + 1 ≤ R.cells) (hsl : slots + n ≤ R.slots) :
    ∃ T' h' b, b = h.size ∧ Stand p l e R s m args below meth c T' locs (cells + 1) (slots + n) ∧ T'.heap = h' ∧ Ext h h' ∧ own_AV Z h' b ty n f ∧ Exa Z h' b ad ∧ ∀ t, Steps p.tables e below (T'.setTop { g with pc := g.pc + 3, stack := .ref b :: rest }) t → Steps p.tables e below (T.setTop g) t := by
  obtain ⟨cl, A1, S, H, G⟩ := A
  have F : FitC Z cl := fitC_of A1 fun i hi v hv => by
    rw [S] at hi
    rw [H i hi] at hv
    cases hv
    exact G i hi
  obtain ⟨T', h', X', e', E', A', E2, st⟩ := cloneA X hx hZ hown w1 w2 w3 w4 w5 w6 eT A1 E F hg hsize hs hd hf hW hl (Nat.le_of_eq S) hc hsl
  exact ⟨T', h', _, rfl, X', e', E', ⟨_, A', S, H, G⟩, E2, st⟩
end Rd
end Own
end Jvm.RoadKit
namespace Jvm.Pilot.@@N@@
open Jvm Jvm.ClassFile Sem Op Lib Jvm.Free Jvm.Stand Jvm.LawKit Jvm.RoadKit Bundle Jvm.Pilot.@@N@@.Jvm.D
theorem own_d1_0 : decode prog_14_method_3_code 0 = .ok (.iload_n 0, 1) := by decide +kernel
theorem own_d1_1 : decode prog_14_method_3_code 1 = .ok (.bipush 48, 2) := by decide +kernel
theorem own_d1_3 : decode prog_14_method_3_code 3 = .ok (.if_icmp .lt 16, 3) := by decide +kernel
theorem own_d1_6 : decode prog_14_method_3_code 6 = .ok (.iload_n 0, 1) := by decide +kernel
theorem own_d1_7 : decode prog_14_method_3_code 7 = .ok (.bipush 56, 2) := by decide +kernel
theorem own_d1_9 : decode prog_14_method_3_code 9 = .ok (.if_icmp .ge 10, 3) := by decide +kernel
theorem own_d1_12 : decode prog_14_method_3_code 12 = .ok (.iload_n 0, 1) := by decide +kernel
theorem own_d1_13 : decode prog_14_method_3_code 13 = .ok (.bipush 48, 2) := by decide +kernel
theorem own_d1_15 : decode prog_14_method_3_code 15 = .ok (.isub, 1) := by decide +kernel
theorem own_d1_16 : decode prog_14_method_3_code 16 = .ok (.goto 4, 3) := by decide +kernel
theorem own_d1_19 : decode prog_14_method_3_code 19 = .ok (.iconst (-1), 1) := by decide +kernel
theorem own_d1_20 : decode prog_14_method_3_code 20 = .ok (.ireturn, 1) := by decide +kernel
def own_num (d : Int32) : Int32 := (if d < (48 : Int32) then (-1 : Int32) else (if d < (56 : Int32) then (d - (48 : Int32)) else (-1 : Int32)))
theorem own_pn0 : plainName "com/example/cytowire/cytowire/astm/Frame" = true := by first | (simp [plainName, overriddenIn]; done) | decide +kernel
theorem own_efnum (m : MethodId) (d : Int32) : entryFrame m #[(.int d)] 1 = mkF m 0 #[iv d] [] := by first | (simp [entryFrame, mkF, argsToLocals, Value.category]; done) | rfl
set_option maxRecDepth 65536 in
set_option maxHeartbeats 40000000 in
theorem own_rmnum (l : Launch) (Z : State) (a0 : Array Value) (hw : ∀ d ∈ tables_1, d.before a0 Z = true) (d : Int32) (h0 : Heap) (n0 : Nat) (Z0 : n0 ≤ h0.size) :
    own_Ct l Z (⟨"com/example/cytowire/cytowire/astm/Frame", "number", "(I)I"⟩ : MethodName) prog_14_method_3_code 1 (some .int) ({ frames := 0, cells := 0, slots := 0, locals := 0 } : Room) #[(.int d)] h0 (fun v h L => v = some (.int (own_num d)) ∧ Fr n0 L ∧ h = h0) := by
  refine own_body (y := (⟨"com/example/cytowire/cytowire/astm/Frame", "number", "(I)I"⟩ : MethodName)) (Q := fun v h L => v = some (.int (own_num d)) ∧ Fr n0 L ∧ h = h0) (plainFor_of_name own_pn0) ?_
  intro p e s m below meth c s₁ Bd hml0 hZ e0
  have hx := Bd.exec
  have hby := Bd.bytes
  have hml : c.maxLocals = 1 := hml0
  have hown : s.vm.findClass "com/example/cytowire/cytowire/astm/Frame" = some m.cls := findClass_of_methodNamed Bd.named
  have hnm := (name_of_methodNamed Bd.named Bd.method).1
  have X0 : Stand p l e ({ frames := 0, cells := 0, slots := 0, locals := 0 } : Room) s m #[(.int d)] below meth c s₁ [] 0 0 := Stand.of_body Bd
  have N0 := Fr.nil n0
  rw [own_efnum]
  obtain ⟨r, hr⟩ : ∃ z : Int32, z = (if d < (48 : Int32) then (-1 : Int32) else (if d < (56 : Int32) then (d - (48 : Int32)) else (-1 : Int32))) := ⟨_, rfl⟩
  have sg3 : own_V p e below s₁ (mkF m 20 #[iv d] [(.int r)]) (mkF m 0 #[iv d] []) := by
    intro t kt
    refine XS.iloadN X0.here hx rfl (hb hby own_d1_0) rfl ?_
    show own_S p e below s₁ m 1 #[iv d] [(.int d)] _
    refine XS.bipush X0.here hx rfl (hb hby own_d1_1) ?_
    show own_S p e below s₁ m 3 #[iv d] [(.int (48 : Int32)), (.int d)] _
    by_cases hc1 : d < (48 : Int32)
    · refine XS.icmpYes X0.here hx rfl (pc0 := 3) (pc' := 19) rfl (hb hby own_d1_3) rfl (tlt hc1).1 (by decide) (by decide) ?_
      show own_S p e below s₁ m 19 #[iv d] [] _
      refine XS.iconst X0.here hx rfl (hb hby own_d1_19) ?_
      show own_S p e below s₁ m 20 #[iv d] [(.int (-1 : Int32))] _
      rw [show r = (-1 : Int32) from by rw [hr, if_pos hc1]] at kt
      exact kt
    · refine XS.icmpNo X0.here hx rfl (hb hby own_d1_3) rfl (flt hc1).1 ?_
      show own_S p e below s₁ m 6 #[iv d] [] _
      refine XS.iloadN X0.here hx rfl (hb hby own_d1_6) rfl ?_
      show own_S p e below s₁ m 7 #[iv d] [(.int d)] _
      refine XS.bipush X0.here hx rfl (hb hby own_d1_7) ?_
      show own_S p e below s₁ m 9 #[iv d] [(.int (56 : Int32)), (.int d)] _
      by_cases hc2 : d < (56 : Int32)
      · refine XS.icmpNo X0.here hx rfl (hb hby own_d1_9) rfl (tlt hc2).2.1 ?_
        show own_S p e below s₁ m 12 #[iv d] [] _
        refine XS.iloadN X0.here hx rfl (hb hby own_d1_12) rfl ?_
        show own_S p e below s₁ m 13 #[iv d] [(.int d)] _
        refine XS.bipush X0.here hx rfl (hb hby own_d1_13) ?_
        show own_S p e below s₁ m 15 #[iv d] [(.int (48 : Int32)), (.int d)] _
        refine XS.isub X0.here hx rfl (hb hby own_d1_15) rfl ?_
        show own_S p e below s₁ m 16 #[iv d] [(.int (d - (48 : Int32)))] _
        refine XS.goto X0.here hx rfl (pc0 := 16) (pc' := 20) rfl (hb hby own_d1_16) (by decide) (by decide) ?_
        show own_S p e below s₁ m 20 #[iv d] [(.int (d - (48 : Int32)))] _
        rw [show r = (d - (48 : Int32)) from by rw [hr, if_neg hc1, if_pos hc2]] at kt
        exact kt
      · refine XS.icmpYes X0.here hx rfl (pc0 := 9) (pc' := 19) rfl (hb hby own_d1_9) rfl (flt hc2).2.1 (by decide) (by decide) ?_
        show own_S p e below s₁ m 19 #[iv d] [] _
        refine XS.iconst X0.here hx rfl (hb hby own_d1_19) ?_
        show own_S p e below s₁ m 20 #[iv d] [(.int (-1 : Int32))] _
        rw [show r = (-1 : Int32) from by rw [hr, if_neg hc1, if_neg hc2]] at kt
        exact kt
  refine own_st sg3 ?_
  exact own_retI X0 hx Bd.notSynchronized Bd.returns (hb hby own_d1_20) (by decide) (by decide) e0 ⟨by rw [hr]; rfl, N0, rfl⟩
theorem own_pd0 : parseMethodDescriptor "(I)I" = some ⟨[.int], some .int⟩ := by decide +kernel
theorem own_natand (X : Nat) (h : X < 4294967296) : X &&& 4294967288 = 0 ↔ X < 8 := by
  have h1 : (X &&& 4294967288) / 2 ^ 3 = X / 2 ^ 3 &&& 4294967288 / 2 ^ 3 := Nat.and_div_two_pow
  have h2 : X / 8 &&& 536870911 = X / 8 := by
    have := Nat.and_two_pow_sub_one_eq_mod (X / 8) 29
    rw [show (536870911 : Nat) = 2 ^ 29 - 1 from by decide, this]
    exact Nat.mod_eq_of_lt (by omega)
  have h3 : ∀ y : Fin 8, y.1 &&& 4294967288 = 0 := by decide
  have h1' : (X &&& 4294967288) / 8 = X / 8 := by
    have : X / 2 ^ 3 &&& 4294967288 / 2 ^ 3 = X / 8 &&& 536870911 := rfl
    rw [this, h2] at h1; exact h1
  constructor
  · intro q; rw [q] at h1'; omega
  · intro q; exact h3 ⟨X, q⟩
theorem own_andm8 (x : Int32) : (x &&& (-8 : Int32)) = 0 ↔ (0 ≤ x.toInt ∧ x.toInt < 8) := by
  have hX := x.toBitVec.isLt
  have e1 : x.toInt = if 2 * x.toBitVec.toNat < 2 ^ 32 then (x.toBitVec.toNat : Int) else (x.toBitVec.toNat : Int) - (2 ^ 32 : Nat) := BitVec.toInt_eq_toNat_cond x.toBitVec
  have e2 : (x &&& (-8 : Int32)).toBitVec.toNat = x.toBitVec.toNat &&& 4294967288 := rfl
  have e3 : (x &&& (-8 : Int32)) = 0 ↔ x.toBitVec.toNat &&& 4294967288 = 0 := by
    rw [← e2]
    constructor
    · intro q; rw [q]; rfl
    · intro q; exact Int32.toBitVec_inj.mp (BitVec.eq_of_toNat_eq q)
  rw [e3, own_natand _ hX, e1]
  split <;> omega
theorem own_eqI {x y : Int32} (h : x.toInt = y.toInt) : x = y := Int32.toInt_inj.mp h
theorem own_numin (d : Int32) (h1 : 48 ≤ d.toInt) (h2 : d.toInt < 56) : own_num d = d - 48 ∧ (own_num d).toInt = d.toInt - 48 := by
  have e48 : (48 : Int32).toInt = 48 := by decide
  have e56 : (56 : Int32).toInt = 56 := by decide
  have q1 : ¬ d < 48 := by rw [Int32.lt_iff_toInt_lt, e48]; omega
  have q2 : d < 56 := by rw [Int32.lt_iff_toInt_lt, e56]; omega
  have q3 : own_num d = d - 48 := by unfold own_num; rw [if_neg q1, if_pos q2]
  have c1 := c_isub d 48
  have r1 := rng32 (d - 48)
  rw [e48] at c1
  exact ⟨q3, by rw [q3]; omega⟩
theorem own_numout (d : Int32) (h : d.toInt < 48 ∨ 56 ≤ d.toInt) : own_num d = -1 := by
  have e48 : (48 : Int32).toInt = 48 := by decide
  have e56 : (56 : Int32).toInt = 56 := by decide
  unfold own_num
  by_cases q1 : d < 48
  · rw [if_pos q1]
  · have q2 : ¬ d < 56 := by
      rw [Int32.lt_iff_toInt_lt, e48] at q1
      rw [Int32.lt_iff_toInt_lt, e56]; omega
    rw [if_neg q1, if_neg q2]
theorem own_plain (d n : Int32) (r1 : Int32) (hr1 : r1 = (own_num d)) (b1 : Int32) (hb1 : b1 = (if ((d - (48 : Int32)) &&& (-8 : Int32)) = (0 : Int32) then (1 : Int32) else (0 : Int32))) (b2 : Int32) (hb2 : b2 = (if b1 = (0 : Int32) then (if r1 = (-1 : Int32) then (1 : Int32) else (0 : Int32)) else (if r1 < (0 : Int32) then (0 : Int32) else (if (7 : Int32) < r1 then (0 : Int32) else (if ((48 : Int32) + r1) = d then (1 : Int32) else (0 : Int32)))))) (k : Int32) (hk : k = (n &&& (7 : Int32))) (k48 : Int32) (hk48 : k48 = ((48 : Int32) + (n &&& (7 : Int32)))) (b3 : Int32) (hb3 : b3 = (if (own_num k48) = k then (1 : Int32) else (0 : Int32))) (bb : Int32) (hbb : bb = ((44 : Int32) + (((n.toUInt32 >>> ((3 : Int32) &&& 31).toUInt32).toInt32) &&& (15 : Int32)))) (r3 : Int32) (hr3 : r3 = (own_num bb)) (b4 : Int32) (hb4 : b4 = (if bb < (48 : Int32) then (if (own_num bb) = (-1 : Int32) then (1 : Int32) else (0 : Int32)) else (if (55 : Int32) < bb then (if (own_num bb) = (-1 : Int32) then (1 : Int32) else (0 : Int32)) else (if (own_num bb) = (bb - (48 : Int32)) then (1 : Int32) else (0 : Int32))))) (r : Int32) (hr : r = (if b2 = (0 : Int32) then (0 : Int32) else (if b3 = (0 : Int32) then (0 : Int32) else (if b4 = (0 : Int32) then (0 : Int32) else (1 : Int32))))) : r = 1 := by
  have e48 : (48 : Int32).toInt = 48 := by decide
  have e44 : (44 : Int32).toInt = 44 := by decide
  have e55 : (55 : Int32).toInt = 55 := by decide
  have e7 : (7 : Int32).toInt = 7 := by decide
  have e0 : (0 : Int32).toInt = 0 := by decide
  have rd := rng32 d
  have c1 := c_isub d 48
  have rd1 := rng32 (d - 48)
  rw [e48] at c1
  have t2 : b2 = 1 := by
    by_cases q : 48 ≤ d.toInt ∧ d.toInt < 56
    · obtain ⟨n1, n2⟩ := own_numin d q.1 q.2
      have u1 : b1 = 1 := by rw [hb1, if_pos ((own_andm8 _).mpr (by omega))]
      have u2 : r1.toInt = d.toInt - 48 := by rw [hr1]; exact n2
      have u3 : ¬ r1 < 0 := by rw [Int32.lt_iff_toInt_lt, e0]; omega
      have u4 : ¬ (7 : Int32) < r1 := by rw [Int32.lt_iff_toInt_lt, e7]; omega
      have c2 := c_iadd 48 r1
      have r2 := rng32 ((48 : Int32) + r1)
      rw [e48] at c2
      have u5 : ((48 : Int32) + r1) = d := own_eqI (by omega)
      rw [hb2, u1, if_neg (by decide), if_neg u3, if_neg u4, if_pos u5]
    · have n1 := own_numout d (by omega)
      have u1 : b1 = 0 := by
        rw [hb1, if_neg]
        intro z
        have := (own_andm8 _).mp z
        omega
      rw [hb2, u1, if_pos rfl, if_pos (hr1.trans n1)]
  have m7 : (n &&& (7 : Int32)).toInt = n.toInt % ((2 ^ 3 : Nat) : Int) := c_mask n 7 3 (by decide) (by decide)
  have t3 : b3 = 1 := by
    rw [← hk] at hk48
    have c2 := c_iadd 48 k
    have r2 := rng32 ((48 : Int32) + k)
    rw [e48, ← hk48] at c2
    rw [← hk48] at r2
    rw [← hk] at m7
    have m8 : k.toInt = n.toInt % 8 := m7
    obtain ⟨n1, n2⟩ := own_numin k48 (by omega) (by omega)
    have u5 : own_num k48 = k := own_eqI (by omega)
    rw [hb3, if_pos u5]
  have t4 : b4 = 1 := by
    have c2 := c_iadd 44 (((n.toUInt32 >>> ((3 : Int32) &&& 31).toUInt32).toInt32) &&& (15 : Int32))
    have r2 := rng32 ((44 : Int32) + (((n.toUInt32 >>> ((3 : Int32) &&& 31).toUInt32).toInt32) &&& (15 : Int32)))
    have m15 : (((n.toUInt32 >>> ((3 : Int32) &&& 31).toUInt32).toInt32) &&& (15 : Int32)).toInt = (((n.toUInt32 >>> ((3 : Int32) &&& 31).toUInt32).toInt32)).toInt % ((2 ^ 4 : Nat) : Int) := c_mask _ 15 4 (by decide) (by decide)
    rw [e44, ← hbb] at c2
    rw [← hbb] at r2
    generalize ((n.toUInt32 >>> ((3 : Int32) &&& 31).toUInt32).toInt32) = nn at c2 r2 m15
    have m16 : (nn &&& (15 : Int32)).toInt = nn.toInt % 16 := m15
    by_cases q1 : bb < 48
    · rw [hb4, if_pos q1]
      rw [Int32.lt_iff_toInt_lt, e48] at q1
      rw [if_pos (own_numout bb (by omega))]
    · by_cases q2 : (55 : Int32) < bb
      · rw [hb4, if_neg q1, if_pos q2]
        rw [Int32.lt_iff_toInt_lt, e55] at q2
        rw [if_pos (own_numout bb (by omega))]
      · rw [hb4, if_neg q1, if_neg q2]
        rw [Int32.lt_iff_toInt_lt, e48] at q1
        rw [Int32.lt_iff_toInt_lt, e55] at q2
        rw [if_pos (own_numin bb (by omega) (by omega)).1]
  rw [hr, t2, t3, t4]
  decide
theorem own_pn1 : plainName "com/example/cytowire/cytowire/astm/FrameNumberPinLaw" = true := by first | (simp [plainName, overriddenIn]; done) | decide +kernel
theorem own_eflaw (m : MethodId) (d : Int32) (n : Int32) : entryFrame m #[(.int d), (.int n)] maxLocals = mkF m 0 #[iv d, iv n, .unset, .unset, .unset, .unset, .unset, .unset, .unset, .unset] [] := by first | (simp [entryFrame, mkF, argsToLocals, Value.category, maxLocals]; done) | rfl
set_option maxRecDepth 65536 in
set_option maxHeartbeats 40000000 in
theorem own_rmlaw (l : Launch) (Z : State) (a0 : Array Value) (hw : ∀ d ∈ tables_1, d.before a0 Z = true) (d : Int32) (n : Int32) (h0 : Heap) (n0 : Nat) (Z0 : n0 ≤ h0.size) :
    MetFree l x (head1 (Jvm.Cond.code x code maxLocals ret :: tables_1) room_1) (fun a U => a = #[(.int d), (.int n)] ∧ Z.Warmed39 U.vm ∧ U.heap = h0) (fun _ _ _ _ _ => True) (fun _ U o U' => ∃ v L, o = .returned v ∧ (fun v h L => v = some (.int 1) ∧ Fr n0 L) v U'.heap L ∧ FrameEnd U o U' L 0 0) := by
  refine own_body (y := x) (Q := fun v h L => v = some (.int 1) ∧ Fr n0 L) (plainFor_of_name own_pn1) ?_
  intro p e s m below meth c s₁ Bd hml0 hZ e0
  have hx := Bd.exec
  have hby := Bd.bytes
  have hml : c.maxLocals = 10 := hml0
  have hown : s.vm.findClass "com/example/cytowire/cytowire/astm/FrameNumberPinLaw" = some m.cls := findClass_of_methodNamed Bd.named
  have hnm := (name_of_methodNamed Bd.named Bd.method).1
  have X0 : Stand p l e room_1 s m #[(.int d), (.int n)] below meth c s₁ [] 0 0 := Stand.of_body Bd
  have N0 := Fr.nil n0
  rw [own_eflaw]
  have sg1 : own_V p e below s₁ (mkF m 1 #[iv d, iv n, .unset, .unset, .unset, .unset, .unset, .unset, .unset, .unset] [(.int d)]) (mkF m 0 #[iv d, iv n, .unset, .unset, .unset, .unset, .unset, .unset, .unset, .unset] []) := by
    intro t kt
    refine XS.iloadN X0.here hx rfl (hb hby at_0) rfl ?_
    show own_S p e below s₁ m 1 #[iv d, iv n, .unset, .unset, .unset, .unset, .unset, .unset, .unset, .unset] [(.int d)] _
    exact kt
  refine own_st sg1 ?_
  obtain ⟨_, T2, L2, X2, hQ2, st2⟩ := own_callS (y := (⟨"com/example/cytowire/cytowire/astm/Frame", "number", "(I)I"⟩ : MethodName)) X0 hx hZ hown (hw _ (List.mem_of_getElem? (i := 0) rfl)) (hw _ (List.mem_of_getElem? (i := 1) rfl)) (hw _ (List.mem_of_getElem? (i := 2) rfl)) (hw _ (List.mem_of_getElem? (i := 3) rfl)) (by decide) (own_rmnum l Z a0 hw d h0 n0 Z0) e0 (g := (mkF m 1 #[iv d, iv n, .unset, .unset, .unset, .unset, .unset, .unset, .unset, .unset] [(.int d)])) rfl (by rw [hml]; rfl) (argsL := [(.int d)]) (rest := []) (lenOf own_pd0 rfl) rfl (W := 0) (by show 2 * 0 + _ ≤ _; exact Nat.le_of_eq rfl) (hb hby at_1) (by decide) (by decide) (by decide) (by decide)
  obtain ⟨rfl, Nq2, e2⟩ := hQ2
  refine own_st st2 ?_
  have N2 := Fr.app N0 Nq2
  show own_Go p e below _ T2 (mkF m 4 #[iv d, iv n, .unset, .unset, .unset, .unset, .unset, .unset, .unset, .unset] [(.int (own_num d))])
  obtain ⟨r1, hr1⟩ : ∃ z : Int32, z = (own_num d) := ⟨_, rfl⟩
  obtain ⟨b1, hb1⟩ : ∃ z : Int32, z = (if ((d - (48 : Int32)) &&& (-8 : Int32)) = (0 : Int32) then (1 : Int32) else (0 : Int32)) := ⟨_, rfl⟩
  have sg4 : own_V p e below T2 (mkF m 20 #[iv d, iv n, iv r1, .unset, .unset, .unset, .unset, .unset, .unset, .unset] [(.int b1)]) (mkF m 4 #[iv d, iv n, .unset, .unset, .unset, .unset, .unset, .unset, .unset, .unset] [(.int (own_num d))]) := by
    intro t kt
    refine XS.istoreN X2.here hx rfl (hb hby at_4) rfl (l' := #[iv d, iv n, iv (own_num d), .unset, .unset, .unset, .unset, .unset, .unset, .unset]) rfl ?_
    show own_S p e below T2 m 5 #[iv d, iv n, iv (own_num d), .unset, .unset, .unset, .unset, .unset, .unset, .unset] [] _
    refine XS.iloadN X2.here hx rfl (hb hby at_5) rfl ?_
    show own_S p e below T2 m 6 #[iv d, iv n, iv (own_num d), .unset, .unset, .unset, .unset, .unset, .unset, .unset] [(.int d)] _
    refine XS.bipush X2.here hx rfl (hb hby at_6) ?_
    show own_S p e below T2 m 8 #[iv d, iv n, iv (own_num d), .unset, .unset, .unset, .unset, .unset, .unset, .unset] [(.int (48 : Int32)), (.int d)] _
    refine XS.isub X2.here hx rfl (hb hby at_8) rfl ?_
    show own_S p e below T2 m 9 #[iv d, iv n, iv (own_num d), .unset, .unset, .unset, .unset, .unset, .unset, .unset] [(.int (d - (48 : Int32)))] _
    refine XS.bipush X2.here hx rfl (hb hby at_9) ?_
    show own_S p e below T2 m 11 #[iv d, iv n, iv (own_num d), .unset, .unset, .unset, .unset, .unset, .unset, .unset] [(.int (-8 : Int32)), (.int (d - (48 : Int32)))] _
    refine XS.iand X2.here hx rfl (hb hby at_11) rfl ?_
    show own_S p e below T2 m 12 #[iv d, iv n, iv (own_num d), .unset, .unset, .unset, .unset, .unset, .unset, .unset] [(.int ((d - (48 : Int32)) &&& (-8 : Int32)))] _
    by_cases hc3 : ((d - (48 : Int32)) &&& (-8 : Int32)) = (0 : Int32)
    · refine XS.ifNo X2.here hx rfl (hb hby at_12) rfl ((if0 _ _).trans (teq hc3).2) ?_
      show own_S p e below T2 m 15 #[iv d, iv n, iv (own_num d), .unset, .unset, .unset, .unset, .unset, .unset, .unset] [] _
      refine XS.iconst X2.here hx rfl (hb hby at_15) ?_
      show own_S p e below T2 m 16 #[iv d, iv n, iv (own_num d), .unset, .unset, .unset, .unset, .unset, .unset, .unset] [(.int (1 : Int32))] _
      refine XS.goto X2.here hx rfl (pc0 := 16) (pc' := 20) rfl (hb hby at_16) (by decide) (by decide) ?_
      show own_S p e below T2 m 20 #[iv d, iv n, iv (own_num d), .unset, .unset, .unset, .unset, .unset, .unset, .unset] [(.int (1 : Int32))] _
      rw [hr1] at kt
      rw [show b1 = (1 : Int32) from by rw [hb1, if_pos hc3]] at kt
      exact kt
    · refine XS.ifYes X2.here hx rfl (pc0 := 12) (pc' := 19) rfl (hb hby at_12) rfl ((if0 _ _).trans (feq hc3).2) (by decide) (by decide) ?_
      show own_S p e below T2 m 19 #[iv d, iv n, iv (own_num d), .unset, .unset, .unset, .unset, .unset, .unset, .unset] [] _
      refine XS.iconst X2.here hx rfl (hb hby at_19) ?_
      show own_S p e below T2 m 20 #[iv d, iv n, iv (own_num d), .unset, .unset, .unset, .unset, .unset, .unset, .unset] [(.int (0 : Int32))] _
      rw [hr1] at kt
      rw [show b1 = (0 : Int32) from by rw [hb1, if_neg hc3]] at kt
      exact kt
  refine own_st sg4 ?_
  obtain ⟨b2, hb2⟩ : ∃ z : Int32, z = (if b1 = (0 : Int32) then (if r1 = (-1 : Int32) then (1 : Int32) else (0 : Int32)) else (if r1 < (0 : Int32) then (0 : Int32) else (if (7 : Int32) < r1 then (0 : Int32) else (if ((48 : Int32) + r1) = d then (1 : Int32) else (0 : Int32))))) := ⟨_, rfl⟩
  have sg10 : own_V p e below T2 (mkF m 61 #[iv d, iv n, iv r1, iv b1, .unset, .unset, .unset, .unset, .unset, .unset] [(.int b2)]) (mkF m 20 #[iv d, iv n, iv r1, .unset, .unset, .unset, .unset, .unset, .unset, .unset] [(.int b1)]) := by
    intro t kt
    refine XS.istoreN X2.here hx rfl (hb hby at_20) rfl (l' := #[iv d, iv n, iv r1, iv b1, .unset, .unset, .unset, .unset, .unset, .unset]) rfl ?_
    show own_S p e below T2 m 21 #[iv d, iv n, iv r1, iv b1, .unset, .unset, .unset, .unset, .unset, .unset] [] _
    refine XS.iloadN X2.here hx rfl (hb hby at_21) rfl ?_
    show own_S p e below T2 m 22 #[iv d, iv n, iv r1, iv b1, .unset, .unset, .unset, .unset, .unset, .unset] [(.int b1)] _
    by_cases hc5 : b1 = (0 : Int32)
    · refine XS.ifYes X2.here hx rfl (pc0 := 22) (pc' := 51) rfl (hb hby at_22) rfl ((if0 _ _).trans (teq hc5).1) (by decide) (by decide) ?_
      show own_S p e below T2 m 51 #[iv d, iv n, iv r1, iv b1, .unset, .unset, .unset, .unset, .unset, .unset] [] _
      refine XS.iloadN X2.here hx rfl (hb hby at_51) rfl ?_
      show own_S p e below T2 m 52 #[iv d, iv n, iv r1, iv b1, .unset, .unset, .unset, .unset, .unset, .unset] [(.int r1)] _
      refine XS.iconst X2.here hx rfl (hb hby at_52) ?_
      show own_S p e below T2 m 53 #[iv d, iv n, iv r1, iv b1, .unset, .unset, .unset, .unset, .unset, .unset] [(.int (-1 : Int32)), (.int r1)] _
      by_cases hc6 : r1 = (-1 : Int32)
      · refine XS.icmpNo X2.here hx rfl (hb hby at_53) rfl (teq hc6).2 ?_
        show own_S p e below T2 m 56 #[iv d, iv n, iv r1, iv b1, .unset, .unset, .unset, .unset, .unset, .unset] [] _
        refine XS.iconst X2.here hx rfl (hb hby at_56) ?_
        show own_S p e below T2 m 57 #[iv d, iv n, iv r1, iv b1, .unset, .unset, .unset, .unset, .unset, .unset] [(.int (1 : Int32))] _
        refine XS.goto X2.here hx rfl (pc0 := 57) (pc' := 61) rfl (hb hby at_57) (by decide) (by decide) ?_
        show own_S p e below T2 m 61 #[iv d, iv n, iv r1, iv b1, .unset, .unset, .unset, .unset, .unset, .unset] [(.int (1 : Int32))] _
        rw [show b2 = (1 : Int32) from by rw [hb2, if_pos hc5, if_pos hc6]] at kt
        exact kt
      · refine XS.icmpYes X2.here hx rfl (pc0 := 53) (pc' := 60) rfl (hb hby at_53) rfl (feq hc6).2 (by decide) (by decide) ?_
        show own_S p e below T2 m 60 #[iv d, iv n, iv r1, iv b1, .unset, .unset, .unset, .unset, .unset, .unset] [] _
        refine XS.iconst X2.here hx rfl (hb hby at_60) ?_
        show own_S p e below T2 m 61 #[iv d, iv n, iv r1, iv b1, .unset, .unset, .unset, .unset, .unset, .unset] [(.int (0 : Int32))] _
        rw [show b2 = (0 : Int32) from by rw [hb2, if_pos hc5, if_neg hc6]] at kt
        exact kt
    · refine XS.ifNo X2.here hx rfl (hb hby at_22) rfl ((if0 _ _).trans (feq hc5).1) ?_
      show own_S p e below T2 m 25 #[iv d, iv n, iv r1, iv b1, .unset, .unset, .unset, .unset, .unset, .unset] [] _
      refine XS.iloadN X2.here hx rfl (hb hby at_25) rfl ?_
      show own_S p e below T2 m 26 #[iv d, iv n, iv r1, iv b1, .unset, .unset, .unset, .unset, .unset, .unset] [(.int r1)] _
      by_cases hc7 : r1 < (0 : Int32)
      · refine XS.ifYes X2.here hx rfl (pc0 := 26) (pc' := 47) rfl (hb hby at_26) rfl ((if0 _ _).trans (tlt hc7).1) (by decide) (by decide) ?_
        show own_S p e below T2 m 47 #[iv d, iv n, iv r1, iv b1, .unset, .unset, .unset, .unset, .unset, .unset] [] _
        refine XS.iconst X2.here hx rfl (hb hby at_47) ?_
        show own_S p e below T2 m 48 #[iv d, iv n, iv r1, iv b1, .unset, .unset, .unset, .unset, .unset, .unset] [(.int (0 : Int32))] _
        refine XS.goto X2.here hx rfl (pc0 := 48) (pc' := 61) rfl (hb hby at_48) (by decide) (by decide) ?_
        show own_S p e below T2 m 61 #[iv d, iv n, iv r1, iv b1, .unset, .unset, .unset, .unset, .unset, .unset] [(.int (0 : Int32))] _
        rw [show b2 = (0 : Int32) from by rw [hb2, if_neg hc5, if_pos hc7]] at kt
        exact kt
      · refine XS.ifNo X2.here hx rfl (hb hby at_26) rfl ((if0 _ _).trans (flt hc7).1) ?_
        show own_S p e below T2 m 29 #[iv d, iv n, iv r1, iv b1, .unset, .unset, .unset, .unset, .unset, .unset] [] _
        refine XS.iloadN X2.here hx rfl (hb hby at_29) rfl ?_
        show own_S p e below T2 m 30 #[iv d, iv n, iv r1, iv b1, .unset, .unset, .unset, .unset, .unset, .unset] [(.int r1)] _
        refine XS.bipush X2.here hx rfl (hb hby at_30) ?_
        show own_S p e below T2 m 32 #[iv d, iv n, iv r1, iv b1, .unset, .unset, .unset, .unset, .unset, .unset] [(.int (7 : Int32)), (.int r1)] _
        by_cases hc8 : (7 : Int32) < r1
        · refine XS.icmpYes X2.here hx rfl (pc0 := 32) (pc' := 47) rfl (hb hby at_32) rfl (tlt hc8).2.2.1 (by decide) (by decide) ?_
          show own_S p e below T2 m 47 #[iv d, iv n, iv r1, iv b1, .unset, .unset, .unset, .unset, .unset, .unset] [] _
          refine XS.iconst X2.here hx rfl (hb hby at_47) ?_
          show own_S p e below T2 m 48 #[iv d, iv n, iv r1, iv b1, .unset, .unset, .unset, .unset, .unset, .unset] [(.int (0 : Int32))] _
          refine XS.goto X2.here hx rfl (pc0 := 48) (pc' := 61) rfl (hb hby at_48) (by decide) (by decide) ?_
          show own_S p e below T2 m 61 #[iv d, iv n, iv r1, iv b1, .unset, .unset, .unset, .unset, .unset, .unset] [(.int (0 : Int32))] _
          rw [show b2 = (0 : Int32) from by rw [hb2, if_neg hc5, if_neg hc7, if_pos hc8]] at kt
          exact kt
        · refine XS.icmpNo X2.here hx rfl (hb hby at_32) rfl (flt hc8).2.2.1 ?_
          show own_S p e below T2 m 35 #[iv d, iv n, iv r1, iv b1, .unset, .unset, .unset, .unset, .unset, .unset] [] _
          refine XS.bipush X2.here hx rfl (hb hby at_35) ?_
          show own_S p e below T2 m 37 #[iv d, iv n, iv r1, iv b1, .unset, .unset, .unset, .unset, .unset, .unset] [(.int (48 : Int32))] _
          refine XS.iloadN X2.here hx rfl (hb hby at_37) rfl ?_
          show own_S p e below T2 m 38 #[iv d, iv n, iv r1, iv b1, .unset, .unset, .unset, .unset, .unset, .unset] [(.int r1), (.int (48 : Int32))] _
          refine XS.iadd X2.here hx rfl (hb hby at_38) rfl ?_
          show own_S p e below T2 m 39 #[iv d, iv n, iv r1, iv b1, .unset, .unset, .unset, .unset, .unset, .unset] [(.int ((48 : Int32) + r1))] _
          refine XS.iloadN X2.here hx rfl (hb hby at_39) rfl ?_
          show own_S p e below T2 m 40 #[iv d, iv n, iv r1, iv b1, .unset, .unset, .unset, .unset, .unset, .unset] [(.int d), (.int ((48 : Int32) + r1))] _
          by_cases hc9 : ((48 : Int32) + r1) = d
          · refine XS.icmpNo X2.here hx rfl (hb hby at_40) rfl (teq hc9).2 ?_
            show own_S p e below T2 m 43 #[iv d, iv n, iv r1, iv b1, .unset, .unset, .unset, .unset, .unset, .unset] [] _
            refine XS.iconst X2.here hx rfl (hb hby at_43) ?_
            show own_S p e below T2 m 44 #[iv d, iv n, iv r1, iv b1, .unset, .unset, .unset, .unset, .unset, .unset] [(.int (1 : Int32))] _
            refine XS.goto X2.here hx rfl (pc0 := 44) (pc' := 61) rfl (hb hby at_44) (by decide) (by decide) ?_
            show own_S p e below T2 m 61 #[iv d, iv n, iv r1, iv b1, .unset, .unset, .unset, .unset, .unset, .unset] [(.int (1 : Int32))] _
            rw [show b2 = (1 : Int32) from by rw [hb2, if_neg hc5, if_neg hc7, if_neg hc8, if_pos hc9]] at kt
            exact kt
          · refine XS.icmpYes X2.here hx rfl (pc0 := 40) (pc' := 47) rfl (hb hby at_40) rfl (feq hc9).2 (by decide) (by decide) ?_
            show own_S p e below T2 m 47 #[iv d, iv n, iv r1, iv b1, .unset, .unset, .unset, .unset, .unset, .unset] [] _
            refine XS.iconst X2.here hx rfl (hb hby at_47) ?_
            show own_S p e below T2 m 48 #[iv d, iv n, iv r1, iv b1, .unset, .unset, .unset, .unset, .unset, .unset] [(.int (0 : Int32))] _
            refine XS.goto X2.here hx rfl (pc0 := 48) (pc' := 61) rfl (hb hby at_48) (by decide) (by decide) ?_
            show own_S p e below T2 m 61 #[iv d, iv n, iv r1, iv b1, .unset, .unset, .unset, .unset, .unset, .unset] [(.int (0 : Int32))] _
            rw [show b2 = (0 : Int32) from by rw [hb2, if_neg hc5, if_neg hc7, if_neg hc8, if_neg hc9]] at kt
            exact kt
  refine own_st sg10 ?_
  obtain ⟨k, hk⟩ : ∃ z : Int32, z = (n &&& (7 : Int32)) := ⟨_, rfl⟩
  obtain ⟨k48, hk48⟩ : ∃ z : Int32, z = ((48 : Int32) + (n &&& (7 : Int32))) := ⟨_, rfl⟩
  have sg11 : own_V p e below T2 (mkF m 74 #[iv d, iv n, iv r1, iv b1, iv b2, iv k, .unset, .unset, .unset, .unset] [(.int k48)]) (mkF m 61 #[iv d, iv n, iv r1, iv b1, .unset, .unset, .unset, .unset, .unset, .unset] [(.int b2)]) := by
    intro t kt
    refine XS.istore X2.here hx rfl (hb hby at_61) rfl (l' := #[iv d, iv n, iv r1, iv b1, iv b2, .unset, .unset, .unset, .unset, .unset]) rfl ?_
    show own_S p e below T2 m 63 #[iv d, iv n, iv r1, iv b1, iv b2, .unset, .unset, .unset, .unset, .unset] [] _
    refine XS.iloadN X2.here hx rfl (hb hby at_63) rfl ?_
    show own_S p e below T2 m 64 #[iv d, iv n, iv r1, iv b1, iv b2, .unset, .unset, .unset, .unset, .unset] [(.int n)] _
    refine XS.bipush X2.here hx rfl (hb hby at_64) ?_
    show own_S p e below T2 m 66 #[iv d, iv n, iv r1, iv b1, iv b2, .unset, .unset, .unset, .unset, .unset] [(.int (7 : Int32)), (.int n)] _
    refine XS.iand X2.here hx rfl (hb hby at_66) rfl ?_
    show own_S p e below T2 m 67 #[iv d, iv n, iv r1, iv b1, iv b2, .unset, .unset, .unset, .unset, .unset] [(.int (n &&& (7 : Int32)))] _
    refine XS.istore X2.here hx rfl (hb hby at_67) rfl (l' := #[iv d, iv n, iv r1, iv b1, iv b2, iv (n &&& (7 : Int32)), .unset, .unset, .unset, .unset]) rfl ?_
    show own_S p e below T2 m 69 #[iv d, iv n, iv r1, iv b1, iv b2, iv (n &&& (7 : Int32)), .unset, .unset, .unset, .unset] [] _
    refine XS.bipush X2.here hx rfl (hb hby at_69) ?_
    show own_S p e below T2 m 71 #[iv d, iv n, iv r1, iv b1, iv b2, iv (n &&& (7 : Int32)), .unset, .unset, .unset, .unset] [(.int (48 : Int32))] _
    refine XS.iload X2.here hx rfl (hb hby at_71) rfl ?_
    show own_S p e below T2 m 73 #[iv d, iv n, iv r1, iv b1, iv b2, iv (n &&& (7 : Int32)), .unset, .unset, .unset, .unset] [(.int (n &&& (7 : Int32))), (.int (48 : Int32))] _
    refine XS.iadd X2.here hx rfl (hb hby at_73) rfl ?_
    show own_S p e below T2 m 74 #[iv d, iv n, iv r1, iv b1, iv b2, iv (n &&& (7 : Int32)), .unset, .unset, .unset, .unset] [(.int ((48 : Int32) + (n &&& (7 : Int32))))] _
    rw [hk] at kt
    rw [hk48] at kt
    exact kt
  refine own_st sg11 ?_
  obtain ⟨_, T12, L12, X12, hQ12, st12⟩ := own_callS (y := (⟨"com/example/cytowire/cytowire/astm/Frame", "number", "(I)I"⟩ : MethodName)) X2 hx hZ hown (hw _ (List.mem_of_getElem? (i := 0) rfl)) (hw _ (List.mem_of_getElem? (i := 1) rfl)) (hw _ (List.mem_of_getElem? (i := 2) rfl)) (hw _ (List.mem_of_getElem? (i := 3) rfl)) (by decide) (own_rmnum l Z a0 hw k48 h0 n0 Z0) e2 (g := (mkF m 74 #[iv d, iv n, iv r1, iv b1, iv b2, iv k, .unset, .unset, .unset, .unset] [(.int k48)])) rfl (by rw [hml]; rfl) (argsL := [(.int k48)]) (rest := []) (lenOf own_pd0 rfl) rfl (W := 0) (by show 2 * 0 + _ ≤ _; exact Nat.le_of_eq rfl) (hb hby at_74) (by decide) (by decide) (by decide) (by decide)
  obtain ⟨rfl, Nq12, e12⟩ := hQ12
  refine own_st st12 ?_
  have N12 := Fr.app N2 Nq12
  show own_Go p e below _ T12 (mkF m 77 #[iv d, iv n, iv r1, iv b1, iv b2, iv k, .unset, .unset, .unset, .unset] [(.int (own_num k48))])
  obtain ⟨b3, hb3⟩ : ∃ z : Int32, z = (if (own_num k48) = k then (1 : Int32) else (0 : Int32)) := ⟨_, rfl⟩
  have sg14 : own_V p e below T12 (mkF m 87 #[iv d, iv n, iv r1, iv b1, iv b2, iv k, .unset, .unset, .unset, .unset] [(.int b3)]) (mkF m 77 #[iv d, iv n, iv r1, iv b1, iv b2, iv k, .unset, .unset, .unset, .unset] [(.int (own_num k48))]) := by
    intro t kt
    refine XS.iload X12.here hx rfl (hb hby at_77) rfl ?_
    show own_S p e below T12 m 79 #[iv d, iv n, iv r1, iv b1, iv b2, iv k, .unset, .unset, .unset, .unset] [(.int k), (.int (own_num k48))] _
    by_cases hc13 : (own_num k48) = k
    · refine XS.icmpNo X12.here hx rfl (hb hby at_79) rfl (teq hc13).2 ?_
      show own_S p e below T12 m 82 #[iv d, iv n, iv r1, iv b1, iv b2, iv k, .unset, .unset, .unset, .unset] [] _
      refine XS.iconst X12.here hx rfl (hb hby at_82) ?_
      show own_S p e below T12 m 83 #[iv d, iv n, iv r1, iv b1, iv b2, iv k, .unset, .unset, .unset, .unset] [(.int (1 : Int32))] _
      refine XS.goto X12.here hx rfl (pc0 := 83) (pc' := 87) rfl (hb hby at_83) (by decide) (by decide) ?_
      show own_S p e below T12 m 87 #[iv d, iv n, iv r1, iv b1, iv b2, iv k, .unset, .unset, .unset, .unset] [(.int (1 : Int32))] _
      rw [show b3 = (1 : Int32) from by rw [hb3, if_pos hc13]] at kt
      exact kt
    · refine XS.icmpYes X12.here hx rfl (pc0 := 79) (pc' := 86) rfl (hb hby at_79) rfl (feq hc13).2 (by decide) (by decide) ?_
      show own_S p e below T12 m 86 #[iv d, iv n, iv r1, iv b1, iv b2, iv k, .unset, .unset, .unset, .unset] [] _
      refine XS.iconst X12.here hx rfl (hb hby at_86) ?_
      show own_S p e below T12 m 87 #[iv d, iv n, iv r1, iv b1, iv b2, iv k, .unset, .unset, .unset, .unset] [(.int (0 : Int32))] _
      rw [show b3 = (0 : Int32) from by rw [hb3, if_neg hc13]] at kt
      exact kt
  refine own_st sg14 ?_
  obtain ⟨bb, hbb⟩ : ∃ z : Int32, z = ((44 : Int32) + (((n.toUInt32 >>> ((3 : Int32) &&& 31).toUInt32).toInt32) &&& (15 : Int32))) := ⟨_, rfl⟩
  have sg15 : own_V p e below T12 (mkF m 102 #[iv d, iv n, iv r1, iv b1, iv b2, iv k, iv b3, iv bb, .unset, .unset] [(.int bb)]) (mkF m 87 #[iv d, iv n, iv r1, iv b1, iv b2, iv k, .unset, .unset, .unset, .unset] [(.int b3)]) := by
    intro t kt
    refine XS.istore X12.here hx rfl (hb hby at_87) rfl (l' := #[iv d, iv n, iv r1, iv b1, iv b2, iv k, iv b3, .unset, .unset, .unset]) rfl ?_
    show own_S p e below T12 m 89 #[iv d, iv n, iv r1, iv b1, iv b2, iv k, iv b3, .unset, .unset, .unset] [] _
    refine XS.bipush X12.here hx rfl (hb hby at_89) ?_
    show own_S p e below T12 m 91 #[iv d, iv n, iv r1, iv b1, iv b2, iv k, iv b3, .unset, .unset, .unset] [(.int (44 : Int32))] _
    refine XS.iloadN X12.here hx rfl (hb hby at_91) rfl ?_
    show own_S p e below T12 m 92 #[iv d, iv n, iv r1, iv b1, iv b2, iv k, iv b3, .unset, .unset, .unset] [(.int n), (.int (44 : Int32))] _
    refine XS.iconst X12.here hx rfl (hb hby at_92) ?_
    show own_S p e below T12 m 93 #[iv d, iv n, iv r1, iv b1, iv b2, iv k, iv b3, .unset, .unset, .unset] [(.int (3 : Int32)), (.int n), (.int (44 : Int32))] _
    refine XS.iushr X12.here hx rfl (hb hby at_93) rfl ?_
    show own_S p e below T12 m 94 #[iv d, iv n, iv r1, iv b1, iv b2, iv k, iv b3, .unset, .unset, .unset] [(.int ((n.toUInt32 >>> ((3 : Int32) &&& 31).toUInt32).toInt32)), (.int (44 : Int32))] _
    refine XS.bipush X12.here hx rfl (hb hby at_94) ?_
    show own_S p e below T12 m 96 #[iv d, iv n, iv r1, iv b1, iv b2, iv k, iv b3, .unset, .unset, .unset] [(.int (15 : Int32)), (.int ((n.toUInt32 >>> ((3 : Int32) &&& 31).toUInt32).toInt32)), (.int (44 : Int32))] _
    refine XS.iand X12.here hx rfl (hb hby at_96) rfl ?_
    show own_S p e below T12 m 97 #[iv d, iv n, iv r1, iv b1, iv b2, iv k, iv b3, .unset, .unset, .unset] [(.int (((n.toUInt32 >>> ((3 : Int32) &&& 31).toUInt32).toInt32) &&& (15 : Int32))), (.int (44 : Int32))] _
    refine XS.iadd X12.here hx rfl (hb hby at_97) rfl ?_
    show own_S p e below T12 m 98 #[iv d, iv n, iv r1, iv b1, iv b2, iv k, iv b3, .unset, .unset, .unset] [(.int ((44 : Int32) + (((n.toUInt32 >>> ((3 : Int32) &&& 31).toUInt32).toInt32) &&& (15 : Int32))))] _
    refine XS.istore X12.here hx rfl (hb hby at_98) rfl (l' := #[iv d, iv n, iv r1, iv b1, iv b2, iv k, iv b3, iv ((44 : Int32) + (((n.toUInt32 >>> ((3 : Int32) &&& 31).toUInt32).toInt32) &&& (15 : Int32))), .unset, .unset]) rfl ?_
    show own_S p e below T12 m 100 #[iv d, iv n, iv r1, iv b1, iv b2, iv k, iv b3, iv ((44 : Int32) + (((n.toUInt32 >>> ((3 : Int32) &&& 31).toUInt32).toInt32) &&& (15 : Int32))), .unset, .unset] [] _
    refine XS.iload X12.here hx rfl (hb hby at_100) rfl ?_
    show own_S p e below T12 m 102 #[iv d, iv n, iv r1, iv b1, iv b2, iv k, iv b3, iv ((44 : Int32) + (((n.toUInt32 >>> ((3 : Int32) &&& 31).toUInt32).toInt32) &&& (15 : Int32))), .unset, .unset] [(.int ((44 : Int32) + (((n.toUInt32 >>> ((3 : Int32) &&& 31).toUInt32).toInt32) &&& (15 : Int32))))] _
    rw [hbb] at kt
    exact kt
  refine own_st sg15 ?_
  obtain ⟨_, T16, L16, X16, hQ16, st16⟩ := own_callS (y := (⟨"com/example/cytowire/cytowire/astm/Frame", "number", "(I)I"⟩ : MethodName)) X12 hx hZ hown (hw _ (List.mem_of_getElem? (i := 0) rfl)) (hw _ (List.mem_of_getElem? (i := 1) rfl)) (hw _ (List.mem_of_getElem? (i := 2) rfl)) (hw _ (List.mem_of_getElem? (i := 3) rfl)) (by decide) (own_rmnum l Z a0 hw bb h0 n0 Z0) e12 (g := (mkF m 102 #[iv d, iv n, iv r1, iv b1, iv b2, iv k, iv b3, iv bb, .unset, .unset] [(.int bb)])) rfl (by rw [hml]; rfl) (argsL := [(.int bb)]) (rest := []) (lenOf own_pd0 rfl) rfl (W := 0) (by show 2 * 0 + _ ≤ _; exact Nat.le_of_eq rfl) (hb hby at_102) (by decide) (by decide) (by decide) (by decide)
  obtain ⟨rfl, Nq16, e16⟩ := hQ16
  refine own_st st16 ?_
  have N16 := Fr.app N12 Nq16
  show own_Go p e below _ T16 (mkF m 105 #[iv d, iv n, iv r1, iv b1, iv b2, iv k, iv b3, iv bb, .unset, .unset] [(.int (own_num bb))])
  obtain ⟨r3, hr3⟩ : ∃ z : Int32, z = (own_num bb) := ⟨_, rfl⟩
  obtain ⟨b4, hb4⟩ : ∃ z : Int32, z = (if bb < (48 : Int32) then (if (own_num bb) = (-1 : Int32) then (1 : Int32) else (0 : Int32)) else (if (55 : Int32) < bb then (if (own_num bb) = (-1 : Int32) then (1 : Int32) else (0 : Int32)) else (if (own_num bb) = (bb - (48 : Int32)) then (1 : Int32) else (0 : Int32)))) := ⟨_, rfl⟩
  have sg22 : own_V p e below T16 (mkF m 150 #[iv d, iv n, iv r1, iv b1, iv b2, iv k, iv b3, iv bb, iv r3, .unset] [(.int b4)]) (mkF m 105 #[iv d, iv n, iv r1, iv b1, iv b2, iv k, iv b3, iv bb, .unset, .unset] [(.int (own_num bb))]) := by
    intro t kt
    refine XS.istore X16.here hx rfl (hb hby at_105) rfl (l' := #[iv d, iv n, iv r1, iv b1, iv b2, iv k, iv b3, iv bb, iv (own_num bb), .unset]) rfl ?_
    show own_S p e below T16 m 107 #[iv d, iv n, iv r1, iv b1, iv b2, iv k, iv b3, iv bb, iv (own_num bb), .unset] [] _
    refine XS.iload X16.here hx rfl (hb hby at_107) rfl ?_
    show own_S p e below T16 m 109 #[iv d, iv n, iv r1, iv b1, iv b2, iv k, iv b3, iv bb, iv (own_num bb), .unset] [(.int bb)] _
    refine XS.bipush X16.here hx rfl (hb hby at_109) ?_
    show own_S p e below T16 m 111 #[iv d, iv n, iv r1, iv b1, iv b2, iv k, iv b3, iv bb, iv (own_num bb), .unset] [(.int (48 : Int32)), (.int bb)] _
    by_cases hc17 : bb < (48 : Int32)
    · refine XS.icmpYes X16.here hx rfl (pc0 := 111) (pc' := 139) rfl (hb hby at_111) rfl (tlt hc17).1 (by decide) (by decide) ?_
      show own_S p e below T16 m 139 #[iv d, iv n, iv r1, iv b1, iv b2, iv k, iv b3, iv bb, iv (own_num bb), .unset] [] _
      refine XS.iload X16.here hx rfl (hb hby at_139) rfl ?_
      show own_S p e below T16 m 141 #[iv d, iv n, iv r1, iv b1, iv b2, iv k, iv b3, iv bb, iv (own_num bb), .unset] [(.int (own_num bb))] _
      refine XS.iconst X16.here hx rfl (hb hby at_141) ?_
      show own_S p e below T16 m 142 #[iv d, iv n, iv r1, iv b1, iv b2, iv k, iv b3, iv bb, iv (own_num bb), .unset] [(.int (-1 : Int32)), (.int (own_num bb))] _
      by_cases hc18 : (own_num bb) = (-1 : Int32)
      · refine XS.icmpNo X16.here hx rfl (hb hby at_142) rfl (teq hc18).2 ?_
        show own_S p e below T16 m 145 #[iv d, iv n, iv r1, iv b1, iv b2, iv k, iv b3, iv bb, iv (own_num bb), .unset] [] _
        refine XS.iconst X16.here hx rfl (hb hby at_145) ?_
        show own_S p e below T16 m 146 #[iv d, iv n, iv r1, iv b1, iv b2, iv k, iv b3, iv bb, iv (own_num bb), .unset] [(.int (1 : Int32))] _
        refine XS.goto X16.here hx rfl (pc0 := 146) (pc' := 150) rfl (hb hby at_146) (by decide) (by decide) ?_
        show own_S p e below T16 m 150 #[iv d, iv n, iv r1, iv b1, iv b2, iv k, iv b3, iv bb, iv (own_num bb), .unset] [(.int (1 : Int32))] _
        rw [hr3] at kt
        rw [show b4 = (1 : Int32) from by rw [hb4, if_pos hc17, if_pos hc18]] at kt
        exact kt
      · refine XS.icmpYes X16.here hx rfl (pc0 := 142) (pc' := 149) rfl (hb hby at_142) rfl (feq hc18).2 (by decide) (by decide) ?_
        show own_S p e below T16 m 149 #[iv d, iv n, iv r1, iv b1, iv b2, iv k, iv b3, iv bb, iv (own_num bb), .unset] [] _
        refine XS.iconst X16.here hx rfl (hb hby at_149) ?_
        show own_S p e below T16 m 150 #[iv d, iv n, iv r1, iv b1, iv b2, iv k, iv b3, iv bb, iv (own_num bb), .unset] [(.int (0 : Int32))] _
        rw [hr3] at kt
        rw [show b4 = (0 : Int32) from by rw [hb4, if_pos hc17, if_neg hc18]] at kt
        exact kt
    · refine XS.icmpNo X16.here hx rfl (hb hby at_111) rfl (flt hc17).1 ?_
      show own_S p e below T16 m 114 #[iv d, iv n, iv r1, iv b1, iv b2, iv k, iv b3, iv bb, iv (own_num bb), .unset] [] _
      refine XS.iload X16.here hx rfl (hb hby at_114) rfl ?_
      show own_S p e below T16 m 116 #[iv d, iv n, iv r1, iv b1, iv b2, iv k, iv b3, iv bb, iv (own_num bb), .unset] [(.int bb)] _
      refine XS.bipush X16.here hx rfl (hb hby at_116) ?_
      show own_S p e below T16 m 118 #[iv d, iv n, iv r1, iv b1, iv b2, iv k, iv b3, iv bb, iv (own_num bb), .unset] [(.int (55 : Int32)), (.int bb)] _
      by_cases hc19 : (55 : Int32) < bb
      · refine XS.icmpYes X16.here hx rfl (pc0 := 118) (pc' := 139) rfl (hb hby at_118) rfl (tlt hc19).2.2.1 (by decide) (by decide) ?_
        show own_S p e below T16 m 139 #[iv d, iv n, iv r1, iv b1, iv b2, iv k, iv b3, iv bb, iv (own_num bb), .unset] [] _
        refine XS.iload X16.here hx rfl (hb hby at_139) rfl ?_
        show own_S p e below T16 m 141 #[iv d, iv n, iv r1, iv b1, iv b2, iv k, iv b3, iv bb, iv (own_num bb), .unset] [(.int (own_num bb))] _
        refine XS.iconst X16.here hx rfl (hb hby at_141) ?_
        show own_S p e below T16 m 142 #[iv d, iv n, iv r1, iv b1, iv b2, iv k, iv b3, iv bb, iv (own_num bb), .unset] [(.int (-1 : Int32)), (.int (own_num bb))] _
        by_cases hc20 : (own_num bb) = (-1 : Int32)
        · refine XS.icmpNo X16.here hx rfl (hb hby at_142) rfl (teq hc20).2 ?_
          show own_S p e below T16 m 145 #[iv d, iv n, iv r1, iv b1, iv b2, iv k, iv b3, iv bb, iv (own_num bb), .unset] [] _
          refine XS.iconst X16.here hx rfl (hb hby at_145) ?_
          show own_S p e below T16 m 146 #[iv d, iv n, iv r1, iv b1, iv b2, iv k, iv b3, iv bb, iv (own_num bb), .unset] [(.int (1 : Int32))] _
          refine XS.goto X16.here hx rfl (pc0 := 146) (pc' := 150) rfl (hb hby at_146) (by decide) (by decide) ?_
          show own_S p e below T16 m 150 #[iv d, iv n, iv r1, iv b1, iv b2, iv k, iv b3, iv bb, iv (own_num bb), .unset] [(.int (1 : Int32))] _
          rw [hr3] at kt
          rw [show b4 = (1 : Int32) from by rw [hb4, if_neg hc17, if_pos hc19, if_pos hc20]] at kt
          exact kt
        · refine XS.icmpYes X16.here hx rfl (pc0 := 142) (pc' := 149) rfl (hb hby at_142) rfl (feq hc20).2 (by decide) (by decide) ?_
          show own_S p e below T16 m 149 #[iv d, iv n, iv r1, iv b1, iv b2, iv k, iv b3, iv bb, iv (own_num bb), .unset] [] _
          refine XS.iconst X16.here hx rfl (hb hby at_149) ?_
          show own_S p e below T16 m 150 #[iv d, iv n, iv r1, iv b1, iv b2, iv k, iv b3, iv bb, iv (own_num bb), .unset] [(.int (0 : Int32))] _
          rw [hr3] at kt
          rw [show b4 = (0 : Int32) from by rw [hb4, if_neg hc17, if_pos hc19, if_neg hc20]] at kt
          exact kt
      · refine XS.icmpNo X16.here hx rfl (hb hby at_118) rfl (flt hc19).2.2.1 ?_
        show own_S p e below T16 m 121 #[iv d, iv n, iv r1, iv b1, iv b2, iv k, iv b3, iv bb, iv (own_num bb), .unset] [] _
        refine XS.iload X16.here hx rfl (hb hby at_121) rfl ?_
        show own_S p e below T16 m 123 #[iv d, iv n, iv r1, iv b1, iv b2, iv k, iv b3, iv bb, iv (own_num bb), .unset] [(.int (own_num bb))] _
        refine XS.iload X16.here hx rfl (hb hby at_123) rfl ?_
        show own_S p e below T16 m 125 #[iv d, iv n, iv r1, iv b1, iv b2, iv k, iv b3, iv bb, iv (own_num bb), .unset] [(.int bb), (.int (own_num bb))] _
        refine XS.bipush X16.here hx rfl (hb hby at_125) ?_
        show own_S p e below T16 m 127 #[iv d, iv n, iv r1, iv b1, iv b2, iv k, iv b3, iv bb, iv (own_num bb), .unset] [(.int (48 : Int32)), (.int bb), (.int (own_num bb))] _
        refine XS.isub X16.here hx rfl (hb hby at_127) rfl ?_
        show own_S p e below T16 m 128 #[iv d, iv n, iv r1, iv b1, iv b2, iv k, iv b3, iv bb, iv (own_num bb), .unset] [(.int (bb - (48 : Int32))), (.int (own_num bb))] _
        by_cases hc21 : (own_num bb) = (bb - (48 : Int32))
        · refine XS.icmpNo X16.here hx rfl (hb hby at_128) rfl (teq hc21).2 ?_
          show own_S p e below T16 m 131 #[iv d, iv n, iv r1, iv b1, iv b2, iv k, iv b3, iv bb, iv (own_num bb), .unset] [] _
          refine XS.iconst X16.here hx rfl (hb hby at_131) ?_
          show own_S p e below T16 m 132 #[iv d, iv n, iv r1, iv b1, iv b2, iv k, iv b3, iv bb, iv (own_num bb), .unset] [(.int (1 : Int32))] _
          refine XS.goto X16.here hx rfl (pc0 := 132) (pc' := 150) rfl (hb hby at_132) (by decide) (by decide) ?_
          show own_S p e below T16 m 150 #[iv d, iv n, iv r1, iv b1, iv b2, iv k, iv b3, iv bb, iv (own_num bb), .unset] [(.int (1 : Int32))] _
          rw [hr3] at kt
          rw [show b4 = (1 : Int32) from by rw [hb4, if_neg hc17, if_neg hc19, if_pos hc21]] at kt
          exact kt
        · refine XS.icmpYes X16.here hx rfl (pc0 := 128) (pc' := 135) rfl (hb hby at_128) rfl (feq hc21).2 (by decide) (by decide) ?_
          show own_S p e below T16 m 135 #[iv d, iv n, iv r1, iv b1, iv b2, iv k, iv b3, iv bb, iv (own_num bb), .unset] [] _
          refine XS.iconst X16.here hx rfl (hb hby at_135) ?_
          show own_S p e below T16 m 136 #[iv d, iv n, iv r1, iv b1, iv b2, iv k, iv b3, iv bb, iv (own_num bb), .unset] [(.int (0 : Int32))] _
          refine XS.goto X16.here hx rfl (pc0 := 136) (pc' := 150) rfl (hb hby at_136) (by decide) (by decide) ?_
          show own_S p e below T16 m 150 #[iv d, iv n, iv r1, iv b1, iv b2, iv k, iv b3, iv bb, iv (own_num bb), .unset] [(.int (0 : Int32))] _
          rw [hr3] at kt
          rw [show b4 = (0 : Int32) from by rw [hb4, if_neg hc17, if_neg hc19, if_neg hc21]] at kt
          exact kt
  refine own_st sg22 ?_
  obtain ⟨r, hr⟩ : ∃ z : Int32, z = (if b2 = (0 : Int32) then (0 : Int32) else (if b3 = (0 : Int32) then (0 : Int32) else (if b4 = (0 : Int32) then (0 : Int32) else (1 : Int32)))) := ⟨_, rfl⟩
  have sg26 : own_V p e below T16 (mkF m 172 #[iv d, iv n, iv r1, iv b1, iv b2, iv k, iv b3, iv bb, iv r3, iv b4] [(.int r)]) (mkF m 150 #[iv d, iv n, iv r1, iv b1, iv b2, iv k, iv b3, iv bb, iv r3, .unset] [(.int b4)]) := by
    intro t kt
    refine XS.istore X16.here hx rfl (hb hby at_150) rfl (l' := #[iv d, iv n, iv r1, iv b1, iv b2, iv k, iv b3, iv bb, iv r3, iv b4]) rfl ?_
    show own_S p e below T16 m 152 #[iv d, iv n, iv r1, iv b1, iv b2, iv k, iv b3, iv bb, iv r3, iv b4] [] _
    refine XS.iload X16.here hx rfl (hb hby at_152) rfl ?_
    show own_S p e below T16 m 154 #[iv d, iv n, iv r1, iv b1, iv b2, iv k, iv b3, iv bb, iv r3, iv b4] [(.int b2)] _
    by_cases hc23 : b2 = (0 : Int32)
    · refine XS.ifYes X16.here hx rfl (pc0 := 154) (pc' := 171) rfl (hb hby at_154) rfl ((if0 _ _).trans (teq hc23).1) (by decide) (by decide) ?_
      show own_S p e below T16 m 171 #[iv d, iv n, iv r1, iv b1, iv b2, iv k, iv b3, iv bb, iv r3, iv b4] [] _
      refine XS.iconst X16.here hx rfl (hb hby at_171) ?_
      show own_S p e below T16 m 172 #[iv d, iv n, iv r1, iv b1, iv b2, iv k, iv b3, iv bb, iv r3, iv b4] [(.int (0 : Int32))] _
      rw [show r = (0 : Int32) from by rw [hr, if_pos hc23]] at kt
      exact kt
    · refine XS.ifNo X16.here hx rfl (hb hby at_154) rfl ((if0 _ _).trans (feq hc23).1) ?_
      show own_S p e below T16 m 157 #[iv d, iv n, iv r1, iv b1, iv b2, iv k, iv b3, iv bb, iv r3, iv b4] [] _
      refine XS.iload X16.here hx rfl (hb hby at_157) rfl ?_
      show own_S p e below T16 m 159 #[iv d, iv n, iv r1, iv b1, iv b2, iv k, iv b3, iv bb, iv r3, iv b4] [(.int b3)] _
      by_cases hc24 : b3 = (0 : Int32)
      · refine XS.ifYes X16.here hx rfl (pc0 := 159) (pc' := 171) rfl (hb hby at_159) rfl ((if0 _ _).trans (teq hc24).1) (by decide) (by decide) ?_
        show own_S p e below T16 m 171 #[iv d, iv n, iv r1, iv b1, iv b2, iv k, iv b3, iv bb, iv r3, iv b4] [] _
        refine XS.iconst X16.here hx rfl (hb hby at_171) ?_
        show own_S p e below T16 m 172 #[iv d, iv n, iv r1, iv b1, iv b2, iv k, iv b3, iv bb, iv r3, iv b4] [(.int (0 : Int32))] _
        rw [show r = (0 : Int32) from by rw [hr, if_neg hc23, if_pos hc24]] at kt
        exact kt
      · refine XS.ifNo X16.here hx rfl (hb hby at_159) rfl ((if0 _ _).trans (feq hc24).1) ?_
        show own_S p e below T16 m 162 #[iv d, iv n, iv r1, iv b1, iv b2, iv k, iv b3, iv bb, iv r3, iv b4] [] _
        refine XS.iload X16.here hx rfl (hb hby at_162) rfl ?_
        show own_S p e below T16 m 164 #[iv d, iv n, iv r1, iv b1, iv b2, iv k, iv b3, iv bb, iv r3, iv b4] [(.int b4)] _
        by_cases hc25 : b4 = (0 : Int32)
        · refine XS.ifYes X16.here hx rfl (pc0 := 164) (pc' := 171) rfl (hb hby at_164) rfl ((if0 _ _).trans (teq hc25).1) (by decide) (by decide) ?_
          show own_S p e below T16 m 171 #[iv d, iv n, iv r1, iv b1, iv b2, iv k, iv b3, iv bb, iv r3, iv b4] [] _
          refine XS.iconst X16.here hx rfl (hb hby at_171) ?_
          show own_S p e below T16 m 172 #[iv d, iv n, iv r1, iv b1, iv b2, iv k, iv b3, iv bb, iv r3, iv b4] [(.int (0 : Int32))] _
          rw [show r = (0 : Int32) from by rw [hr, if_neg hc23, if_neg hc24, if_pos hc25]] at kt
          exact kt
        · refine XS.ifNo X16.here hx rfl (hb hby at_164) rfl ((if0 _ _).trans (feq hc25).1) ?_
          show own_S p e below T16 m 167 #[iv d, iv n, iv r1, iv b1, iv b2, iv k, iv b3, iv bb, iv r3, iv b4] [] _
          refine XS.iconst X16.here hx rfl (hb hby at_167) ?_
          show own_S p e below T16 m 168 #[iv d, iv n, iv r1, iv b1, iv b2, iv k, iv b3, iv bb, iv r3, iv b4] [(.int (1 : Int32))] _
          refine XS.goto X16.here hx rfl (pc0 := 168) (pc' := 172) rfl (hb hby at_168) (by decide) (by decide) ?_
          show own_S p e below T16 m 172 #[iv d, iv n, iv r1, iv b1, iv b2, iv k, iv b3, iv bb, iv r3, iv b4] [(.int (1 : Int32))] _
          rw [show r = (1 : Int32) from by rw [hr, if_neg hc23, if_neg hc24, if_neg hc25]] at kt
          exact kt
  refine own_st sg26 ?_
  have hone : r = 1 := own_plain d n r1 hr1 b1 hb1 b2 hb2 k hk k48 hk48 b3 hb3 bb hbb r3 hr3 b4 hb4 r hr
  subst hone
  exact own_retZ X16 hx Bd.notSynchronized Bd.returns (hb hby at_172) (by decide) (by decide) (by decide) e16 ⟨rfl, N16⟩
set_option maxRecDepth 65536 in
set_option maxHeartbeats 40000000 in
theorem comes_1 {Post : Tables → Env → Array Value → State → Outcome → State → Prop} (hpost : ∀ tb e args s v u, (limb_1_1.after args s (.returned v) u = true ∧ limb_1_2.after args s (.returned v) u = true ∧ True) → FrameEnd s (.returned v) u (Jvm.fieldLocs frame_1_writes args s ++ Jvm.arrayLocs frame_1_arrays args s ++ Jvm.staticLocs frame_1_statics s) 0 0 → Post tb e args s (.returned v) u) :
    ArmFor flags0 classFile x code maxLocals ret World_1 tables_1 room_1 Calls_1 rest_1 Pre_1 Post := by
  intro l hfl _ _ p e ha hc hk s m args below hf hA hF happ hP
  obtain ⟨hcalls, hrest, hpre⟩ := hP
  obtain ⟨-, -, -, hnamed, -, -, -, hat⟩ := (Spec.applies_iff hf).mp happ
  obtain ⟨hg, hn⟩ := and_e (Cond.before_iff.mp (show (Jvm.Cond.and given_1 narrow_1).before args s = true from hpre))
  obtain ⟨g1, g2⟩ := and_e hg
  obtain ⟨g3, g4⟩ := and_e g2
  obtain ⟨w0, w1, rfl⟩ : ∃ w0 w1 : Value, args = #[w0, w1] := by
    have hs : args.size = 2 := by simpa [Cond.value, given_1] using g1
    obtain ⟨L⟩ := args
    match L, hs with
    | [w0, w1], _ => exact ⟨w0, w1, rfl⟩
  have hw := fun d (hd : d ∈ tables_1) => atoms_spec (ws := Jvm.Cond.code x code maxLocals ret :: tables_1) hat d (List.mem_cons_of_mem _ hd)
  have hfit : Fit s := fun {y c} hc i hi => by
    obtain ⟨ha, rfl⟩ := Array.getElem?_eq_some_iff.mp hc
    have q := List.all_eq_true.mp ((Array.all_eq_true_iff_forall_mem.mp hF) _ (Array.getElem_mem ha)) i (List.mem_range.mpr hi)
    simpa [Array.getElem?_eq_getElem hi] using q
  obtain ⟨i0, ei0⟩ := is_v g3
  obtain rfl : w0 = (.int i0) := Option.some.inj ei0
  obtain ⟨i1, ei1⟩ := is_v g4
  obtain rfl : w1 = (.int i1) := Option.some.inj ei1
  obtain ⟨n, o, h1, h2, h3, _, L, rfl, ⟨rfl, N⟩, hq⟩ := own_rmlaw l s _ hw i0 i1 s.heap s.heap.size (Nat.le_refl _) p e ha hc hk s m _ below hf ((Spec.applies_iff_loose hf).mp happ).1 ⟨rfl, State.Warmed39.refl s, rfl⟩ trivial
  refine ⟨n, _, h1, h2, h3, hpost _ _ _ _ _ _ ⟨Cond.after_iff.mpr rfl, Cond.after_iff.mpr (eq_i res_at (Term.int_eval (1)) rfl), trivial⟩ ⟨hq.1, hq.2.1, (hq.2.2.sift fun y hy => Or.inr (N y hy)).mono (by decide) (by decide)⟩⟩
theorem main_1_1 : Claimed_1_1 := comes_1 fun _ _ _ _ _ _ h hF => ⟨h.1, hF⟩
theorem main_1_2 : Claimed_1_2 := comes_1 fun _ _ _ _ _ _ h hF => ⟨h.2.1, hF⟩
end Jvm.Pilot.@@N@@
namespace Jvm.Pilot.@@N@@
open Jvm Jvm.ClassFile Sem Op Lib Jvm.Free Jvm.Stand Jvm.Pilot.@@N@@.Jvm.D
/-! MADE BY PROGRAM (witnessworld.py) out of the Statement's table words and the real class files: 10 classes; the members and pool entries that the words name. The judged class is class 1, her method 1. -/
namespace start1
open Jvm.ClassFile
def u (s : String) : CpInfo := .utf8 (stringToUtf16 s)
/-- a pool by its gaps: so many unusable entries, then the entry; so many at the end -/
def gap : Nat → List CpInfo → List CpInfo
  | 0, r => r
  | n + 1, r => .unusable :: gap n r
def poolList (es : List (Nat × CpInfo)) (last : Nat) : List CpInfo := es.foldr (fun e r => gap e.1 (e.2 :: r)) (gap last [])
def pool (es : List (Nat × CpInfo)) (last : Nat) : Array CpInfo := ⟨poolList es last⟩
def fileOf (pool : Array CpInfo) (this : Nat) (attrs : Array Attribute := #[]) (ms : Array MethodInfo := #[]) (fl : Nat := 33) (sup : Nat := 0) (ifs : Array Nat := #[]) (fds : Array FieldInfo := #[]) : ClassFile where
  minorVersion := 0
  majorVersion := 65
  constantPool := pool
  accessFlags := fl
  thisClass := this
  superClass := sup
  interfaces := ifs
  fields := fds
  methods := ms
  attributes := attrs
def plain (name : String) (sup : Option ClassId) : Class where
  name := name
  kind := .ordinary
  loader := none
  accessFlags := 33
  super := sup
  interfaces := #[]
  cf := none
  fields := #[]
  methods := #[]
  instanceTypes := #[]
  staticTypes := #[]
  resolved := #[]
  callSites := []
  init := .initialized
  statics := none
  mirror := none

def pool0 : Array CpInfo := pool [(5, u "<init>"), (0, u "()V"), (1, .class_ 10), (1, u "java/lang/Object")] 113

def k0m0 : Method := { name := "<init>", desc := "()V", sig := { parameters := [], returnType := none }, accessFlags := 1, code := none }
/-- java/lang/Object -/
def k0 : Class := { plain "java/lang/Object" none with
  accessFlags := 33
  interfaces := #[]
  cf := some (fileOf pool0 8 #[] #[{ accessFlags := 1, nameIndex := 5, descriptorIndex := 6, attributes := #[] }] 33 0 #[] #[])
  fields := #[]
  methods := #[k0m0]
  instanceTypes := #[]
  staticTypes := #[]
  resolved := Array.replicate 124 none
  statics := none }

def pool1 : Array CpInfo := pool [(2, .class_ 4), (1, u "java/lang/Object"), (0, u "<init>"), (0, u "()V"), (0, .methodref 8 9), (0, .class_ 10), (0, .nameAndType 11 12), (0, u "com/example/cytowire/cytowire/astm/Frame"), (0, u "number"), (0, u "(I)I"), (0, .class_ 14), (0, u "com/example/cytowire/cytowire/astm/FrameNumberPinLaw"), (2, u "law"), (0, u "(II)Z")] 3

def k1m0 : Method := { name := "<init>", desc := "()V", sig := { parameters := [], returnType := none }, accessFlags := 2, code := none }
def k1c1 : Code := { maxStack := 3, maxLocals := 10, code := code, exceptionTable := #[], attributes := #[] }
def k1m1 : Method := { name := "law", desc := "(II)Z", sig := { parameters := [.int, .int], returnType := some .boolean }, accessFlags := 9, code := some k1c1 }
/-- com/example/cytowire/cytowire/astm/FrameNumberPinLaw -/
def k1 : Class := { plain "com/example/cytowire/cytowire/astm/FrameNumberPinLaw" (some 0) with
  accessFlags := 49
  interfaces := #[]
  cf := some (fileOf pool1 13 #[] #[{ accessFlags := 2, nameIndex := 5, descriptorIndex := 6, attributes := #[] }, { accessFlags := 9, nameIndex := 17, descriptorIndex := 18, attributes := #[] }] 49 2 #[] #[])
  fields := #[]
  methods := #[k1m0, k1m1]
  instanceTypes := #[]
  staticTypes := #[]
  resolved := Array.replicate 22 none
  statics := none }

def pool2 : Array CpInfo := pool [(1, .class_ 2), (0, u "com/example/cytowire/cytowire/astm/LineEvent"), (0, .class_ 4), (0, u "java/lang/Object"), (3, .class_ 9), (0, u "com/example/cytowire/cytowire/astm/LineEvent$Control")] 5

/-- com/example/cytowire/cytowire/astm/LineEvent -/
def k2 : Class := { plain "com/example/cytowire/cytowire/astm/LineEvent" (some 0) with
  accessFlags := 1537
  interfaces := #[]
  cf := some (fileOf pool2 1 #[.nestMembers #[8]] #[] 1537 3 #[] #[])
  fields := #[]
  methods := #[]
  instanceTypes := #[]
  staticTypes := #[]
  resolved := Array.replicate 15 none
  statics := none }

def pool3 : Array CpInfo := pool [(2, .class_ 4), (1, u "java/lang/Object"), (3, .class_ 10), (1, u "com/example/cytowire/cytowire/astm/Frame"), (0, u "number"), (0, u "I"), (2, u "text"), (0, u "[B"), (2, u "endsRecord"), (0, u "Z"), (2, u "defect"), (0, u "Ljava/lang/String;"), (2, u "outOfRoom"), (54, .class_ 83), (0, u "com/example/cytowire/cytowire/astm/LineEvent"), (0, u "NO_NUMBER"), (2, u "FIRST_NUMBER"), (1, u "NUMBERS"), (7, u "(I)I")] 28

def k3c0 : Code := { maxStack := 2, maxLocals := 1, code := prog_14_method_3_code, exceptionTable := #[], attributes := #[] }
def k3m0 : Method := { name := "number", desc := "(I)I", sig := { parameters := [.int], returnType := some .int }, accessFlags := 8, code := some k3c0 }
/-- com/example/cytowire/cytowire/astm/Frame -/
def k3 : Class := { plain "com/example/cytowire/cytowire/astm/Frame" (some 0) with
  accessFlags := 49
  interfaces := #[2]
  cf := some (fileOf pool3 8 #[] #[{ accessFlags := 8, nameIndex := 11, descriptorIndex := 97, attributes := #[] }] 49 2 #[82] #[{ accessFlags := 25, nameIndex := 84, descriptorIndex := 12, attributes := #[] }, { accessFlags := 24, nameIndex := 87, descriptorIndex := 12, attributes := #[] }, { accessFlags := 26, nameIndex := 89, descriptorIndex := 12, attributes := #[] }, { accessFlags := 18, nameIndex := 11, descriptorIndex := 12, attributes := #[] }, { accessFlags := 18, nameIndex := 15, descriptorIndex := 16, attributes := #[] }, { accessFlags := 18, nameIndex := 19, descriptorIndex := 20, attributes := #[] }, { accessFlags := 18, nameIndex := 23, descriptorIndex := 24, attributes := #[] }, { accessFlags := 18, nameIndex := 27, descriptorIndex := 20, attributes := #[] }])
  fields := #[{ name := "NO_NUMBER", type := .int, accessFlags := 25, slot := 0, constantValue := 0 }, { name := "FIRST_NUMBER", type := .int, accessFlags := 24, slot := 1, constantValue := 0 }, { name := "NUMBERS", type := .int, accessFlags := 26, slot := 2, constantValue := 0 }, { name := "number", type := .int, accessFlags := 18, slot := 0, constantValue := 0 }, { name := "text", type := (.array .byte), accessFlags := 18, slot := 1, constantValue := 0 }, { name := "endsRecord", type := .boolean, accessFlags := 18, slot := 2, constantValue := 0 }, { name := "defect", type := (.object "java/lang/String"), accessFlags := 18, slot := 3, constantValue := 0 }, { name := "outOfRoom", type := .boolean, accessFlags := 18, slot := 4, constantValue := 0 }]
  methods := #[k3m0]
  instanceTypes := #[.int, (.array .byte), .boolean, (.object "java/lang/String"), .boolean]
  staticTypes := #[.int, .int, .int]
  resolved := Array.replicate 126 none
  statics := none }

def pool4 : Array CpInfo := pool [(1, u "java/lang/Cloneable"), (0, .class_ 1), (0, u "java/lang/Object"), (0, .class_ 3)] 3

/-- java/lang/Cloneable -/
def k4 : Class := { plain "java/lang/Cloneable" (some 0) with
  accessFlags := 1537
  interfaces := #[]
  cf := some (fileOf pool4 2 #[] #[] 1537 4 #[] #[])
  fields := #[]
  methods := #[]
  instanceTypes := #[]
  staticTypes := #[]
  resolved := Array.replicate 8 none
  statics := none }

def pool5 : Array CpInfo := pool [(1, u "java/io/Serializable"), (0, .class_ 1), (0, u "java/lang/Object"), (0, .class_ 3)] 3

/-- java/io/Serializable -/
def k5 : Class := { plain "java/io/Serializable" (some 0) with
  accessFlags := 1537
  interfaces := #[]
  cf := some (fileOf pool5 2 #[] #[] 1537 4 #[] #[])
  fields := #[]
  methods := #[]
  instanceTypes := #[]
  staticTypes := #[]
  resolved := Array.replicate 8 none
  statics := none }

/-- the primitive byte -/
def k6 : Class := { plain "byte" none with kind := .primitive 'B', accessFlags := 0x411 }
/-- [B -/
def k7 : Class := { plain "[B" (some 0) with kind := .array 6 .byte, interfaces := #[4, 5], accessFlags := 1041 }

/-- the primitive int -/
def k8 : Class := { plain "int" none with kind := .primitive 'I', accessFlags := 0x411 }
/-- [I -/
def k9 : Class := { plain "[I" (some 0) with kind := .array 8 .int, interfaces := #[4, 5], accessFlags := 1041 }

def heap : Heap := #[]
def classes : Array Class := #[k0, k1, k2, k3, k4, k5, k6, k7, k8, k9]
def interned : List (Array UInt16 × Addr) := []
def slotsUsed : Nat := 0
def theMethod : MethodId := ⟨1, 1⟩
def args0 : Array Value := #[.int 1, .int 1]
def aboutOver (below : List Frame) : State where
  vm := { classes := classes, interned := interned.toArray }
  heap := heap
  slotsUsed := slotsUsed
  threads := #[{ frames := .invoking theMethod args0 :: below }]
def below0 : List Frame := [.native { method := ⟨0, 0⟩, args := #[] }]
def about1 : State := aboutOver below0
def p0 : Program := .bare "" "" ""
def e0 : Env := launch0.env 0 0 0
theorem w_frames : about1.frames = Frame.invoking theMethod args0 :: below0 := rfl
set_option maxRecDepth 65536 in
theorem w_args : argsFit about1.vm theMethod args0 = true := by decide +kernel
set_option maxRecDepth 65536 in
theorem w_heap : heapFits about1 = true := by decide +kernel
set_option maxRecDepth 65536 in
theorem w_runnable : about1.curStatus? = some .runnable := by decide +kernel
set_option maxRecDepth 65536 in
theorem w_alone : about1.alone = true := by decide +kernel
set_option maxRecDepth 65536 in
theorem w_named : about1.methodNamed? x = some theMethod := by decide +kernel
set_option maxRecDepth 65536 in
theorem w_hears : about1.hears theMethod below0 = true := by decide +kernel
set_option maxRecDepth 65536 in
theorem w_ripe : about1.ripe theMethod args0 below0 = true := by decide +kernel
theorem w_running : about1.status = .running := rfl
set_option maxRecDepth 65536 in
theorem w_room : about1.hasRoom e0.platform room_1 = true :=
  launch0.hasRoom_least _ room_1 (by decide +kernel) (by decide +kernel) (by decide +kernel) (by decide +kernel) (by decide +kernel) (by decide +kernel)
theorem allAtoms_all (ts : List Jvm.Cond) (a : Array Jvm.Value) (st : Jvm.State) : (allAtoms ts).before a st = ts.all (fun c => c.before a st) := by
  induction ts with
  | nil => rfl
  | cons c t ih =>
    show (Jvm.Cond.and c (allAtoms t)).before a st = _
    rw [Jvm.Cond.before_and, ih, List.all_cons]
def words1 : List Jvm.Cond := Jvm.Cond.code x code maxLocals ret :: tables_1
/-- a 'code' word, met by the world's own term for the bytes: nothing is compared byte by byte -/
theorem code_word {y : MethodName} {bytes : ByteArray} {mx : Nat} {rt : Option FieldType} {a : Array Value} {s : State} {m : MethodId} {meth : Method} {c : Code} (h1 : s.methodNamed? y = some m) (h2 : s.vm.method? m = some meth) (h3 : meth.code = some c) (h4 : c.code = bytes)
    (h5 : (c.maxLocals == mx && c.exceptionTable.isEmpty && decide (c.maxStack ≤ mostOperands) && decide (meth.sig.returnType = rt) && !meth.locks && decide (parseMethodDescriptor y.desc = some meth.sig)) = true) : (Jvm.Cond.code y bytes mx rt).before a s = true := by
  simp only [Bool.and_eq_true, beq_iff_eq, Bool.not_eq_true', decide_eq_true_eq] at h5
  obtain ⟨⟨⟨⟨⟨g1, g2⟩, g3⟩, g4⟩, g5⟩, g6⟩ := h5
  simp [Cond.before, Cond.holds, Cond.value, h1, h2, h3, h4, g1, g2, g3, g4, g5, g6]
def isCode : Jvm.Cond → Bool
  | .code _ _ _ _ => true
  | _ => false
theorem all_split {L : List Jvm.Cond} {P : Jvm.Cond → Bool} (h1 : L.all (fun c => isCode c || P c) = true) (h2 : ∀ c ∈ L.filter isCode, P c = true) : L.all P = true := by
  refine List.all_eq_true.mpr fun c hc => ?_
  have h := List.all_eq_true.mp h1 c hc
  rcases Bool.eq_false_or_eq_true (isCode c) with hi | hi
  · exact h2 c (List.mem_filter.mpr ⟨hc, hi⟩)
  · simpa [hi] using h
set_option maxRecDepth 65536 in
theorem w_c0 : (Jvm.Cond.code x code maxLocals ret).before args0 about1 = true := code_word (m := ⟨1, 1⟩) (meth := k1m1) (c := k1c1) (by decide +kernel) rfl rfl rfl (by decide +kernel)
set_option maxRecDepth 65536 in
theorem w_c1 : (Jvm.Cond.code ({ cls := "com/example/cytowire/cytowire/astm/Frame", name := "number", desc := "(I)I" } : Jvm.MethodName) prog_14_method_3_code (1 : Nat) (Option.some Jvm.ClassFile.FieldType.int)).before args0 about1 = true := code_word (m := ⟨3, 0⟩) (meth := k3m0) (c := k3c0) (by decide +kernel) rfl rfl rfl (by decide +kernel)
def codes1 : List Jvm.Cond := [Jvm.Cond.code x code maxLocals ret, Jvm.Cond.code ({ cls := "com/example/cytowire/cytowire/astm/Frame", name := "number", desc := "(I)I" } : Jvm.MethodName) prog_14_method_3_code (1 : Nat) (Option.some Jvm.ClassFile.FieldType.int)]
set_option maxRecDepth 65536 in
theorem codes_eq : words1.filter isCode = codes1 := rfl
theorem w_codes : ∀ c ∈ words1.filter isCode, c.before args0 about1 = true := by
  rw [codes_eq]
  intro c hc
  simp only [codes1, List.mem_cons, List.not_mem_nil, or_false] at hc
  rcases hc with rfl | rfl
  · exact w_c0
  · exact w_c1
set_option maxRecDepth 65536 in
theorem w_t1 : words1.all (fun c => isCode c || c.before args0 about1) = true := by decide +kernel
theorem w_tables : (allAtoms (Jvm.Cond.code x code maxLocals ret :: tables_1)).before args0 about1 = true := by
  rw [allAtoms_all]
  show words1.all (fun c => c.before args0 about1) = true
  refine all_split ?_ w_codes
  rw [w_t1]
set_option maxRecDepth 65536 in
theorem w_case : (Jvm.Cond.and given_1 narrow_1).before args0 about1 = true := by decide +kernel
theorem w_applies : (headSpec (Jvm.Cond.code x code maxLocals ret :: tables_1) room_1).applies x e0.platform about1 = true :=
  (Spec.applies_iff w_frames).mpr ⟨w_running, w_runnable, w_alone, w_named, w_hears, w_ripe, w_room, w_tables⟩
theorem atStart : AtStart classFile x code maxLocals ret World_1 tables_1 room_1 Calls_1 rest_1 Pre_1 launch0 p0 e0 about1 theMethod args0 below0 :=
  ⟨lists_1, trivial, launch0.admits_env _ _ _, launch0.least_env, fairChoices_fair.cas, fairChoices_fair.clock, w_frames, w_args, w_heap, w_applies, trivial, trivial, w_case⟩
end start1
theorem witness_1 : WitnessClaimed_1 := ⟨start1.p0, start1.e0, start1.about1, start1.theMethod, start1.args0, start1.below0, start1.atStart⟩
end Jvm.Pilot.@@N@@
