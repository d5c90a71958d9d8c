import JvmDerived
import JvmDerived.Pilot.@@N@@Statement
import JvmDerived.Pilot.@@N@@Code
set_option linter.unusedVariables false
set_option linter.unusedSimpArgs false
namespace Jvm.RoadKit
open Sem ClassFile Op Lib Jvm.Stand Jvm.Free Jvm.LawKit
section Own
variable {p : Program} {l : Launch} {e : Env} {R : Room} {s : State} {m : MethodId} {args : Array Value} {below : List Frame} {meth : Method} {c : Code} {T T' : State} {locs : List Loc} {cells slots : Nat} {Z : State} {a0 : Array Value} {h h' : Heap}
abbrev own_lv (x : Int64) : Slot := .val (.long x)
abbrev own_S (p : Program) (e : Env) (below : List Frame) (T : State) (m : MethodId) (pc : Nat) (L : Array Slot) (S : List Value) (t : State) : Prop := Steps p.tables e below (T.setTop (mkF m pc L S)) t
/-- in one state, from the second frame to the first -/
abbrev own_V (p : Program) (e : Env) (below : List Frame) (T : State) (f' f : JFrame) : Prop := ∀ t, Steps p.tables e below (T.setTop f') t → Steps p.tables e below (T.setTop f) t
/-- from this frame on the run comes to an end that G says -/
def own_Go (p : Program) (e : Env) (below : List Frame) (G : State → Outcome → Prop) (T : State) (f : JFrame) : Prop :=
  ∃ t o, Steps p.tables e below (T.setTop f) t ∧ G t o
theorem own_st {G : State → Outcome → Prop} {f f' : JFrame} (st : ∀ t, Steps p.tables e below (T'.setTop f') t → Steps p.tables e below (T.setTop f) t) (k : own_Go p e below G T' f') : own_Go p e below G T f := by
  obtain ⟨t, o, h1, h2⟩ := k
  exact ⟨t, o, st t h1, h2⟩
/-- from this frame on the run comes to a state and a frame that P says -/
def own_Pk (p : Program) (e : Env) (below : List Frame) (P : State → JFrame → Prop) (T : State) (f : JFrame) : Prop :=
  ∃ T' f', P T' f' ∧ ∀ t, Steps p.tables e below (T'.setTop f') t → Steps p.tables e below (T.setTop f) t
theorem own_sp {P : State → JFrame → Prop} {f f' : JFrame} (st : ∀ t, Steps p.tables e below (T'.setTop f') t → Steps p.tables e below (T.setTop f) t) (k : own_Pk p e below P T' f') : own_Pk p e below P T f := by
  obtain ⟨T2, f2, h1, h2⟩ := k
  exact ⟨T2, f2, h1, fun t q => st t (h2 t q)⟩
theorem own_pm {P P' : State → JFrame → Prop} {f : JFrame} (k : own_Pk p e below P T f) (q : ∀ T' f', P T' f' → P' T' f') : own_Pk p e below P' T f := by
  obtain ⟨T2, f2, h1, h2⟩ := k
  exact ⟨T2, f2, q _ _ h1, h2⟩
/-- it returned, Q says what, and the frame is kept -/
def own_End (s : State) (below : List Frame) (Q : Option Value → Heap → List Loc → Prop) (C S : Nat) : State → Outcome → Prop := fun t o =>
  t.status = .running ∧ Ended t below o ∧ ∃ v L, o = .returned v ∧ Q v t.heap L ∧ FrameEnd s o t L C S
theorem own_body {y : MethodName} {bytes : ByteArray} {ml : Nat} {rt : Option FieldType} {rm : Room} {as' : Array Value} {h0 : Heap} {Q : Option Value → Heap → List Loc → Prop} {C S : Nat} {ws : List Jvm.Cond} (hp : plainFor y = true)
    (H : ∀ p e s m below meth c s₁, BodyLoose p l y (head1 (Jvm.Cond.code y bytes ml rt :: ws) rm) bytes ml rt e s m as' below meth c s₁ → c.maxLocals = ml → Z.Warmed39 s.vm → s₁.heap = h0 → own_Go p e below (own_End s below Q C S) s₁ (entryFrame m as' ml)) :
    MetFree l y (head1 (Jvm.Cond.code y bytes ml rt :: ws) rm) (fun a U => a = as' ∧ Z.Warmed39 U.vm ∧ U.heap = h0) (fun _ _ _ _ _ => True) (fun _ U o U' => ∃ v L, o = .returned v ∧ Q v U'.heap L ∧ FrameEnd U o U' L C S) := by
  refine MetFree.of_bodySF hp hisR ?_
  intro p e s m args below meth c s₁ Bd hml hP hK
  obtain ⟨rfl, hZ, hh⟩ := hP
  have e0 : s₁.heap = h0 := by rw [← hh, Bd.state]; rfl
  obtain ⟨t, o, h1, h2, h3, h4⟩ := H p e s m below meth c s₁ Bd hml hZ e0
  exact ⟨t, o, h1, h2, h3, h4⟩
/-- a callee's contract -/
abbrev own_Ct (l : Launch) (Z : State) (y : MethodName) (bytes : ByteArray) (ml : Nat) (rt : Option FieldType) (rm : Room) (as' : Array Value) (h0 : Heap) (Q : Option Value → Heap → List Loc → Prop) : Prop :=
  MetFree l y (head1 [Jvm.Cond.code y bytes ml rt] rm) (fun a U => a = as' ∧ Z.Warmed39 U.vm ∧ U.heap = h0) (fun _ _ _ _ _ => True) (fun _ U o U' => ∃ v L, o = .returned v ∧ Q v U'.heap L ∧ FrameEnd U o U' L rm.cells rm.slots)
section Ret
variable {Q : Option Value → Heap → List Loc → Prop} {C S : Nat}
theorem own_out {v : Option Value} {f : JFrame} (X : Stand p l e R s m args below meth c T locs cells slots) (hv : meth.sig.returnType = none → v = none) (hlocks : meth.locks = false) (hC : cells ≤ C) (hS : slots ≤ S) (eT : T.heap = h) (hq : Q v h locs)
    (go : ∀ fs, (∀ (f : JFrame) (acts : List Action), f.method = m → f.locked = none → f.entered = [] → (doReturn e (T.setTop f) acts v).1 = T.setFrames fs) → Steps p.tables e below (T.setTop f) (T.setFrames fs)) :
    own_Go p e below (own_End s below Q C S) T f := by
  obtain ⟨fs, hr, hrun, hended, hW, hsame⟩ := X.leave (v := v) hv hlocks
  refine ⟨_, _, go fs hr, hrun, hended, _, _, rfl, ?_, ⟨_, rfl⟩, hW, hsame.mono hC hS⟩
  show Q v T.heap locs
  rw [eT]; exact hq
theorem own_retI (X : Stand p l e R s m args below meth c T locs cells slots) (hx : p.tables.exec = Jvm.exec) (hlocks : meth.locks = false) (hret : meth.sig.returnType = some .int) {pc : Nat} {Ls : Array Slot} {z : Int32} {rest : List Value} (hd : decode c.code pc = .ok (.ireturn, 1)) (hC : cells ≤ C) (hS : slots ≤ S) (eT : T.heap = h) (hq : Q (some (.int z)) h locs) :
    own_Go p e below (own_End s below Q C S) T (mkF m pc Ls (.int z :: rest)) :=
  own_out X (fun q => by rw [hret] at q; cases q) hlocks hC hS eT hq fun fs hr => retOut X hx hret rfl (Or.inl ⟨rfl, Or.inl rfl, z, rfl⟩) hd hr
theorem own_retZ (X : Stand p l e R s m args below meth c T locs cells slots) (hx : p.tables.exec = Jvm.exec) (hlocks : meth.locks = false) (hret : meth.sig.returnType = some .boolean) {pc : Nat} {Ls : Array Slot} {z : Int32} {rest : List Value} (hd : decode c.code pc = .ok (.ireturn, 1)) (hz : z = 0 ∨ z = 1) (hC : cells ≤ C) (hS : slots ≤ S) (eT : T.heap = h) (hq : Q (some (.int z)) h locs) :
    own_Go p e below (own_End s below Q C S) T (mkF m pc Ls (.int z :: rest)) :=
  own_out X (fun q => by rw [hret] at q; cases q) hlocks hC hS eT hq fun fs hr => retN X hx hret (Or.inl rfl) hd (by
    have : nar .boolean z = z := by rcases hz with rfl | rfl <;> decide
    rw [this]; exact hr)
theorem own_retB (X : Stand p l e R s m args below meth c T locs cells slots) (hx : p.tables.exec = Jvm.exec) (hlocks : meth.locks = false) (hret : meth.sig.returnType = some .byte) {pc : Nat} {Ls : Array Slot} {z : Int32} {rest : List Value} (hd : decode c.code pc = .ok (.ireturn, 1)) (hz : nar .byte z = z) (hC : cells ≤ C) (hS : slots ≤ S) (eT : T.heap = h) (hq : Q (some (.int z)) h locs) :
    own_Go p e below (own_End s below Q C S) T (mkF m pc Ls (.int z :: rest)) :=
  own_out X (fun q => by rw [hret] at q; cases q) hlocks hC hS eT hq fun fs hr => retN X hx hret (Or.inr (Or.inl rfl)) hd (by rw [hz]; exact hr)
theorem own_retJ (X : Stand p l e R s m args below meth c T locs cells slots) (hx : p.tables.exec = Jvm.exec) (hlocks : meth.locks = false) (hret : meth.sig.returnType = some .long) {pc : Nat} {Ls : Array Slot} {z : Int64} {rest : List Value} (hd : decode c.code pc = .ok (.lreturn, 1)) (hC : cells ≤ C) (hS : slots ≤ S) (eT : T.heap = h) (hq : Q (some (.long z)) h locs) :
    own_Go p e below (own_End s below Q C S) T (mkF m pc Ls (.long z :: rest)) :=
  own_out X (fun q => by rw [hret] at q; cases q) hlocks hC hS eT hq fun fs hr => retOut X hx hret rfl (Or.inr (Or.inl ⟨rfl, rfl, z, rfl⟩)) hd hr
theorem own_retR {t : FieldType} {w : Value} (X : Stand p l e R s m args below meth c T locs cells slots) (hx : p.tables.exec = Jvm.exec) (hlocks : meth.locks = false) (hret : meth.sig.returnType = some t) (ht : t.isReference = true) (hw : w.isRef = true) {pc : Nat} {Ls : Array Slot} {rest : List Value} (hd : decode c.code pc = .ok (.areturn, 1)) (hC : cells ≤ C) (hS : slots ≤ S) (eT : T.heap = h) (hq : Q (some w) h locs) :
    own_Go p e below (own_End s below Q C S) T (mkF m pc Ls (w :: rest)) :=
  own_out X (fun q => by rw [hret] at q; cases q) hlocks hC hS eT hq fun fs hr => retOut X hx hret (by cases t <;> cases w <;> first | rfl | (cases ht; done) | (cases hw; done)) (Or.inr (Or.inr (Or.inr (Or.inr ⟨rfl, ht, hw⟩)))) hd hr
theorem own_retV (X : Stand p l e R s m args below meth c T locs cells slots) (hx : p.tables.exec = Jvm.exec) (hlocks : meth.locks = false) (hret : meth.sig.returnType = none) {pc : Nat} {Ls : Array Slot} (hd : decode c.code pc = .ok (.return_, 1)) (hC : cells ≤ C) (hS : slots ≤ S) (eT : T.heap = h) (hq : Q none h locs) :
    own_Go p e below (own_End s below Q C S) T (mkF m pc Ls []) :=
  own_out X (fun _ => rfl) hlocks hC hS eT hq fun fs hr => X.returnOut hx hret hd hr
end Ret
section Call
variable {own : String} {index : Nat} {y : MethodName} {bytes : ByteArray} {ml : Nat} {rt : Option FieldType} {rm : Room} {Q : Option Value → Heap → List Loc → Prop} {g : JFrame} {argsL rest : List Value} {W : Nat}
theorem own_callS (X : Stand p l e R s m args below meth c T locs cells slots) (hx : p.tables.exec = Jvm.exec) (hZ : Z.Warmed39 s.vm) (hown : s.vm.findClass own = some m.cls)
    (w1 : (Jvm.Cond.methodLink own index y).before a0 Z = true) (w2 : (Jvm.Cond.static y).before a0 Z = true) (w3 : (Jvm.Cond.initialized y.cls).before a0 Z = true) (w4 : (Jvm.Cond.code y bytes ml rt).before a0 Z = true)
    (hy : y.cls ≠ "java/lang/invoke/MethodHandle" ∧ y.cls ≠ "java/lang/invoke/VarHandle") (ct : own_Ct l Z y bytes ml rt rm argsL.toArray h Q) (eT : T.heap = h) (hg : g.method = m) (hsize : g.locals.size = c.maxLocals)
    (hlen : ∀ sig, parseMethodDescriptor y.desc = some sig → argsL.length = sig.parameters.length) (hstack : g.stack = argsL.reverse ++ rest) (hW : 2 * g.monitorRoom + (rest.map fun v => v.category).sum ≤ W) (hdg : decode c.code g.pc = .ok (.invokestatic index, 3))
    (hf : rm.frames + 1 ≤ R.frames) (hl : W + (ml + 11) + rm.locals ≤ R.locals) (hc : cells + rm.cells ≤ R.cells) (hs : slots + rm.slots ≤ R.slots) :
    ∃ v T' L, Stand p l e R s m args below meth c T' (locs ++ L) (cells + rm.cells) (slots + rm.slots) ∧ Q v T'.heap L ∧ ∀ target, Steps p.tables e below (T'.setTop { g with pc := g.pc + 3, stack := v.toList ++ rest }) target → Steps p.tables e below (T.setTop g) target := by
  obtain ⟨v, vm1, ⟨T1, L1, k1, n1⟩, -, X1, ⟨L, hQ, h1, h2, h3⟩, st⟩ := Jvm.LawKit.callS X hx hown (mvT hZ w1) (mvT hZ w2) (mvT hZ w3) (mvT hZ w4) hy (backOf (W := W) ct hZ w4 w3 hf hl) hg hsize hlen hstack hW hdg (fun _ _ => ⟨rfl, eT, hc, hs⟩)
  dsimp only [Pt.U, Pt.locs, Pt.cells, Pt.slots] at X1 h1 h2 h3 hQ st
  subst h1 h2 h3
  exact ⟨v, T1, L, X1, hQ, st⟩
theorem own_callI {a : Addr} (X : Stand p l e R s m args below meth c T locs cells slots) (hx : p.tables.exec = Jvm.exec) (hZ : Z.Warmed39 s.vm) (hown : s.vm.findClass own = some m.cls) (hy1 : y.name = "<init>")
    (w1 : (Jvm.Cond.methodLink own index y).before a0 Z = true) (w2 : (Jvm.Cond.instanceMethod y).before a0 Z = true) (w3 : (Jvm.Cond.initialized y.cls).before a0 Z = true) (w4 : (Jvm.Cond.code y bytes ml none).before a0 Z = true)
    (hy : y.cls ≠ "java/lang/invoke/MethodHandle" ∧ y.cls ≠ "java/lang/invoke/VarHandle") (ct : own_Ct l Z y bytes ml none rm (.ref a :: argsL).toArray h Q) (eT : T.heap = h) (hg : g.method = m) (hsize : g.locals.size = c.maxLocals)
    (hlen : ∀ sig, parseMethodDescriptor y.desc = some sig → argsL.length = sig.parameters.length) (hstack : g.stack = argsL.reverse ++ .ref a :: rest) (hW : 2 * g.monitorRoom + (rest.map fun v => v.category).sum ≤ W) (hdg : decode c.code g.pc = .ok (.invokespecial index, 3))
    (hf : rm.frames + 1 ≤ R.frames) (hl : W + (ml + 11) + rm.locals ≤ R.locals) (hc : cells + rm.cells ≤ R.cells) (hs : slots + rm.slots ≤ R.slots) :
    ∃ v T' L, Stand p l e R s m args below meth c T' (locs ++ L) (cells + rm.cells) (slots + rm.slots) ∧ Q v T'.heap L ∧ ∀ target, Steps p.tables e below (T'.setTop { g with pc := g.pc + 3, stack := v.toList ++ rest }) target → Steps p.tables e below (T.setTop g) target := by
  obtain ⟨v, vm1, ⟨T1, L1, k1, n1⟩, -, X1, ⟨L, hQ, h1, h2, h3⟩, st⟩ := X.specialBack hx hy1 hown (mvT hZ w1) (mvT hZ w2) (mvT hZ w4) hy (backOf (W := W) ct hZ w4 w3 hf hl) hg hsize (Steps.refl _) hlen hstack hW hdg (fun _ _ => ⟨rfl, eT, hc, hs⟩)
  dsimp only [Pt.U, Pt.locs, Pt.cells, Pt.slots] at X1 h1 h2 h3 hQ st
  subst h1 h2 h3
  exact ⟨v, T1, L, X1, hQ, fun t k => st.trans k⟩
theorem own_callV {a : Addr} {C : String} (X : Stand p l e R s m args below meth c T locs cells slots) (hx : p.tables.exec = Jvm.exec) (hZ : Z.Warmed39 s.vm) (hown : s.vm.findClass own = some m.cls) (E : Exa Z h a C) {y0 : MethodName}
    (w1 : (Jvm.Cond.methodLink own index y0).before a0 Z = true) (w2 : (Jvm.Cond.declares y0).before a0 Z = true) (w5 : (Jvm.Cond.selects C y0 y).before a0 Z = true) (nf : NotFace s y0) (w6 : (Jvm.Cond.instanceMethod y).before a0 Z = true) (w3 : (Jvm.Cond.initialized y.cls).before a0 Z = true) (w4 : (Jvm.Cond.code y bytes ml rt).before a0 Z = true)
    (hy : y0.cls ≠ "java/lang/invoke/MethodHandle" ∧ y0.cls ≠ "java/lang/invoke/VarHandle") (ct : own_Ct l Z y bytes ml rt rm (.ref a :: argsL).toArray h Q) (eT : T.heap = h) (hg : g.method = m) (hsize : g.locals.size = c.maxLocals)
    (hlen : ∀ sig, parseMethodDescriptor y0.desc = some sig → argsL.length = sig.parameters.length) (hstack : g.stack = argsL.reverse ++ .ref a :: rest) (hW : 2 * g.monitorRoom + (rest.map fun v => v.category).sum ≤ W) (hdg : decode c.code g.pc = .ok (.invokevirtual index, 3))
    (hf : rm.frames + 1 ≤ R.frames) (hl : W + (ml + 11) + rm.locals ≤ R.locals) (hc : cells + rm.cells ≤ R.cells) (hs : slots + rm.slots ≤ R.slots) :
    ∃ v T' L, Stand p l e R s m args below meth c T' (locs ++ L) (cells + rm.cells) (slots + rm.slots) ∧ Q v T'.heap L ∧ ∀ target, Steps p.tables e below (T'.setTop { g with pc := g.pc + 3, stack := v.toList ++ rest }) target → Steps p.tables e below (T.setTop g) target := by
  obtain ⟨cq, kq, qa, qb, qc⟩ := isOf hZ eT E
  obtain ⟨v, vm1, ⟨T1, L1, k1, n1⟩, -, X1, ⟨L, hQ, h1, h2, h3⟩, st⟩ := X.virtualBack hx (y := y0) (z := y) hown (mvT hZ w1) (mvT hZ w2) nf (mvT hZ w5) (mvT hZ w6) hy (backOf (W := W) ct hZ w4 w3 hf hl) qa qc hg hsize (Steps.refl _) hlen hstack hW hdg (fun _ _ => ⟨rfl, eT, hc, hs⟩)
  dsimp only [Pt.U, Pt.locs, Pt.cells, Pt.slots] at X1 h1 h2 h3 hQ st
  subst h1 h2 h3
  exact ⟨v, T1, L, X1, hQ, fun t k => st.trans k⟩
theorem own_callP {a : Addr} {C C0 : String} {x z : MethodName} (X : Stand p l e R s m args below meth c T locs cells slots) (hx : p.tables.exec = Jvm.exec) (hZ : Z.Warmed39 s.vm) (hown : s.vm.findClass own = some m.cls) (E : Exa Z h a C0) (hz : z.cls = y.cls)
    (w1 : (Jvm.Cond.methodLink own index y).before a0 Z = true) (w2 : (Jvm.Cond.instanceMethod y).before a0 Z = true) (w5 : (Jvm.Cond.selects C x z).before a0 Z = true) (wp : (Jvm.Cond.privateMethod y).before a0 Z = true) (w3 : (Jvm.Cond.initialized y.cls).before a0 Z = true) (w4 : (Jvm.Cond.code y bytes ml rt).before a0 Z = true)
    (hy : y.cls ≠ "java/lang/invoke/MethodHandle" ∧ y.cls ≠ "java/lang/invoke/VarHandle") (ct : own_Ct l Z y bytes ml rt rm (.ref a :: argsL).toArray h Q) (eT : T.heap = h) (hg : g.method = m) (hsize : g.locals.size = c.maxLocals)
    (hlen : ∀ sig, parseMethodDescriptor y.desc = some sig → argsL.length = sig.parameters.length) (hstack : g.stack = argsL.reverse ++ .ref a :: rest) (hW : 2 * g.monitorRoom + (rest.map fun v => v.category).sum ≤ W) (hdg : decode c.code g.pc = .ok (.invokevirtual index, 3))
    (hf : rm.frames + 1 ≤ R.frames) (hl : W + (ml + 11) + rm.locals ≤ R.locals) (hc : cells + rm.cells ≤ R.cells) (hs : slots + rm.slots ≤ R.slots) :
    ∃ v T' L, Stand p l e R s m args below meth c T' (locs ++ L) (cells + rm.cells) (slots + rm.slots) ∧ Q v T'.heap L ∧ ∀ target, Steps p.tables e below (T'.setTop { g with pc := g.pc + 3, stack := v.toList ++ rest }) target → Steps p.tables e below (T.setTop g) target := by
  obtain ⟨cq, q1, q2⟩ := E.cell
  have hp : s.PrivateAt y := Cond.privateMethod_at (mvP hZ wp (args := #[]))
  have w5' : (Jvm.Cond.selects C x z).before args s = true := mvT hZ w5
  obtain ⟨c2, r2, m2, -, -, q3, -, kP, hkP, hkPi⟩ := Cond.selects_spec w5'
  have hcl : s.vm.findClass y.cls = some m2.cls := hz ▸ findClass_of_methodNamed q3
  have hsel : (Jvm.Cond.selects y.cls y y).before args s = true := selects_self_of_private hcl hkP hkPi hp (mvT hZ w2) hy
  obtain ⟨v, vm1, ⟨T1, L1, k1, n1⟩, -, X1, ⟨L, hQ, h1, h2, h3⟩, st⟩ := X.privateBack hx hown (mvT hZ w1) (mvT hZ w2) hsel hp (mvT hZ w4) hy (backOf (W := W) ct hZ w4 w3 hf hl) hg hsize (Steps.refl _) (a := a) (by rw [eT]; exact q1) q2 hlen hstack hW hdg (fun _ _ => ⟨rfl, eT, hc, hs⟩)
  dsimp only [Pt.U, Pt.locs, Pt.cells, Pt.slots] at X1 h1 h2 h3 hQ st
  subst h1 h2 h3
  exact ⟨v, T1, L, X1, hQ, fun t k => st.trans k⟩
theorem own_callF {a : Addr} {C : String} {count : Nat} (X : Stand p l e R s m args below meth c T locs cells slots) (hx : p.tables.exec = Jvm.exec) (hZ : Z.Warmed39 s.vm) (hown : s.vm.findClass own = some m.cls) (E : Exa Z h a C) {y0 : MethodName}
    (w1 : (Jvm.Cond.methodLink own index y0).before a0 Z = true) (w2 : (Jvm.Cond.declares y0).before a0 Z = true) (wf : (Jvm.Cond.interfaceMethod y0.cls y0.cls y0.name y0.desc).before args s = true) (w5 : (Jvm.Cond.selects C y0 y).before a0 Z = true) (w6 : (Jvm.Cond.instanceMethod y).before a0 Z = true) (wp : (Jvm.Cond.publicMethod y).before a0 Z = true) (wu : (Jvm.Cond.unhidden C y0.name y0.desc).before a0 Z = true) (wk : (Jvm.Cond.castable C y0.cls).before a0 Z = true) (w3 : (Jvm.Cond.initialized y.cls).before a0 Z = true) (w4 : (Jvm.Cond.code y bytes ml rt).before a0 Z = true)
    (hy : y0.cls ≠ "java/lang/invoke/MethodHandle" ∧ y0.cls ≠ "java/lang/invoke/VarHandle") (ct : own_Ct l Z y bytes ml rt rm (.ref a :: argsL).toArray h Q) (eT : T.heap = h) (hg : g.method = m) (hsize : g.locals.size = c.maxLocals)
    (hlen : ∀ sig, parseMethodDescriptor y0.desc = some sig → argsL.length = sig.parameters.length) (hstack : g.stack = argsL.reverse ++ .ref a :: rest) (hW : 2 * g.monitorRoom + (rest.map fun v => v.category).sum ≤ W) (hdg : decode c.code g.pc = .ok (.invokeinterface index count, 5))
    (hf : rm.frames + 1 ≤ R.frames) (hl : W + (ml + 11) + rm.locals ≤ R.locals) (hc : cells + rm.cells ≤ R.cells) (hs : slots + rm.slots ≤ R.slots) :
    ∃ v T' L, Stand p l e R s m args below meth c T' (locs ++ L) (cells + rm.cells) (slots + rm.slots) ∧ Q v T'.heap L ∧ ∀ target, Steps p.tables e below (T'.setTop { g with pc := g.pc + 5, stack := v.toList ++ rest }) target → Steps p.tables e below (T.setTop g) target := by
  obtain ⟨cq, kq, qa, qb, qc⟩ := isOf hZ eT E
  obtain ⟨v, vm1, ⟨T1, L1, k1, n1⟩, -, X1, ⟨L, hQ, h1, h2, h3⟩, st⟩ := X.interfaceBack hx (xi := y0) (y := y) hown (mvT hZ w1) (mvT hZ w2) wf (mvT hZ w5) (mvT hZ w6) (mvT hZ wp) (mvT hZ wu) (mvT hZ wk) hy (backOf (W := W) ct hZ w4 w3 hf hl) qa qb qc hg hsize (Steps.refl _) hlen hstack hW hdg (fun _ _ => ⟨rfl, eT, hc, hs⟩)
  dsimp only [Pt.U, Pt.locs, Pt.cells, Pt.slots] at X1 h1 h2 h3 hQ st
  subst h1 h2 h3
  exact ⟨v, T1, L, X1, hQ, fun t k => st.trans k⟩
end Call
/-- getfield by an entry that is resolved already -/
theorem own_getR {O n d : String} {a : Addr} {v : Value} (X : Stand p l e R s m args below meth c T locs cells slots) (hx : p.tables.exec = Jvm.exec) (hZ : Z.Warmed39 s.vm) {own : String} {index : Nat} (hown : s.vm.findClass own = some m.cls) (w : (Jvm.Cond.fieldRef own index O n d).before a0 Z = true) (eT : T.heap = h) (F : Fld Z h a O n d v)
    {g : JFrame} (hg : g.method = m) {rest : List Value} (hs : g.stack = .ref a :: rest) (hd : decode c.code g.pc = .ok (.getfield index, 3)) :
    ∀ t, Steps p.tables e below (T.setTop { g with pc := g.pc + 3, stack := v :: rest }) t → Steps p.tables e below (T.setTop g) t := by
  have hT : Z.Warmed39 T.vm := wtrans hZ X.warmed
  have w' := Cond.fieldRef_warmed39 hT w
  have hownT : (Z.setVm T.vm).vm.findClass own = some m.cls := by
    show T.vm.findClass own = _
    rw [X.warmed.alike.findClass]; exact hown
  obtain ⟨c1, k1, i1, f1, q1, q2⟩ := Cond.fieldRef_spec hownT w'
  obtain ⟨cell, cf, k, i, f, h1, h2, h3, h4, -, -, h7⟩ := F
  obtain ⟨k', hi, -⟩ := State.fieldFound?_setVm (s := Z) hT.alike h2
  cases q1.symm.trans hi
  exact fun t kt => (X.getfieldR hx hg q2 h3 hs (by rw [eT]; exact h1) h4 h7 hd (Steps.refl _)).trans kt
theorem own_Sta.keep {C n d : String} {v : Value} (S : Sta Z h C n d v) (K : Keep h h' []) : Sta Z h' C n d v := by
  obtain ⟨cf, i, k, f, st, cell, h1, h2, h3, h4, h5, h6, h7⟩ := S
  exact ⟨cf, i, k, f, st, cell, h1, h2, h3, h4, K.2.1 _ _ h5 nin0, h6, h7⟩
theorem own_imod (x y : Int32) : x - (x / y) * y = x % y := by
  apply Int32.toInt_inj.mp
  have h1 := rng32 (x % y)
  rw [Int32.toInt_sub, Int32.toInt_mul, Int32.toInt_div, Int.bmod_mul_bmod, Int.sub_bmod_bmod, Int.mul_comm (x.toInt.tdiv y.toInt), ← Int.tmod_def, ← Int32.toInt_mod]
  exact Int.bmod_eq_of_le_mul_two (by omega) (by omega)
theorem own_irem {T target : State} {g : JFrame} (h : At T m c below) (hx : p.tables.exec = Jvm.exec) (hg : g.method = m) {x y : Int32} {rest : List Value} (hd : decode c.code g.pc = .ok (.irem, 1)) (hs : g.stack = .int y :: .int x :: rest) (hy : y ≠ 0)
    (hr : Steps p.tables e below (T.setTop { g with pc := g.pc + 1, stack := .int (x % y) :: rest }) target) : Steps p.tables e below (T.setTop g) target := by
  refine XS.irem h hx hg hd hs hy ?_
  rw [own_imod x y]
  exact hr
section Cmp
theorem own_tltL {x y : Int64} (h : x < y) : ifCond.holds .lt (lcmpW x y) = true ∧ ifCond.holds .ge (lcmpW x y) = false := by
  rw [if0, if0]; exact ⟨(tlt ((lw_lt x y).mpr h)).1, (tlt ((lw_lt x y).mpr h)).2.1⟩
theorem own_fltL {x y : Int64} (h : ¬ x < y) : ifCond.holds .lt (lcmpW x y) = false ∧ ifCond.holds .ge (lcmpW x y) = true := by
  have q : ¬ lcmpW x y < 0 := fun q => h ((lw_lt x y).mp q)
  rw [if0, if0]; exact ⟨(flt q).1, (flt q).2.1⟩
theorem own_tgtL {x y : Int64} (h : y < x) : ifCond.holds .gt (lcmpW x y) = true ∧ ifCond.holds .le (lcmpW x y) = false := by
  rw [if0, if0]; exact ⟨(tlt ((lw_gt x y).mpr h)).2.2.1, (tlt ((lw_gt x y).mpr h)).2.2.2⟩
theorem own_fgtL {x y : Int64} (h : ¬ y < x) : ifCond.holds .gt (lcmpW x y) = false ∧ ifCond.holds .le (lcmpW x y) = true := by
  have q : ¬ 0 < lcmpW x y := fun q => h ((lw_gt x y).mp q)
  rw [if0, if0]; exact ⟨(flt q).2.2.1, (flt q).2.2.2⟩
theorem own_teqL {x y : Int64} (h : x = y) : ifCond.holds .eq (lcmpW x y) = true ∧ ifCond.holds .ne (lcmpW x y) = false := by
  rw [if0, if0]; exact ⟨(teq ((lw_eq x y).mpr h)).1, (teq ((lw_eq x y).mpr h)).2⟩
theorem own_feqL {x y : Int64} (h : ¬ x = y) : ifCond.holds .eq (lcmpW x y) = false ∧ ifCond.holds .ne (lcmpW x y) = true := by
  have q : ¬ lcmpW x y = 0 := fun q => h ((lw_eq x y).mp q)
  rw [if0, if0]; exact ⟨(feq q).1, (feq q).2⟩
end Cmp
/-- an array: its kind, its length, its values -/
def own_AV (Z : State) (h : Heap) (a : Addr) (ty : FieldType) (n : Nat) (f : Nat → Value) : Prop :=
  ∃ cl : Cell, Arr Z h a cl ty ∧ cl.slots.size = n ∧ (∀ i, i < n → cl.slots[i]? = some (f i)) ∧ ∀ i, i < n → fits ty (f i) = true
/-- an array of int-like values -/
def own_AI (Z : State) (h : Heap) (a : Addr) (ty : FieldType) (n : Nat) (f : Nat → Int32) : Prop := own_AV Z h a ty n (fun i => .int (f i))
def own_AL (Z : State) (h : Heap) (a : Addr) (n : Nat) (f : Nat → Int64) : Prop := own_AV Z h a .long n (fun i => .long (f i))
def own_updV (f : Nat → Value) (k : Nat) (v : Value) : Nat → Value := fun i => if i = k then v else f i
def own_upd (f : Nat → Int32) (k : Nat) (v : Int32) : Nat → Int32 := fun i => if i = k then v else f i
def own_updL (f : Nat → Int64) (k : Nat) (v : Int64) : Nat → Int64 := fun i => if i = k then v else f i
theorem own_idx {j : Int32} {k n : Nat} {cl : Cell} (S : cl.slots.size = n) (hj : j.toInt = (k : Int)) (hk : k < n) : ¬ (j < 0 ∨ cl.slots.size ≤ j.toNatClampNeg) ∧ j.toNatClampNeg = k := by
  have e0 : (0 : Int32).toInt = 0 := by decide
  have e1 : j.toNatClampNeg = k := by
    show j.toInt.toNat = k
    rw [hj]; rfl
  refine ⟨?_, e1⟩
  rintro (q | q)
  · rw [Int32.lt_iff_toInt_lt, e0, hj] at q; omega
  · rw [e1, S] at q; omega
section AV
variable {a b : Addr} {ty : FieldType} {n : Nat} {f : Nat → Value}
theorem own_AV.lt (A : own_AV Z h a ty n f) : a < h.size := by obtain ⟨cl, h1, -⟩ := A; exact h1.lt
theorem own_AV.ext (A : own_AV Z h a ty n f) (E : Ext h h') : own_AV Z h' a ty n f := by obtain ⟨cl, h1, r⟩ := A; exact ⟨cl, h1.ext E, r⟩
theorem own_AV.other (A : own_AV Z h b ty n f) {sl : Nat} {v : Value} (W : Wr h h' a sl v) (q : b ≠ a) : own_AV Z h' b ty n f := by obtain ⟨cl, h1, r⟩ := A; exact ⟨cl, h1.other W q, r⟩
theorem own_AV.keep {ws : List Addr} (A : own_AV Z h a ty n f) (K : Keep h h' ws) (q : a ∉ ws) : own_AV Z h' a ty n f := by obtain ⟨cl, h1, r⟩ := A; exact ⟨cl, ⟨K.2.1 a cl h1.1 q, h1.2⟩, r⟩
theorem own_AV.congr {g : Nat → Value} (A : own_AV Z h a ty n f) (q : ∀ i, i < n → f i = g i) : own_AV Z h a ty n g := by
  obtain ⟨cl, h1, h2, h3, h4⟩ := A
  exact ⟨cl, h1, h2, fun i hi => by rw [← q i hi]; exact h3 i hi, fun i hi => by rw [← q i hi]; exact h4 i hi⟩
theorem own_AV.new {cA : ClassId} {z : Int32} (A : Arr Z h a (newA cA ty z) ty) (hn : z.toNatClampNeg = n) (hf : fits ty (defaultValue ty) = true) : own_AV Z h a ty n (fun _ => defaultValue ty) :=
  ⟨_, A, by rw [sz_new, hn], fun i hi => by subst hn; simp only [newA, Array.getElem?_replicate, hi, if_true], fun _ _ => hf⟩
theorem own_AV.set {k : Nat} {v : Value} (F : own_AV Z h a ty n f) (hk : k < n) (hv : fits ty v = true) (W : Wr h h' a k v) : own_AV Z h' a ty n (own_updV f k v) := by
  obtain ⟨cl, A, S, H, G⟩ := F
  refine ⟨_, A.same W, by rw [sz_set, S], fun i hi => ?_, fun i hi => ?_⟩
  · by_cases q : i = k
    · subst q; simp [Cell.setSlot, own_updV, S, hk]
    · have q' : ¬ k = i := fun r => q r.symm
      simp only [Cell.setSlot, own_updV, q, if_false]
      rw [Array.getElem?_setIfInBounds_ne q']
      exact H i hi
  · by_cases q : i = k
    · simp only [own_updV, q, if_true]; exact hv
    · simp only [own_updV, q, if_false]; exact G i hi
end AV
theorem own_ninS {x y : Nat} {L : List Nat} (q : x ≠ y) (r : x ∉ L) : x ∉ y :: L := ninS q r
theorem own_AL.congr {a : Addr} {n : Nat} {f g : Nat → Int64} (A : own_AL Z h a n f) (q : ∀ i, i < n → f i = g i) : own_AL Z h a n g := own_AV.congr A fun i hi => congrArg Value.long (q i hi)
section AI
variable {a b : Addr} {ty : FieldType} {n : Nat} {f : Nat → Int32}
theorem own_AI.lt (A : own_AI Z h a ty n f) : a < h.size := own_AV.lt A
theorem own_AI.ext (A : own_AI Z h a ty n f) (E : Ext h h') : own_AI Z h' a ty n f := own_AV.ext A E
theorem own_AI.other (A : own_AI Z h b ty n f) {sl : Nat} {v : Value} (W : Wr h h' a sl v) (q : b ≠ a) : own_AI Z h' b ty n f := own_AV.other A W q
theorem own_AI.keep {ws : List Addr} (A : own_AI Z h a ty n f) (K : Keep h h' ws) (q : a ∉ ws) : own_AI Z h' a ty n f := own_AV.keep A K q
theorem own_AI.congr {g : Nat → Int32} (A : own_AI Z h a ty n f) (q : ∀ i, i < n → f i = g i) : own_AI Z h a ty n g := own_AV.congr A fun i hi => congrArg Value.int (q i hi)
theorem own_AI.set {k : Nat} {v : Int32} (F : own_AI Z h a ty n f) (hk : k < n) (hv : fits ty (.int v) = true) (W : Wr h h' a k (.int v)) : own_AI Z h' a ty n (own_upd f k v) :=
  (own_AV.set F hk hv W).congr fun i _ => by
    by_cases q : i = k <;> simp [own_updV, own_upd, q]
end AI
section Rd
variable {a : Addr} {n k : Nat} {j : Int32} {g : JFrame} {rest : List Value}
theorem own_rdI {f : Nat → Int32} (X : Stand p l e R s m args below meth c T locs cells slots) (hx : p.tables.exec = Jvm.exec) (hZ : Z.Warmed39 s.vm) (eT : T.heap = h) (A : own_AI Z h a .int n f) (hj : j.toInt = (k : Int)) (hk : k < n) (hg : g.method = m) (hs : g.stack = .int j :: .ref a :: rest) (hd : decode c.code g.pc = .ok (.iaload, 1)) :
    ∀ t, Steps p.tables e below (T.setTop { g with pc := g.pc + 1, stack := .int (f k) :: rest }) t → Steps p.tables e below (T.setTop g) t := by
  obtain ⟨cl, A1, S, H, -⟩ := A
  obtain ⟨hin, e1⟩ := own_idx S hj hk
  exact X.iaload hx (by rw [eT]; exact A1.1) (State.isArrayOf_alike hZ.alike A1.2.1) A1.2.2 hin (by rw [e1]; exact H k hk) hg hs hd
theorem own_rdB {f : Nat → Int32} (X : Stand p l e R s m args below meth c T locs cells slots) (hx : p.tables.exec = Jvm.exec) (hZ : Z.Warmed39 s.vm) (eT : T.heap = h) (A : own_AI Z h a .byte n f) (hj : j.toInt = (k : Int)) (hk : k < n) (hg : g.method = m) (hs : g.stack = .int j :: .ref a :: rest) (hd : decode c.code g.pc = .ok (.baload, 1)) :
    ∀ t, Steps p.tables e below (T.setTop { g with pc := g.pc + 1, stack := .int (f k) :: rest }) t → Steps p.tables e below (T.setTop g) t := by
  obtain ⟨cl, A1, S, H, -⟩ := A
  obtain ⟨hin, e1⟩ := own_idx S hj hk
  exact X.baloadBytes hx (by rw [eT]; exact A1.1) (State.isArrayOf_alike hZ.alike A1.2.1) A1.2.2 hin (by rw [e1]; exact H k hk) hg hs hd
theorem own_rdZ {f : Nat → Int32} (X : Stand p l e R s m args below meth c T locs cells slots) (hx : p.tables.exec = Jvm.exec) (hZ : Z.Warmed39 s.vm) (eT : T.heap = h) (A : own_AI Z h a .boolean n f) (hj : j.toInt = (k : Int)) (hk : k < n) (hg : g.method = m) (hs : g.stack = .int j :: .ref a :: rest) (hd : decode c.code g.pc = .ok (.baload, 1)) :
    ∀ t, Steps p.tables e below (T.setTop { g with pc := g.pc + 1, stack := .int (f k) :: rest }) t → Steps p.tables e below (T.setTop g) t := by
  obtain ⟨cl, A1, S, H, -⟩ := A
  obtain ⟨hin, e1⟩ := own_idx S hj hk
  exact X.baloadBooleans hx (by rw [eT]; exact A1.1) (State.isArrayOf_alike hZ.alike A1.2.1) A1.2.2 hin (by rw [e1]; exact H k hk) hg hs hd
theorem own_rdC {f : Nat → Int32} (X : Stand p l e R s m args below meth c T locs cells slots) (hx : p.tables.exec = Jvm.exec) (hZ : Z.Warmed39 s.vm) (eT : T.heap = h) (A : own_AI Z h a .char n f) (hj : j.toInt = (k : Int)) (hk : k < n) (hg : g.method = m) (hs : g.stack = .int j :: .ref a :: rest) (hd : decode c.code g.pc = .ok (.caload, 1)) :
    ∀ t, Steps p.tables e below (T.setTop { g with pc := g.pc + 1, stack := .int (f k) :: rest }) t → Steps p.tables e below (T.setTop g) t := by
  obtain ⟨cl, A1, S, H, -⟩ := A
  obtain ⟨hin, e1⟩ := own_idx S hj hk
  exact X.caload hx (by rw [eT]; exact A1.1) (State.isArrayOf_alike hZ.alike A1.2.1) A1.2.2 hin (by rw [e1]; exact H k hk) hg hs hd
theorem own_wrC {f : Nat → Int32} {x : Int32} (X : Stand p l e R s m args below meth c T locs cells slots) (hx : p.tables.exec = Jvm.exec) (hZ : Z.Warmed39 s.vm) (eT : T.heap = h) (A : own_AI Z h a .char n f) (hj : j.toInt = (k : Int)) (hk : k < n) (hg : g.method = m) (hs : g.stack = .int x :: .int j :: .ref a :: rest) (hd : decode c.code g.pc = .ok (.castore, 1)) :
    ∃ T' h', Stand p l e R s m args below meth c T' (locs ++ [⟨a, k⟩]) cells slots ∧ T'.heap = h' ∧ Wr h h' a k (.int (nar .char x)) ∧ own_AI Z h' a .char n (own_upd f k (nar .char x)) ∧ ∀ t, Steps p.tables e below (T'.setTop { g with pc := g.pc + 1, stack := rest }) t → Steps p.tables e below (T.setTop g) t := by
  have A0 := A
  obtain ⟨cl, A1, S, H, -⟩ := A
  obtain ⟨hin, e1⟩ := own_idx S hj hk
  obtain ⟨T', h', X', e', W', st⟩ := stC X hx hZ eT A1 hin hg hs hd
  rw [e1] at X' W'
  exact ⟨T', h', X', e', W', A0.set hk (fits_nar_char x) W', st⟩
theorem own_rdL {f : Nat → Int64} (X : Stand p l e R s m args below meth c T locs cells slots) (hx : p.tables.exec = Jvm.exec) (hZ : Z.Warmed39 s.vm) (eT : T.heap = h) (A : own_AL Z h a n f) (hj : j.toInt = (k : Int)) (hk : k < n) (hg : g.method = m) (hs : g.stack = .int j :: .ref a :: rest) (hd : decode c.code g.pc = .ok (.laload, 1)) :
    ∀ t, Steps p.tables e below (T.setTop { g with pc := g.pc + 1, stack := .long (f k) :: rest }) t → Steps p.tables e below (T.setTop g) t := by
  obtain ⟨cl, A1, S, H, -⟩ := A
  obtain ⟨hin, e1⟩ := own_idx S hj hk
  exact X.laload hx (by rw [eT]; exact A1.1) (State.isArrayOf_alike hZ.alike A1.2.1) A1.2.2 hin (by rw [e1]; exact H k hk) hg hs hd
theorem own_rdR {f : Nat → Value} {ty : FieldType} (X : Stand p l e R s m args below meth c T locs cells slots) (hx : p.tables.exec = Jvm.exec) (hZ : Z.Warmed39 s.vm) (eT : T.heap = h) (A : own_AV Z h a ty n f) (ht : ty.isReference = true) (hj : j.toInt = (k : Int)) (hk : k < n) (hg : g.method = m) (hs : g.stack = .int j :: .ref a :: rest) (hd : decode c.code g.pc = .ok (.aaload, 1)) :
    ∀ t, Steps p.tables e below (T.setTop { g with pc := g.pc + 1, stack := f k :: rest }) t → Steps p.tables e below (T.setTop g) t := by
  obtain ⟨cl, A1, S, H, -⟩ := A
  obtain ⟨hin, e1⟩ := own_idx S hj hk
  exact X.aaload hx (by rw [eT]; exact A1.1) (State.isArrayOf_alike hZ.alike A1.2.1) ht A1.2.2 hin (by rw [e1]; exact H k hk) hg hs hd
theorem own_len {f : Nat → Value} {ty : FieldType} {z : Int32} (X : Stand p l e R s m args below meth c T locs cells slots) (hx : p.tables.exec = Jvm.exec) (hZ : Z.Warmed39 s.vm) (eT : T.heap = h) (A : own_AV Z h a ty n f) (hz : n.toInt32 = z) (hg : g.method = m) (hs : g.stack = .ref a :: rest) (hd : decode c.code g.pc = .ok (.arraylength, 1)) :
    ∀ t, Steps p.tables e below (T.setTop { g with pc := g.pc + 1, stack := .int z :: rest }) t → Steps p.tables e below (T.setTop g) t := by
  obtain ⟨cl, A1, S, -, -⟩ := A
  subst hz S
  exact X.arraylength hx (by rw [eT]; exact A1.1) (State.isArrayOf_alike hZ.alike A1.2.1) hg hs hd
theorem own_wrI {f : Nat → Int32} {x : Int32} (X : Stand p l e R s m args below meth c T locs cells slots) (hx : p.tables.exec = Jvm.exec) (hZ : Z.Warmed39 s.vm) (eT : T.heap = h) (A : own_AI Z h a .int n f) (hj : j.toInt = (k : Int)) (hk : k < n) (hg : g.method = m) (hs : g.stack = .int x :: .int j :: .ref a :: rest) (hd : decode c.code g.pc = .ok (.iastore, 1)) :
    ∃ T' h', Stand p l e R s m args below meth c T' (locs ++ [⟨a, k⟩]) cells slots ∧ T'.heap = h' ∧ Wr h h' a k (.int x) ∧ own_AI Z h' a .int n (own_upd f k x) ∧ ∀ t, Steps p.tables e below (T'.setTop { g with pc := g.pc + 1, stack := rest }) t → Steps p.tables e below (T.setTop g) t := by
  have A0 := A
  obtain ⟨cl, A1, S, H, -⟩ := A
  obtain ⟨hin, e1⟩ := own_idx S hj hk
  obtain ⟨T', h', X', e', W', st⟩ := stI X hx hZ eT A1 hin hg hs hd
  rw [e1] at X' W'
  exact ⟨T', h', X', e', W', A0.set hk rfl W', st⟩
theorem own_wrB {f : Nat → Int32} {x : Int32} (X : Stand p l e R s m args below meth c T locs cells slots) (hx : p.tables.exec = Jvm.exec) (hZ : Z.Warmed39 s.vm) (eT : T.heap = h) (A : own_AI Z h a .byte n f) (hj : j.toInt = (k : Int)) (hk : k < n) (hg : g.method = m) (hs : g.stack = .int x :: .int j :: .ref a :: rest) (hd : decode c.code g.pc = .ok (.bastore, 1)) :
    ∃ T' h', Stand p l e R s m args below meth c T' (locs ++ [⟨a, k⟩]) cells slots ∧ T'.heap = h' ∧ Wr h h' a k (.int (nar .byte x)) ∧ own_AI Z h' a .byte n (own_upd f k (nar .byte x)) ∧ ∀ t, Steps p.tables e below (T'.setTop { g with pc := g.pc + 1, stack := rest }) t → Steps p.tables e below (T.setTop g) t := by
  have A0 := A
  obtain ⟨cl, A1, S, H, -⟩ := A
  obtain ⟨hin, e1⟩ := own_idx S hj hk
  obtain ⟨T', h', X', e', W', st⟩ := stB X hx hZ eT A1 hin hg hs hd
  rw [e1] at X' W'
  exact ⟨T', h', X', e', W', A0.set hk (fits_nar_byte x) W', st⟩
theorem own_wrZ {f : Nat → Int32} {x : Int32} (X : Stand p l e R s m args below meth c T locs cells slots) (hx : p.tables.exec = Jvm.exec) (hZ : Z.Warmed39 s.vm) (eT : T.heap = h) (A : own_AI Z h a .boolean n f) (hj : j.toInt = (k : Int)) (hk : k < n) (hg : g.method = m) (hs : g.stack = .int x :: .int j :: .ref a :: rest) (hd : decode c.code g.pc = .ok (.bastore, 1)) :
    ∃ T' h', Stand p l e R s m args below meth c T' (locs ++ [⟨a, k⟩]) cells slots ∧ T'.heap = h' ∧ Wr h h' a k (.int (nar .boolean x)) ∧ own_AI Z h' a .boolean n (own_upd f k (nar .boolean x)) ∧ ∀ t, Steps p.tables e below (T'.setTop { g with pc := g.pc + 1, stack := rest }) t → Steps p.tables e below (T.setTop g) t := by
  have A0 := A
  obtain ⟨cl, A1, S, H, -⟩ := A
  obtain ⟨hin, e1⟩ := own_idx S hj hk
  obtain ⟨T', h', X', e', W', st⟩ := stZ X hx hZ eT A1 hin hg hs hd
  rw [e1] at X' W'
  exact ⟨T', h', X', e', W', A0.set hk (fits_nar_bool x) W', st⟩
theorem own_wrL {f : Nat → Int64} {x : Int64} (X : Stand p l e R s m args below meth c T locs cells slots) (hx : p.tables.exec = Jvm.exec) (hZ : Z.Warmed39 s.vm) (eT : T.heap = h) (A : own_AL Z h a n f) (hj : j.toInt = (k : Int)) (hk : k < n) (hg : g.method = m) (hs : g.stack = .long x :: .int j :: .ref a :: rest) (hd : decode c.code g.pc = .ok (.lastore, 1)) :
    ∃ T' h', Stand p l e R s m args below meth c T' (locs ++ [⟨a, k⟩]) cells slots ∧ T'.heap = h' ∧ Wr h h' a k (.long x) ∧ own_AL Z h' a n (own_updL f k x) ∧ ∀ t, Steps p.tables e below (T'.setTop { g with pc := g.pc + 1, stack := rest }) t → Steps p.tables e below (T.setTop g) t := by
  have A0 := A
  obtain ⟨cl, A1, S, H, -⟩ := A
  obtain ⟨hin, e1⟩ := own_idx S hj hk
  obtain ⟨T', h', X', e', W', st⟩ := stJ X hx hZ eT A1 hin hg hs hd
  rw [e1] at X' W'
  exact ⟨T', h', X', e', W', (own_AV.set A0 hk rfl W').congr fun i _ => by by_cases q : i = k <;> simp [own_updV, own_updL, q], st⟩
theorem own_wrR {f : Nat → Value} {ty : FieldType} {v : Value} (X : Stand p l e R s m args below meth c T locs cells slots) (hx : p.tables.exec = Jvm.exec) (hZ : Z.Warmed39 s.vm) (eT : T.heap = h) (A : own_AV Z h a ty n f) (ht : ty.isReference = true) (hv : fits ty v = true) (F : Sto Z h a v) (hj : j.toInt = (k : Int)) (hk : k < n) (hg : g.method = m) (hs : g.stack = v :: .int j :: .ref a :: rest) (hd : decode c.code g.pc = .ok (.aastore, 1)) :
    ∃ T' h', Stand p l e R s m args below meth c T' (locs ++ [⟨a, k⟩]) cells slots ∧ T'.heap = h' ∧ Wr h h' a k v ∧ own_AV Z h' a ty n (own_updV f k v) ∧ ∀ t, Steps p.tables e below (T'.setTop { g with pc := g.pc + 1, stack := rest }) t → Steps p.tables e below (T.setTop g) t := by
  have A0 := A
  obtain ⟨cl, A1, S, H, -⟩ := A
  obtain ⟨hin, e1⟩ := own_idx S hj hk
  obtain ⟨T', h', X', e', W', st⟩ := stR X hx hZ eT A1 hin ht F hg hs hd
  rw [e1] at X' W'
  exact ⟨T', h', X', e', W', A0.set hk hv W', st⟩
/-- newarray: the fresh array at a = the heap's old size -/
theorem own_newP {aty : ArrayType} {z : Int32} (X : Stand p l e R s m args below meth c T locs cells slots) (hx : p.tables.exec = Jvm.exec) (hZ : Z.Warmed39 s.vm) (w : (Jvm.Cond.arrayClass (newarray.typeOf aty)).before a0 Z = true) (eT : T.heap = h) (hz : z.toInt = (n : Int)) (hf : fits (newarray.typeOf aty) (defaultValue (newarray.typeOf aty)) = true) (hg : g.method = m) (hs : g.stack = .int z :: rest) (hd : decode c.code g.pc = .ok (.newarray aty, 2)) {cap : Nat} (hcap : n ≤ cap) (hb : cap * 8 ≤ 536870912) (hc : cells + 1 ≤ R.cells) (hl : slots + cap ≤ R.slots) :
    ∃ T' h' a, a = h.size ∧ Stand p l e R s m args below meth c T' locs (cells + 1) (slots + cap) ∧ T'.heap = h' ∧ Ext h h' ∧ own_AV Z h' a (newarray.typeOf aty) n (fun _ => defaultValue (newarray.typeOf aty)) ∧ ∀ t, Steps p.tables e below (T'.setTop { g with pc := g.pc + 2, stack := .ref a :: rest }) t → Steps p.tables e below (T.setTop g) t := by
  have e0 : (0 : Int32).toInt = 0 := by decide
  have e1 : z.toNatClampNeg = n := by show z.toInt.toNat = n; rw [hz]; rfl
  have hn : ¬ z < 0 := by rw [Int32.lt_iff_toInt_lt, e0, hz]; omega
  obtain ⟨T', h', cA, X', e', E', A', st⟩ := newP X hx hZ w eT hg hd hs hn (by rw [e1]; exact hcap) hb hc hl
  exact ⟨T', h', _, rfl, X', e', E', own_AV.new A' e1 hf, st⟩
/-- newarray: the fresh array, its class besides -/
theorem own_newPE {aty : ArrayType} {z : Int32} (X : Stand p l e R s m args below meth c T locs cells slots) (hx : p.tables.exec = Jvm.exec) (hZ : Z.Warmed39 s.vm) (w : (Jvm.Cond.arrayClass (newarray.typeOf aty)).before a0 Z = true) (eT : T.heap = h) (hz : z.toInt = (n : Int)) (hf : fits (newarray.typeOf aty) (defaultValue (newarray.typeOf aty)) = true) (hg : g.method = m) (hs : g.stack = .int z :: rest) (hd : decode c.code g.pc = .ok (.newarray aty, 2)) {cap : Nat} (hcap : n ≤ cap) (hb : cap * 8 ≤ 536870912) (hc : cells + 1 ≤ R.cells) (hl : slots + cap ≤ R.slots) {ad : String} (had : "[" ++ (newarray.typeOf aty).toString = ad) :
    ∃ T' h' a, a = h.size ∧ Stand p l e R s m args below meth c T' locs (cells + 1) (slots + cap) ∧ T'.heap = h' ∧ Ext h h' ∧ own_AV Z h' a (newarray.typeOf aty) n (fun _ => defaultValue (newarray.typeOf aty)) ∧ Exa Z h' a ad ∧ ∀ t, Steps p.tables e below (T'.setTop { g with pc := g.pc + 2, stack := .ref a :: rest }) t → Steps p.tables e below (T.setTop g) t := by
  have e0 : (0 : Int32).toInt = 0 := by decide
  have e1 : z.toNatClampNeg = n := by show z.toInt.toNat = n; rw [hz]; rfl
  have hn : ¬ z < 0 := by rw [Int32.lt_iff_toInt_lt, e0, hz]; omega
  obtain ⟨T', h', cA, X', e', E', A', E2, st⟩ := newPE X hx hZ w eT hg hd hs hn (by rw [e1]; exact hcap) hb hc hl had
  exact ⟨T', h', _, rfl, X', e', E', own_AV.new A' e1 hf, E2, st⟩
/-- anewarray: the fresh array of references, all null; what may lie in it -/
theorem own_newR {C : String} {z : Int32} {own : String} {index : Nat} (X : Stand p l e R s m args below meth c T locs cells slots) (hx : p.tables.exec = Jvm.exec) (hZ : Z.Warmed39 s.vm) (hown : s.vm.findClass own = some m.cls) (w1 : (Jvm.Cond.classLink own index C).before a0 Z = true) (w2 : (Jvm.Cond.arrayOver (.object C)).before a0 Z = true) (eT : T.heap = h) (hz : z.toInt = (n : Int)) (hg : g.method = m) (hs : g.stack = .int z :: rest) (hd : decode c.code g.pc = .ok (.anewarray index, 3)) {cap : Nat} (hcap : n ≤ cap) (hb : cap * 8 ≤ 536870912) (hc : cells + 1 ≤ R.cells) (hl : slots + cap ≤ R.slots) :
    ∃ T' h' a, a = h.size ∧ Stand p l e R s m args below meth c T' locs (cells + 1) (slots + cap) ∧ T'.heap = h' ∧ Ext h h' ∧ own_AV Z h' a (.object C) n (fun _ => .null) ∧ (∃ cl : Cell, h'[a]? = some cl ∧ Ovr Z cl.cls C) ∧ ∀ t, Steps p.tables e below (T'.setTop { g with pc := g.pc + 3, stack := .ref a :: rest }) t → Steps p.tables e below (T.setTop g) t := by
  have e0 : (0 : Int32).toInt = 0 := by decide
  have e1 : z.toNatClampNeg = n := by show z.toInt.toNat = n; rw [hz]; rfl
  have hn : ¬ z < 0 := by rw [Int32.lt_iff_toInt_lt, e0, hz]; omega
  obtain ⟨T', h', cA, X', e', E', A', O', st⟩ := newR X hx hZ hown w1 w2 eT hg hd hs hn (by rw [e1]; exact hcap) hb hc hl
  exact ⟨T', h', _, rfl, X', e', E', own_AV.new A' e1 rfl, ⟨_, A'.1, O'⟩, st⟩
/-- the array over class C at a takes an object of C -/
def own_Ov (Z : State) (h : Heap) (a : Addr) (C : String) : Prop := ∃ cl : Cell, h[a]? = some cl ∧ Ovr Z cl.cls C
theorem own_Ov.keep {a : Addr} {C : String} {ws : List Addr} (O : own_Ov Z h a C) (K : Keep h h' ws) : own_Ov Z h' a C := by
  obtain ⟨cl, h1, h2⟩ := O
  obtain ⟨c', q1, q2, -, -⟩ := K.2.2 a cl h1
  exact ⟨c', q1, by rw [q2]; exact h2⟩
theorem own_Ov.sto {a y : Addr} {C : String} {ty : FieldType} {f : Nat → Value} (O : own_Ov Z h a C) (A : own_AV Z h a ty n f) (I : Ins Z h y C true) : Sto Z h a (.ref y) := by
  obtain ⟨cl, h1, h2⟩ := O
  obtain ⟨c2, A2, -⟩ := A
  cases h1.symm.trans A2.1
  exact Sto.of A2 h2 I
/-- clone() of an array -/
theorem own_clone {own ad : String} {index : Nat} {ty : FieldType} {f : Nat → Value} (X : Stand p l e R s m args below meth c T locs cells slots) (hx : p.tables.exec = Jvm.exec) (hZ : Z.Warmed39 s.vm) (hown : s.vm.findClass own = some m.cls)
    (w1 : (Jvm.Cond.methodLink own index ⟨ad, "clone", "()Ljava/lang/Object;"⟩).before a0 Z = true) (w2 : (Jvm.Cond.sameMethod ad "java/lang/Object" "clone" "()Ljava/lang/Object;").before a0 Z = true) (w3 : (Jvm.Cond.native ⟨"java/lang/Object", "clone", "()Ljava/lang/Object;"⟩).before a0 Z = true)
    (w4 : (Jvm.Cond.instanceMethod ⟨"java/lang/Object", "clone", "()Ljava/lang/Object;"⟩).before a0 Z = true) (w5 : (Jvm.Cond.selects ad ⟨ad, "clone", "()Ljava/lang/Object;"⟩ ⟨"java/lang/Object", "clone", "()Ljava/lang/Object;"⟩).before a0 Z = true) (w6 : (Jvm.Cond.castable ad "java/lang/Cloneable").before a0 Z = true)
    (eT : T.heap = h) (A : own_AV Z h a ty n f) (E : Exa Z h a ad) (hg : g.method = m) (hsize : g.locals.size = c.maxLocals) (hs : g.stack = .ref a :: rest) (hd : decode c.code g.pc = .ok (.invokevirtual index, 3))
    (hf : 1 ≤ R.frames) {W : Nat} (hW : 2 * g.monitorRoom + (rest.map fun v => v.category).sum ≤ W) (hl : W + 14 ≤ R.locals) (hc : cells + 1 ≤ R.cells) (hsl : slots + n ≤ R.slots) :
    ∃ T' h' b, b = h.size ∧ Stand p l e R s m args below meth c T' locs (cells + 1) (slots + n) ∧ T'.heap = h' ∧ Ext h h' ∧ own_AV Z h' b ty n f ∧ Exa Z h' b ad ∧ ∀ t, Steps p.tables e below (T'.setTop { g with pc := g.pc + 3, stack := .ref b :: rest }) t → Steps p.tables e below (T.setTop g) t := by
  obtain ⟨cl, A1, S, H, G⟩ := A
  have F : FitC Z cl := fitC_of A1 fun i hi v hv => by
    rw [S] at hi
    rw [H i hi] at hv
    cases hv
    exact G i hi
  obtain ⟨T', h', X', e', E', A', E2, st⟩ := cloneA X hx hZ hown w1 w2 w3 w4 w5 w6 eT A1 E F hg hsize hs hd hf hW hl (Nat.le_of_eq S) hc hsl
  exact ⟨T', h', _, rfl, X', e', E', ⟨_, A', S, H, G⟩, E2, st⟩
end Rd
end Own
end Jvm.RoadKit
namespace Jvm.RoadKit
open Sem ClassFile Op Lib Jvm.Stand Jvm.Free Jvm.LawKit
section OwnW
variable {p : Program} {l : Launch} {e : Env} {R : Room} {s : State} {m : MethodId} {args : Array Value} {below : List Frame} {meth : Method} {c : Code} {T T' : State} {locs : List Loc} {cells slots : Nat} {Z : State} {a0 : Array Value} {h h' : Heap}
/-- it returned, Q says what; the wide frame -/
def own_EndW (s : State) (below : List Frame) (Q : Option Value → Heap → List Loc → Prop) (C S : Nat) : State → Outcome → Prop := fun t o =>
  t.status = .running ∧ Ended t below o ∧ ∃ v L, o = .returned v ∧ Q v t.heap L ∧ ReturnedEndW s o t L C S
theorem own_bodyW {y : MethodName} {bytes : ByteArray} {ml : Nat} {rt : Option FieldType} {rm : Room} {as' : Array Value} {h0 : Heap} {Q : Option Value → Heap → List Loc → Prop} {C S : Nat} {ws : List Jvm.Cond} (hp : plainFor y = true)
    (H : ∀ p e s m below meth c s₁, BodyLoose p l y (head1 (Jvm.Cond.code y bytes ml rt :: ws) rm) bytes ml rt e s m as' below meth c s₁ → c.maxLocals = ml → Z.Warmed39 s.vm → s₁.heap = h0 → own_Go p e below (own_EndW s below Q C S) s₁ (entryFrame m as' ml)) :
    MetFree l y (head1 (Jvm.Cond.code y bytes ml rt :: ws) rm) (fun a U => a = as' ∧ Z.Warmed39 U.vm ∧ U.heap = h0) (fun _ _ _ _ _ => True) (fun _ U o U' => ∃ v L, o = .returned v ∧ Q v U'.heap L ∧ ReturnedEndW U o U' L C S) := by
  refine MetFree.of_bodySF hp hisR ?_
  intro p e s m args below meth c s₁ Bd hml hP hK
  obtain ⟨rfl, hZ, hh⟩ := hP
  have e0 : s₁.heap = h0 := by rw [← hh, Bd.state]; rfl
  obtain ⟨t, o, h1, h2, h3, h4⟩ := H p e s m below meth c s₁ Bd hml hZ e0
  exact ⟨t, o, h1, h2, h3, h4⟩
abbrev own_CtW (l : Launch) (Z : State) (y : MethodName) (bytes : ByteArray) (ml : Nat) (rt : Option FieldType) (rm : Room) (as' : Array Value) (h0 : Heap) (Q : Option Value → Heap → List Loc → Prop) : Prop :=
  MetFree l y (head1 [Jvm.Cond.code y bytes ml rt] rm) (fun a U => a = as' ∧ Z.Warmed39 U.vm ∧ U.heap = h0) (fun _ _ _ _ _ => True) (fun _ U o U' => ∃ v L, o = .returned v ∧ Q v U'.heap L ∧ ReturnedEndW U o U' L rm.cells rm.slots)
section Ret
variable {Q : Option Value → Heap → List Loc → Prop} {C S : Nat} {vm1 : Vm}
theorem own_outW {v : Option Value} {f : JFrame} (X : Stand p l e R (s.setVm vm1) m args below meth c T locs cells slots) {n : Nat} (hI : s.Since vm1 n) (hn : n ≤ h.size) (hv : meth.sig.returnType = none → v = none) (hlocks : meth.locks = false) (hC : cells ≤ C) (hS : slots ≤ S) (eT : T.heap = h) (hq : Q v h locs)
    (go : ∀ fs, (∀ (f : JFrame) (acts : List Action), f.method = m → f.locked = none → f.entered = [] → (doReturn e (T.setTop f) acts v).1 = T.setFrames fs) → Steps p.tables e below (T.setTop f) (T.setFrames fs)) :
    own_Go p e below (own_EndW s below Q C S) T f := by
  obtain ⟨fs, hr, hrun, hended, h1, h2, h3, h4⟩ := X.leaveW hI (by rw [eT]; exact hn) (v := v) hv hlocks
  refine ⟨_, _, go fs hr, hrun, hended, _, _, rfl, ?_, h1, h2, h3, h4.mono hC hS⟩
  show Q v T.heap locs
  rw [eT]; exact hq
theorem own_retZW (X : Stand p l e R (s.setVm vm1) m args below meth c T locs cells slots) (hx : p.tables.exec = Jvm.exec) {n : Nat} (hI : s.Since vm1 n) (hn : n ≤ h.size) (hlocks : meth.locks = false) (hret : meth.sig.returnType = some .boolean) {pc : Nat} {Ls : Array Slot} {z : Int32} {rest : List Value} (hd : decode c.code pc = .ok (.ireturn, 1)) (hz : z = 0 ∨ z = 1) (hC : cells ≤ C) (hS : slots ≤ S) (eT : T.heap = h) (hq : Q (some (.int z)) h locs) :
    own_Go p e below (own_EndW s below Q C S) T (mkF m pc Ls (.int z :: rest)) :=
  own_outW X hI hn (fun q => by rw [hret] at q; cases q) hlocks hC hS eT hq fun fs hr => retN X hx hret (Or.inl rfl) hd (by
    have : nar .boolean z = z := by rcases hz with rfl | rfl <;> decide
    rw [this]; exact hr)
theorem own_retRW {t : FieldType} {w : Value} (X : Stand p l e R (s.setVm vm1) m args below meth c T locs cells slots) (hx : p.tables.exec = Jvm.exec) {n : Nat} (hI : s.Since vm1 n) (hn : n ≤ h.size) (hlocks : meth.locks = false) (hret : meth.sig.returnType = some t) (ht : t.isReference = true) (hw : w.isRef = true) {pc : Nat} {Ls : Array Slot} {rest : List Value} (hd : decode c.code pc = .ok (.areturn, 1)) (hC : cells ≤ C) (hS : slots ≤ S) (eT : T.heap = h) (hq : Q (some w) h locs) :
    own_Go p e below (own_EndW s below Q C S) T (mkF m pc Ls (w :: rest)) :=
  own_outW X hI hn (fun q => by rw [hret] at q; cases q) hlocks hC hS eT hq fun fs hr => retOut X hx hret (by cases t <;> cases w <;> first | rfl | (cases ht; done) | (cases hw; done)) (Or.inr (Or.inr (Or.inr (Or.inr ⟨rfl, ht, hw⟩)))) hd hr
theorem own_retVW (X : Stand p l e R (s.setVm vm1) m args below meth c T locs cells slots) (hx : p.tables.exec = Jvm.exec) {n : Nat} (hI : s.Since vm1 n) (hn : n ≤ h.size) (hlocks : meth.locks = false) (hret : meth.sig.returnType = none) {pc : Nat} {Ls : Array Slot} (hd : decode c.code pc = .ok (.return_, 1)) (hC : cells ≤ C) (hS : slots ≤ S) (eT : T.heap = h) (hq : Q none h locs) :
    own_Go p e below (own_EndW s below Q C S) T (mkF m pc Ls []) :=
  own_outW X hI hn (fun _ => rfl) hlocks hC hS eT hq fun fs hr => X.returnOut hx hret hd hr
end Ret
section Call
variable {own : String} {index : Nat} {y : MethodName} {bytes : ByteArray} {ml : Nat} {rt : Option FieldType} {rm : Room} {Q : Option Value → Heap → List Loc → Prop} {g : JFrame} {argsL rest : List Value} {W : Nat} {vm0 : Vm} {k0 : Nat}
/-- a virtual call of a callee that may intern; the walk's base is s under the tables vm0 -/
theorem own_callVW {a : Addr} {C : String} (X : Stand p l e R (s.setVm vm0) m args below meth c T locs cells slots) (hI : s.Since vm0 k0) (hk : k0 ≤ h.size) (hx : p.tables.exec = Jvm.exec) (hZ : Z.Warmed39 (s.setVm vm0).vm) (hown : (s.setVm vm0).vm.findClass own = some m.cls) (E : Exa Z h a C) {y0 : MethodName}
    (w1 : (Jvm.Cond.methodLink own index y0).before a0 Z = true) (w2 : (Jvm.Cond.declares y0).before a0 Z = true) (w5 : (Jvm.Cond.selects C y0 y).before a0 Z = true) (nf : NotFace (s.setVm vm0) y0) (w6 : (Jvm.Cond.instanceMethod y).before a0 Z = true) (w3 : (Jvm.Cond.initialized y.cls).before a0 Z = true) (w4 : (Jvm.Cond.code y bytes ml rt).before a0 Z = true)
    (hy : y0.cls ≠ "java/lang/invoke/MethodHandle" ∧ y0.cls ≠ "java/lang/invoke/VarHandle") (ct : own_CtW l Z y bytes ml rt rm (.ref a :: argsL).toArray h Q) (eT : T.heap = h) (hg : g.method = m) (hsize : g.locals.size = c.maxLocals)
    (hlen : ∀ sig, parseMethodDescriptor y0.desc = some sig → argsL.length = sig.parameters.length) (hstack : g.stack = argsL.reverse ++ .ref a :: rest) (hW : 2 * g.monitorRoom + (rest.map fun v => v.category).sum ≤ W) (hdg : decode c.code g.pc = .ok (.invokevirtual index, 3))
    (hf : rm.frames + 1 ≤ R.frames) (hl : W + (ml + 11) + rm.locals ≤ R.locals) (hc : cells + rm.cells ≤ R.cells) (hs : slots + rm.slots ≤ R.slots) :
    ∃ v T' L, Stand p l e R (s.setVm T'.vm) m args below meth c T' (locs ++ L) (cells + rm.cells) (slots + rm.slots) ∧ s.Since T'.vm T'.heap.size ∧ Z.Warmed39 (s.setVm T'.vm).vm ∧ (s.setVm T'.vm).vm.findClass own = some m.cls ∧ Q v T'.heap L ∧ ∀ target, Steps p.tables e below (T'.setTop { g with pc := g.pc + 3, stack := v.toList ++ rest }) target → Steps p.tables e below (T.setTop g) target := by
  obtain ⟨cq, kq, qa, qb, qc⟩ := isOf hZ eT E
  obtain ⟨v, vm1, ⟨T1, L1, k1, n1⟩, -, X1, hI1, hg1, ⟨L, hQ, h1, h2, h3⟩, st⟩ := X.virtualBackS hx (y := y0) (z := y) hown (mvT hZ w1) (mvT hZ w2) nf (mvT hZ w5) (mvT hZ w6) hy (backOfS (W := W) ct hZ w4 w3 hf hl) qa qc hg hsize (Steps.refl _) hlen hstack hW hdg (fun _ _ => ⟨rfl, eT, hc, hs⟩)
  dsimp only [Pt.U, Pt.locs, Pt.cells, Pt.slots] at X1 h1 h2 h3 hQ st hI1 hg1
  subst h1 h2 h3
  obtain ⟨r1, r2, r3, r4⟩ := rebS hI (by rw [← eT] at hk; exact hk) X1 hI1 hg1 hZ hown
  exact ⟨v, T1, L, r1, r2, r3, r4, hQ, fun t k => st.trans k⟩
/-- a static call of a callee that may intern -/
theorem own_callSW (X : Stand p l e R (s.setVm vm0) m args below meth c T locs cells slots) (hI : s.Since vm0 k0) (hk : k0 ≤ h.size) (hx : p.tables.exec = Jvm.exec) (hZ : Z.Warmed39 (s.setVm vm0).vm) (hown : (s.setVm vm0).vm.findClass own = some m.cls)
    (w1 : (Jvm.Cond.methodLink own index y).before a0 Z = true) (w2 : (Jvm.Cond.static y).before a0 Z = true) (w3 : (Jvm.Cond.initialized y.cls).before a0 Z = true) (w4 : (Jvm.Cond.code y bytes ml rt).before a0 Z = true)
    (hy : y.cls ≠ "java/lang/invoke/MethodHandle" ∧ y.cls ≠ "java/lang/invoke/VarHandle") (ct : own_CtW l Z y bytes ml rt rm argsL.toArray h Q) (eT : T.heap = h) (hg : g.method = m) (hsize : g.locals.size = c.maxLocals)
    (hlen : ∀ sig, parseMethodDescriptor y.desc = some sig → argsL.length = sig.parameters.length) (hstack : g.stack = argsL.reverse ++ rest) (hW : 2 * g.monitorRoom + (rest.map fun v => v.category).sum ≤ W) (hdg : decode c.code g.pc = .ok (.invokestatic index, 3))
    (hf : rm.frames + 1 ≤ R.frames) (hl : W + (ml + 11) + rm.locals ≤ R.locals) (hc : cells + rm.cells ≤ R.cells) (hs : slots + rm.slots ≤ R.slots) :
    ∃ v T' L, Stand p l e R (s.setVm T'.vm) m args below meth c T' (locs ++ L) (cells + rm.cells) (slots + rm.slots) ∧ s.Since T'.vm T'.heap.size ∧ Z.Warmed39 (s.setVm T'.vm).vm ∧ (s.setVm T'.vm).vm.findClass own = some m.cls ∧ Q v T'.heap L ∧ ∀ target, Steps p.tables e below (T'.setTop { g with pc := g.pc + 3, stack := v.toList ++ rest }) target → Steps p.tables e below (T.setTop g) target := by
  obtain ⟨v, vm1, ⟨T1, L1, k1, n1⟩, -, X1, hI1, hg1, ⟨L, hQ, h1, h2, h3⟩, st⟩ := callSS X hx hown (mvT hZ w1) (mvT hZ w2) (mvT hZ w3) (mvT hZ w4) hy (backOfS (W := W) ct hZ w4 w3 hf hl) hg hsize hlen hstack hW hdg (fun _ _ => ⟨rfl, eT, hc, hs⟩)
  dsimp only [Pt.U, Pt.locs, Pt.cells, Pt.slots] at X1 h1 h2 h3 hQ st hI1 hg1
  subst h1 h2 h3
  obtain ⟨r1, r2, r3, r4⟩ := rebS hI (by rw [← eT] at hk; exact hk) X1 hI1 hg1 hZ hown
  exact ⟨v, T1, L, r1, r2, r3, r4, hQ, fun t k => st.trans k⟩
/-- a constructor that may intern -/
theorem own_callIW {a : Addr} (X : Stand p l e R (s.setVm vm0) m args below meth c T locs cells slots) (hI : s.Since vm0 k0) (hk : k0 ≤ h.size) (hx : p.tables.exec = Jvm.exec) (hZ : Z.Warmed39 (s.setVm vm0).vm) (hown : (s.setVm vm0).vm.findClass own = some m.cls) (hy1 : y.name = "<init>")
    (w1 : (Jvm.Cond.methodLink own index y).before a0 Z = true) (w2 : (Jvm.Cond.instanceMethod y).before a0 Z = true) (w3 : (Jvm.Cond.initialized y.cls).before a0 Z = true) (w4 : (Jvm.Cond.code y bytes ml none).before a0 Z = true)
    (hy : y.cls ≠ "java/lang/invoke/MethodHandle" ∧ y.cls ≠ "java/lang/invoke/VarHandle") (ct : own_CtW l Z y bytes ml none rm (.ref a :: argsL).toArray h Q) (eT : T.heap = h) (hg : g.method = m) (hsize : g.locals.size = c.maxLocals)
    (hlen : ∀ sig, parseMethodDescriptor y.desc = some sig → argsL.length = sig.parameters.length) (hstack : g.stack = argsL.reverse ++ .ref a :: rest) (hW : 2 * g.monitorRoom + (rest.map fun v => v.category).sum ≤ W) (hdg : decode c.code g.pc = .ok (.invokespecial index, 3))
    (hf : rm.frames + 1 ≤ R.frames) (hl : W + (ml + 11) + rm.locals ≤ R.locals) (hc : cells + rm.cells ≤ R.cells) (hs : slots + rm.slots ≤ R.slots) :
    ∃ v T' L, Stand p l e R (s.setVm T'.vm) m args below meth c T' (locs ++ L) (cells + rm.cells) (slots + rm.slots) ∧ s.Since T'.vm T'.heap.size ∧ Z.Warmed39 (s.setVm T'.vm).vm ∧ (s.setVm T'.vm).vm.findClass own = some m.cls ∧ Q v T'.heap L ∧ ∀ target, Steps p.tables e below (T'.setTop { g with pc := g.pc + 3, stack := v.toList ++ rest }) target → Steps p.tables e below (T.setTop g) target := by
  obtain ⟨v, vm1, ⟨T1, L1, k1, n1⟩, -, X1, hI1, hg1, ⟨L, hQ, h1, h2, h3⟩, st⟩ := X.specialBackS hx hy1 hown (mvT hZ w1) (mvT hZ w2) (mvT hZ w4) hy (backOfS (W := W) ct hZ w4 w3 hf hl) hg hsize (Steps.refl _) hlen hstack hW hdg (fun _ _ => ⟨rfl, eT, hc, hs⟩)
  dsimp only [Pt.U, Pt.locs, Pt.cells, Pt.slots] at X1 h1 h2 h3 hQ st hI1 hg1
  subst h1 h2 h3
  obtain ⟨r1, r2, r3, r4⟩ := rebS hI (by rw [← eT] at hk; exact hk) X1 hI1 hg1 hZ hown
  exact ⟨v, T1, L, r1, r2, r3, r4, hQ, fun t k => st.trans k⟩
end Call
end OwnW
end Jvm.RoadKit
namespace Jvm.RoadKit
open Sem ClassFile Op Lib Jvm.Stand Jvm.Free Jvm.LawKit
section OwnJ
variable {p : Program} {l : Launch} {e : Env} {R : Room} {s : State} {m : MethodId} {args : Array Value} {below : List Frame} {meth : Method} {c : Code} {T T' : State} {locs : List Loc} {cells slots : Nat} {Z : State} {a0 : Array Value} {h h' : Heap}
/-- as own_EndW; Q speaks of the tables besides -/
def own_EndJ (s : State) (below : List Frame) (Q : Option Value → Heap → Vm → List Loc → Prop) (C S : Nat) : State → Outcome → Prop := fun t o =>
  t.status = .running ∧ Ended t below o ∧ ∃ v L, o = .returned v ∧ Q v t.heap t.vm L ∧ ReturnedEndW s o t L C S
theorem own_bodyJ {y : MethodName} {bytes : ByteArray} {ml : Nat} {rt : Option FieldType} {rm : Room} {as' : Array Value} {h0 : Heap} {J : Vm → Prop} {Q : Option Value → Heap → Vm → List Loc → Prop} {C S : Nat} {ws : List Jvm.Cond} (hp : plainFor y = true)
    (H : ∀ p e s m below meth c s₁, BodyLoose p l y (head1 (Jvm.Cond.code y bytes ml rt :: ws) rm) bytes ml rt e s m as' below meth c s₁ → c.maxLocals = ml → Z.Warmed39 s.vm → s₁.heap = h0 → s.heap = h0 → J s.vm → own_Go p e below (own_EndJ s below Q C S) s₁ (entryFrame m as' ml)) :
    MetFree l y (head1 (Jvm.Cond.code y bytes ml rt :: ws) rm) (fun a U => a = as' ∧ Z.Warmed39 U.vm ∧ U.heap = h0 ∧ J U.vm) (fun _ _ _ _ _ => True) (fun _ U o U' => ∃ v L, o = .returned v ∧ Q v U'.heap U'.vm L ∧ ReturnedEndW U o U' L C S) := by
  refine MetFree.of_bodySF hp hisR ?_
  intro p e s m args below meth c s₁ Bd hml hP hK
  obtain ⟨rfl, hZ, hh, hJ⟩ := hP
  have e0 : s₁.heap = h0 := by rw [← hh, Bd.state]; rfl
  obtain ⟨t, o, h1, h2, h3, h4⟩ := H p e s m below meth c s₁ Bd hml hZ e0 hh hJ
  exact ⟨t, o, h1, h2, h3, h4⟩
abbrev own_CtJ (l : Launch) (Z : State) (y : MethodName) (bytes : ByteArray) (ml : Nat) (rt : Option FieldType) (rm : Room) (as' : Array Value) (h0 : Heap) (J : Vm → Prop) (Q : Option Value → Heap → Vm → List Loc → Prop) : Prop :=
  MetFree l y (head1 [Jvm.Cond.code y bytes ml rt] rm) (fun a U => a = as' ∧ Z.Warmed39 U.vm ∧ U.heap = h0 ∧ J U.vm) (fun _ _ _ _ _ => True) (fun _ U o U' => ∃ v L, o = .returned v ∧ Q v U'.heap U'.vm L ∧ ReturnedEndW U o U' L rm.cells rm.slots)
section Ret
variable {Q : Option Value → Heap → Vm → List Loc → Prop} {C S : Nat} {vm1 : Vm}
theorem own_outJ {v : Option Value} {f : JFrame} (X : Stand p l e R (s.setVm vm1) m args below meth c T locs cells slots) {n : Nat} (hI : s.Since vm1 n) (hn : n ≤ h.size) (hv : meth.sig.returnType = none → v = none) (hlocks : meth.locks = false) (hC : cells ≤ C) (hS : slots ≤ S) (eT : T.heap = h) (hq : Q v h T.vm locs)
    (go : ∀ fs, (∀ (f : JFrame) (acts : List Action), f.method = m → f.locked = none → f.entered = [] → (doReturn e (T.setTop f) acts v).1 = T.setFrames fs) → Steps p.tables e below (T.setTop f) (T.setFrames fs)) :
    own_Go p e below (own_EndJ s below Q C S) T f := by
  obtain ⟨fs, hr, hrun, hended, h1, h2, h3, h4⟩ := X.leaveW hI (by rw [eT]; exact hn) (v := v) hv hlocks
  refine ⟨_, _, go fs hr, hrun, hended, _, _, rfl, ?_, h1, h2, h3, h4.mono hC hS⟩
  show Q v T.heap T.vm locs
  rw [eT]; exact hq
theorem own_retZJ (X : Stand p l e R (s.setVm vm1) m args below meth c T locs cells slots) (hx : p.tables.exec = Jvm.exec) {n : Nat} (hI : s.Since vm1 n) (hn : n ≤ h.size) (hlocks : meth.locks = false) (hret : meth.sig.returnType = some .boolean) {pc : Nat} {Ls : Array Slot} {z : Int32} {rest : List Value} (hd : decode c.code pc = .ok (.ireturn, 1)) (hz : z = 0 ∨ z = 1) (hC : cells ≤ C) (hS : slots ≤ S) (eT : T.heap = h) (hq : Q (some (.int z)) h T.vm locs) :
    own_Go p e below (own_EndJ s below Q C S) T (mkF m pc Ls (.int z :: rest)) :=
  own_outJ X hI hn (fun q => by rw [hret] at q; cases q) hlocks hC hS eT hq fun fs hr => retN X hx hret (Or.inl rfl) hd (by
    have : nar .boolean z = z := by rcases hz with rfl | rfl <;> decide
    rw [this]; exact hr)
theorem own_retRJ {t : FieldType} {w : Value} (X : Stand p l e R (s.setVm vm1) m args below meth c T locs cells slots) (hx : p.tables.exec = Jvm.exec) {n : Nat} (hI : s.Since vm1 n) (hn : n ≤ h.size) (hlocks : meth.locks = false) (hret : meth.sig.returnType = some t) (ht : t.isReference = true) (hw : w.isRef = true) {pc : Nat} {Ls : Array Slot} {rest : List Value} (hd : decode c.code pc = .ok (.areturn, 1)) (hC : cells ≤ C) (hS : slots ≤ S) (eT : T.heap = h) (hq : Q (some w) h T.vm locs) :
    own_Go p e below (own_EndJ s below Q C S) T (mkF m pc Ls (w :: rest)) :=
  own_outJ X hI hn (fun q => by rw [hret] at q; cases q) hlocks hC hS eT hq fun fs hr => retOut X hx hret (by cases t <;> cases w <;> first | rfl | (cases ht; done) | (cases hw; done)) (Or.inr (Or.inr (Or.inr (Or.inr ⟨rfl, ht, hw⟩)))) hd hr
theorem own_retVJ (X : Stand p l e R (s.setVm vm1) m args below meth c T locs cells slots) (hx : p.tables.exec = Jvm.exec) {n : Nat} (hI : s.Since vm1 n) (hn : n ≤ h.size) (hlocks : meth.locks = false) (hret : meth.sig.returnType = none) {pc : Nat} {Ls : Array Slot} (hd : decode c.code pc = .ok (.return_, 1)) (hC : cells ≤ C) (hS : slots ≤ S) (eT : T.heap = h) (hq : Q none h T.vm locs) :
    own_Go p e below (own_EndJ s below Q C S) T (mkF m pc Ls []) :=
  own_outJ X hI hn (fun _ => rfl) hlocks hC hS eT hq fun fs hr => X.returnOut hx hret hd hr
end Ret
theorem own_backJ {y : MethodName} {bytes : ByteArray} {ml : Nat} {rt : Option FieldType} {rm : Room} {len W : Nat} {as' : Array Value} {J : Vm → Prop} {Q : Option Value → Heap → Vm → List Loc → Prop}
    (hM : own_CtJ l Z y bytes ml rt rm as' h J Q) (hZ : Z.Warmed39 s.vm) (wc : (Jvm.Cond.code y bytes ml rt).before a0 Z = true) (wz : (Jvm.Cond.initialized y.cls).before a0 Z = true) (hf : rm.frames + 1 ≤ R.frames) (hl : W + (ml + 11) + rm.locals ≤ R.locals) :
    BackS l R p e below s args y len W (fun A a => a = as' ∧ A.U.heap = h ∧ J A.U.vm ∧ A.cells + rm.cells ≤ R.cells ∧ A.slots + rm.slots ≤ R.slots)
      (fun A _ v B => ∃ L, Q v B.U.heap B.U.vm L ∧ B.locs = A.locs ++ L ∧ B.cells = A.cells + rm.cells ∧ B.slots = A.slots + rm.slots) := by
  refine BackS.of_freeW (bytes := bytes) (maxL := ml) (ret := rt) (E := fun _ _ o t L k n => k = rm.cells ∧ n = rm.slots ∧ ∃ v, o = .returned v ∧ Q v t.heap t.vm L) hM hf hl ?_ ?_ ?_ ?_ ?_
  · intro m meth c A a Y hp
    have hU : Z.Warmed39 A.U.vm := wtrans hZ Y.warmed
    refine ⟨?_, mv hU wc, mv hU wz, hp.2.2.2.1, hp.2.2.2.2⟩
    show (Jvm.Cond.and _ .tt).before a A.U = true
    rw [Jvm.Cond.before_and, mv hU wc]; rfl
  · intro m meth c A a g mk Y hp
    exact ⟨hp.1, wtrans hZ Y.warmed, hp.2.1, hp.2.2.1⟩
  · intro _ _ _ _ _ _ _ _ _; trivial
  · rintro _ _ _ _ ⟨v, L, h1, h2, h3⟩
    exact ⟨L, _, _, h3, rfl, rfl, v, h1, h2⟩
  · intro m meth c A a g mk v t L k n Y hp _ _ q
    obtain ⟨e1, e2, v', e3, e4⟩ := q
    cases e3; subst e1 e2
    exact ⟨L, e4, rfl, rfl, rfl⟩
section Call
variable {own : String} {index : Nat} {y : MethodName} {bytes : ByteArray} {ml : Nat} {rt : Option FieldType} {rm : Room} {J : Vm → Prop} {Q : Option Value → Heap → Vm → List Loc → Prop} {g : JFrame} {argsL rest : List Value} {W : Nat} {vm0 : Vm} {k0 : Nat}
theorem own_callIJ {a : Addr} (X : Stand p l e R (s.setVm vm0) m args below meth c T locs cells slots) (hI : s.Since vm0 k0) (hk : k0 ≤ h.size) (hx : p.tables.exec = Jvm.exec) (hZ : Z.Warmed39 (s.setVm vm0).vm) (hown : (s.setVm vm0).vm.findClass own = some m.cls) (hy1 : y.name = "<init>")
    (w1 : (Jvm.Cond.methodLink own index y).before a0 Z = true) (w2 : (Jvm.Cond.instanceMethod y).before a0 Z = true) (w3 : (Jvm.Cond.initialized y.cls).before a0 Z = true) (w4 : (Jvm.Cond.code y bytes ml none).before a0 Z = true)
    (hy : y.cls ≠ "java/lang/invoke/MethodHandle" ∧ y.cls ≠ "java/lang/invoke/VarHandle") (ct : own_CtJ l Z y bytes ml none rm (.ref a :: argsL).toArray h J Q) (eT : T.heap = h) (hg : g.method = m) (hsize : g.locals.size = c.maxLocals)
    (hlen : ∀ sig, parseMethodDescriptor y.desc = some sig → argsL.length = sig.parameters.length) (hstack : g.stack = argsL.reverse ++ .ref a :: rest) (hW : 2 * g.monitorRoom + (rest.map fun v => v.category).sum ≤ W) (hdg : decode c.code g.pc = .ok (.invokespecial index, 3))
    (hf : rm.frames + 1 ≤ R.frames) (hl : W + (ml + 11) + rm.locals ≤ R.locals) (hc : cells + rm.cells ≤ R.cells) (hs : slots + rm.slots ≤ R.slots) (hJ : ∀ vm1, (s.setVm vm0).WarmedH vm1 → J vm1) :
    ∃ v T' L, Stand p l e R (s.setVm T'.vm) m args below meth c T' (locs ++ L) (cells + rm.cells) (slots + rm.slots) ∧ s.Since T'.vm T'.heap.size ∧ Z.Warmed39 (s.setVm T'.vm).vm ∧ (s.setVm T'.vm).vm.findClass own = some m.cls ∧ Q v T'.heap T'.vm L ∧ ∀ target, Steps p.tables e below (T'.setTop { g with pc := g.pc + 3, stack := v.toList ++ rest }) target → Steps p.tables e below (T.setTop g) target := by
  obtain ⟨v, vm1, ⟨T1, L1, k1, n1⟩, -, X1, hI1, hg1, ⟨L, hQ, h1, h2, h3⟩, st⟩ := X.specialBackS hx hy1 hown (mvT hZ w1) (mvT hZ w2) (mvT hZ w4) hy (own_backJ (W := W) ct hZ w4 w3 hf hl) hg hsize (Steps.refl _) hlen hstack hW hdg (fun vm1 hv => ⟨rfl, eT, hJ vm1 hv, hc, hs⟩)
  dsimp only [Pt.U, Pt.locs, Pt.cells, Pt.slots] at X1 h1 h2 h3 hQ st hI1 hg1
  subst h1 h2 h3
  obtain ⟨r1, r2, r3, r4⟩ := rebS hI (by rw [← eT] at hk; exact hk) X1 hI1 hg1 hZ hown
  exact ⟨v, T1, L, r1, r2, r3, r4, hQ, fun t k => st.trans k⟩
theorem own_callSJ (X : Stand p l e R (s.setVm vm0) m args below meth c T locs cells slots) (hI : s.Since vm0 k0) (hk : k0 ≤ h.size) (hx : p.tables.exec = Jvm.exec) (hZ : Z.Warmed39 (s.setVm vm0).vm) (hown : (s.setVm vm0).vm.findClass own = some m.cls) 
    (w1 : (Jvm.Cond.methodLink own index y).before a0 Z = true) (w2 : (Jvm.Cond.static y).before a0 Z = true) (w3 : (Jvm.Cond.initialized y.cls).before a0 Z = true) (w4 : (Jvm.Cond.code y bytes ml rt).before a0 Z = true)
    (hy : y.cls ≠ "java/lang/invoke/MethodHandle" ∧ y.cls ≠ "java/lang/invoke/VarHandle") (ct : own_CtJ l Z y bytes ml rt rm argsL.toArray h J Q) (eT : T.heap = h) (hg : g.method = m) (hsize : g.locals.size = c.maxLocals)
    (hlen : ∀ sig, parseMethodDescriptor y.desc = some sig → argsL.length = sig.parameters.length) (hstack : g.stack = argsL.reverse ++ rest) (hW : 2 * g.monitorRoom + (rest.map fun v => v.category).sum ≤ W) (hdg : decode c.code g.pc = .ok (.invokestatic index, 3))
    (hf : rm.frames + 1 ≤ R.frames) (hl : W + (ml + 11) + rm.locals ≤ R.locals) (hc : cells + rm.cells ≤ R.cells) (hs : slots + rm.slots ≤ R.slots) (hJ : ∀ vm1, (s.setVm vm0).WarmedH vm1 → J vm1) :
    ∃ v T' L, Stand p l e R (s.setVm T'.vm) m args below meth c T' (locs ++ L) (cells + rm.cells) (slots + rm.slots) ∧ s.Since T'.vm T'.heap.size ∧ Z.Warmed39 (s.setVm T'.vm).vm ∧ (s.setVm T'.vm).vm.findClass own = some m.cls ∧ Q v T'.heap T'.vm L ∧ ∀ target, Steps p.tables e below (T'.setTop { g with pc := g.pc + 3, stack := v.toList ++ rest }) target → Steps p.tables e below (T.setTop g) target := by
  obtain ⟨v, vm1, ⟨T1, L1, k1, n1⟩, -, X1, hI1, hg1, ⟨L, hQ, h1, h2, h3⟩, st⟩ := callSS X hx hown (mvT hZ w1) (mvT hZ w2) (mvT hZ w3) (mvT hZ w4) hy (own_backJ (W := W) ct hZ w4 w3 hf hl) hg hsize hlen hstack hW hdg (fun vm1 hv => ⟨rfl, eT, hJ vm1 hv, hc, hs⟩)
  dsimp only [Pt.U, Pt.locs, Pt.cells, Pt.slots] at X1 h1 h2 h3 hQ st hI1 hg1
  subst h1 h2 h3
  obtain ⟨r1, r2, r3, r4⟩ := rebS hI (by rw [← eT] at hk; exact hk) X1 hI1 hg1 hZ hown
  exact ⟨v, T1, L, r1, r2, r3, r4, hQ, fun t k => st.trans k⟩
end Call
end OwnJ
end Jvm.RoadKit
namespace Jvm.Pilot.@@N@@
open Jvm Jvm.ClassFile Sem Op Lib Jvm.Free Jvm.Stand Jvm.LawKit Jvm.RoadKit Bundle Jvm.Pilot.@@N@@.Jvm.D
theorem own_fld_fun {Z : State} {h : Heap} {a : Nat} {C n d : String} {v w : Value} (F : Fld Z h a C n d v) (G : Fld Z h a C n d w) : v = w := by
  obtain ⟨c1, cf, k, i, f, h1, h2, -, -, -, -, h7⟩ := F
  obtain ⟨c2, cf', k', i', f', g1, g2, -, -, -, -, g7⟩ := G
  cases h1.symm.trans g1
  cases h2.symm.trans g2
  exact Option.some.inj (h7.symm.trans g7)
theorem own_ne_arr {Z : State} {h : Heap} {a b : Nat} {C : String} {a0 : Array Value} {k n : Nat} {ty : FieldType} {f : Nat → Int32} (E : Exa Z h a C) (wi : (Jvm.Cond.instantiable C k).before a0 Z = true) (A : own_AI Z h b ty n f) : a ≠ b := by
  obtain ⟨cl, A1, -⟩ := A
  exact ne_arr E wi A1
theorem own_AI0 {Z : State} {h : Heap} {b : Nat} {k : ClassId} (A : Arv Z h b k .byte 0 [] (.int 0)) : own_AI Z h b .byte 0 (fun _ => 0) := by
  obtain ⟨cl, A1, -, S, -, -, -⟩ := A
  exact ⟨cl, A1, by rw [S]; decide, fun i hi => absurd hi (by omega), fun i hi => absurd hi (by omega)⟩
theorem own_lit_warm {s Z : State} {vm0 vm1 : Vm} {own : String} {index : Nat} {a : Nat} (L : Lit (s.setVm vm0) own index a) (hW : (s.setVm vm0).WarmedH vm1) : Lit (Z.setVm vm1) own index a := (L.stays hW.wide : Lit (s.setVm vm1) own index a)

def own_b (x : Int32) : Int32 := nar .byte x.toInt8.toInt32
theorem own_d5_0 : decode jdk_52_method_21_code 0 = .ok (.iconst 0, 1) := by decide +kernel
theorem own_d5_1 : decode jdk_52_method_21_code 1 = .ok (.istore 5, 2) := by decide +kernel
theorem own_d5_3 : decode jdk_52_method_21_code 3 = .ok (.iload 5, 2) := by decide +kernel
theorem own_d5_5 : decode jdk_52_method_21_code 5 = .ok (.iload 4, 2) := by decide +kernel
theorem own_d5_7 : decode jdk_52_method_21_code 7 = .ok (.if_icmp .ge 37, 3) := by decide +kernel
theorem own_d5_10 : decode jdk_52_method_21_code 10 = .ok (.aload_n 0, 1) := by decide +kernel
theorem own_d5_11 : decode jdk_52_method_21_code 11 = .ok (.iload_n 1, 1) := by decide +kernel
theorem own_d5_12 : decode jdk_52_method_21_code 12 = .ok (.caload, 1) := by decide +kernel
theorem own_d5_13 : decode jdk_52_method_21_code 13 = .ok (.istore 6, 2) := by decide +kernel
theorem own_d5_15 : decode jdk_52_method_21_code 15 = .ok (.iload 6, 2) := by decide +kernel
theorem own_d5_17 : decode jdk_52_method_21_code 17 = .ok (.sipush 255, 3) := by decide +kernel
theorem own_d5_20 : decode jdk_52_method_21_code 20 = .ok (.if_icmp .le 6, 3) := by decide +kernel
theorem own_d5_23 : decode jdk_52_method_21_code 23 = .ok (.iload 5, 2) := by decide +kernel
theorem own_d5_25 : decode jdk_52_method_21_code 25 = .ok (.ireturn, 1) := by decide +kernel
theorem own_d5_26 : decode jdk_52_method_21_code 26 = .ok (.aload_n 2, 1) := by decide +kernel
theorem own_d5_27 : decode jdk_52_method_21_code 27 = .ok (.iload_n 3, 1) := by decide +kernel
theorem own_d5_28 : decode jdk_52_method_21_code 28 = .ok (.iload 6, 2) := by decide +kernel
theorem own_d5_30 : decode jdk_52_method_21_code 30 = .ok (.i2b, 1) := by decide +kernel
theorem own_d5_31 : decode jdk_52_method_21_code 31 = .ok (.bastore, 1) := by decide +kernel
theorem own_d5_32 : decode jdk_52_method_21_code 32 = .ok (.iinc 1 1, 3) := by decide +kernel
theorem own_d5_35 : decode jdk_52_method_21_code 35 = .ok (.iinc 3 1, 3) := by decide +kernel
theorem own_d5_38 : decode jdk_52_method_21_code 38 = .ok (.iinc 5 1, 3) := by decide +kernel
theorem own_d5_41 : decode jdk_52_method_21_code 41 = .ok (.goto (-38), 3) := by decide +kernel
theorem own_d5_44 : decode jdk_52_method_21_code 44 = .ok (.iload 4, 2) := by decide +kernel
theorem own_d5_46 : decode jdk_52_method_21_code 46 = .ok (.ireturn, 1) := by decide +kernel
theorem own_cs_2 {P : Nat → Prop} (h0 : P 0) (h1 : P 1) : ∀ i, i < 2 → P i := by
  intro i hi
  have : i = 0 ∨ i = 1 := by omega
  rcases this with rfl | rfl <;> assumption
theorem own_pn0 : plainName "java/lang/StringUTF16" = true := by first | (simp [plainName, overriddenIn]; done) | decide +kernel
theorem own_efc5_2 (m : MethodId) (sr : Nat) (ds : Nat) : entryFrame m #[(.ref sr), (.int (0 : Int32)), (.ref ds), (.int (0 : Int32)), (.int (2 : Int32))] 7 = mkF m 0 #[rv sr, iv (0 : Int32), rv ds, iv (0 : Int32), iv (2 : Int32), .unset, .unset] [] := by first | (simp [entryFrame, mkF, argsToLocals, Value.category]; done) | rfl
set_option maxRecDepth 65536 in
set_option maxHeartbeats 40000000 in
theorem own_rmc5_2 (l : Launch) (Z : State) (a0 : Array Value) (hw : ∀ d ∈ tables_1, d.before a0 Z = true) (sr : Nat) (ds : Nat) (f gg : Nat → Int32) (h0 : Heap) (n0 : Nat) (Z0 : n0 ≤ h0.size) (A : own_AI Z h0 sr .char 2 f) (B : own_AI Z h0 ds .byte 2 gg) (g_ds : n0 ≤ ds) (nsd : sr ≠ ds) (hf : ∀ i, i < 2 → ¬ (255 : Int32) < f i) :
    own_Ct l Z (⟨"java/lang/StringUTF16", "compress", "([CI[BII)I"⟩ : MethodName) jdk_52_method_21_code 7 (some .int) ({ frames := 0, cells := 0, slots := 0, locals := 0 } : Room) #[(.ref sr), (.int (0 : Int32)), (.ref ds), (.int (0 : Int32)), (.int (2 : Int32))] h0 (fun v h L => v = some (.int (2 : Int32)) ∧ Fr n0 L ∧ Keep h0 h [ds] ∧ own_AI Z h ds .byte 2 (fun i => own_b (f i))) := by
  refine own_body (y := (⟨"java/lang/StringUTF16", "compress", "([CI[BII)I"⟩ : MethodName)) (Q := fun v h L => v = some (.int (2 : Int32)) ∧ Fr n0 L ∧ Keep h0 h [ds] ∧ own_AI Z h ds .byte 2 (fun i => own_b (f i))) (plainFor_of_name own_pn0) ?_
  intro p e s m below meth c s₁ Bd hml0 hZ e0
  have hx := Bd.exec
  have hby := Bd.bytes
  have hml : c.maxLocals = 7 := hml0
  have hown : s.vm.findClass "java/lang/StringUTF16" = some m.cls := findClass_of_methodNamed Bd.named
  have hnm := (name_of_methodNamed Bd.named Bd.method).1
  have X0 : Stand p l e ({ frames := 0, cells := 0, slots := 0, locals := 0 } : Room) s m #[(.ref sr), (.int (0 : Int32)), (.ref ds), (.int (0 : Int32)), (.int (2 : Int32))] below meth c s₁ [] 0 0 := Stand.of_body Bd
  have N0 := Fr.nil n0
  rw [own_efc5_2]
  have sg1 : own_V p e below s₁ (mkF m 3 #[rv sr, iv (0 : Int32), rv ds, iv (0 : Int32), iv (2 : Int32), iv (0 : Int32), .unset] []) (mkF m 0 #[rv sr, iv (0 : Int32), rv ds, iv (0 : Int32), iv (2 : Int32), .unset, .unset] []) := by
    intro t kt
    refine XS.iconst X0.here hx rfl (hb hby own_d5_0) ?_
    show own_S p e below s₁ m 1 #[rv sr, iv (0 : Int32), rv ds, iv (0 : Int32), iv (2 : Int32), .unset, .unset] [(.int (0 : Int32))] _
    refine XS.istore X0.here hx rfl (hb hby own_d5_1) rfl (l' := #[rv sr, iv (0 : Int32), rv ds, iv (0 : Int32), iv (2 : Int32), iv (0 : Int32), .unset]) rfl ?_
    show own_S p e below s₁ m 3 #[rv sr, iv (0 : Int32), rv ds, iv (0 : Int32), iv (2 : Int32), iv (0 : Int32), .unset] [] _
    exact kt
  refine own_st sg1 ?_
  have sg2 : own_V p e below s₁ (mkF m 20 #[rv sr, iv (0 : Int32), rv ds, iv (0 : Int32), iv (2 : Int32), iv (0 : Int32), iv (f 0)] [(.int (255 : Int32)), (.int (f 0))]) (mkF m 3 #[rv sr, iv (0 : Int32), rv ds, iv (0 : Int32), iv (2 : Int32), iv (0 : Int32), .unset] []) := by
    intro t kt
    refine XS.iload X0.here hx rfl (hb hby own_d5_3) rfl ?_
    show own_S p e below s₁ m 5 #[rv sr, iv (0 : Int32), rv ds, iv (0 : Int32), iv (2 : Int32), iv (0 : Int32), .unset] [(.int (0 : Int32))] _
    refine XS.iload X0.here hx rfl (hb hby own_d5_5) rfl ?_
    show own_S p e below s₁ m 7 #[rv sr, iv (0 : Int32), rv ds, iv (0 : Int32), iv (2 : Int32), iv (0 : Int32), .unset] [(.int (2 : Int32)), (.int (0 : Int32))] _
    refine XS.icmpNo X0.here hx rfl (hb hby own_d5_7) rfl (tlt (by decide : (0 : Int32) < (2 : Int32))).2.1 ?_
    show own_S p e below s₁ m 10 #[rv sr, iv (0 : Int32), rv ds, iv (0 : Int32), iv (2 : Int32), iv (0 : Int32), .unset] [] _
    refine XS.aloadN X0.here hx rfl (hb hby own_d5_10) rfl rfl ?_
    show own_S p e below s₁ m 11 #[rv sr, iv (0 : Int32), rv ds, iv (0 : Int32), iv (2 : Int32), iv (0 : Int32), .unset] [(.ref sr)] _
    refine XS.iloadN X0.here hx rfl (hb hby own_d5_11) rfl ?_
    show own_S p e below s₁ m 12 #[rv sr, iv (0 : Int32), rv ds, iv (0 : Int32), iv (2 : Int32), iv (0 : Int32), .unset] [(.int (0 : Int32)), (.ref sr)] _
    refine own_rdC X0 hx hZ e0 A (k := 0) (by decide) (by decide) (g := (mkF m 12 #[rv sr, iv (0 : Int32), rv ds, iv (0 : Int32), iv (2 : Int32), iv (0 : Int32), .unset] [(.int (0 : Int32)), (.ref sr)])) rfl rfl (hb hby own_d5_12) _ ?_
    show own_S p e below s₁ m 13 #[rv sr, iv (0 : Int32), rv ds, iv (0 : Int32), iv (2 : Int32), iv (0 : Int32), .unset] [(.int (f 0))] _
    refine XS.istore X0.here hx rfl (hb hby own_d5_13) rfl (l' := #[rv sr, iv (0 : Int32), rv ds, iv (0 : Int32), iv (2 : Int32), iv (0 : Int32), iv (f 0)]) rfl ?_
    show own_S p e below s₁ m 15 #[rv sr, iv (0 : Int32), rv ds, iv (0 : Int32), iv (2 : Int32), iv (0 : Int32), iv (f 0)] [] _
    refine XS.iload X0.here hx rfl (hb hby own_d5_15) rfl ?_
    show own_S p e below s₁ m 17 #[rv sr, iv (0 : Int32), rv ds, iv (0 : Int32), iv (2 : Int32), iv (0 : Int32), iv (f 0)] [(.int (f 0))] _
    refine XS.sipush X0.here hx rfl (hb hby own_d5_17) ?_
    show own_S p e below s₁ m 20 #[rv sr, iv (0 : Int32), rv ds, iv (0 : Int32), iv (2 : Int32), iv (0 : Int32), iv (f 0)] [(.int (255 : Int32)), (.int (f 0))] _
    exact kt
  refine own_st sg2 ?_
  have hc3 : ¬ (255 : Int32) < (f 0) := hf 0 (by decide)
  have sg4 : own_V p e below s₁ (mkF m 26 #[rv sr, iv (0 : Int32), rv ds, iv (0 : Int32), iv (2 : Int32), iv (0 : Int32), iv (f 0)] []) (mkF m 20 #[rv sr, iv (0 : Int32), rv ds, iv (0 : Int32), iv (2 : Int32), iv (0 : Int32), iv (f 0)] [(.int (255 : Int32)), (.int (f 0))]) := by
    intro t kt
    refine XS.icmpYes X0.here hx rfl (pc0 := 20) (pc' := 26) rfl (hb hby own_d5_20) rfl (flt hc3).2.2.2 (by decide) (by decide) ?_
    exact kt
  refine own_st sg4 ?_
  have sg5 : own_V p e below s₁ (mkF m 31 #[rv sr, iv (0 : Int32), rv ds, iv (0 : Int32), iv (2 : Int32), iv (0 : Int32), iv (f 0)] [(.int (f 0).toInt8.toInt32), (.int (0 : Int32)), (.ref ds)]) (mkF m 26 #[rv sr, iv (0 : Int32), rv ds, iv (0 : Int32), iv (2 : Int32), iv (0 : Int32), iv (f 0)] []) := by
    intro t kt
    refine XS.aloadN X0.here hx rfl (hb hby own_d5_26) rfl rfl ?_
    show own_S p e below s₁ m 27 #[rv sr, iv (0 : Int32), rv ds, iv (0 : Int32), iv (2 : Int32), iv (0 : Int32), iv (f 0)] [(.ref ds)] _
    refine XS.iloadN X0.here hx rfl (hb hby own_d5_27) rfl ?_
    show own_S p e below s₁ m 28 #[rv sr, iv (0 : Int32), rv ds, iv (0 : Int32), iv (2 : Int32), iv (0 : Int32), iv (f 0)] [(.int (0 : Int32)), (.ref ds)] _
    refine XS.iload X0.here hx rfl (hb hby own_d5_28) rfl ?_
    show own_S p e below s₁ m 30 #[rv sr, iv (0 : Int32), rv ds, iv (0 : Int32), iv (2 : Int32), iv (0 : Int32), iv (f 0)] [(.int (f 0)), (.int (0 : Int32)), (.ref ds)] _
    refine XS.i2b X0.here hx rfl (hb hby own_d5_30) rfl ?_
    show own_S p e below s₁ m 31 #[rv sr, iv (0 : Int32), rv ds, iv (0 : Int32), iv (2 : Int32), iv (0 : Int32), iv (f 0)] [(.int (f 0).toInt8.toInt32), (.int (0 : Int32)), (.ref ds)] _
    exact kt
  refine own_st sg5 ?_
  obtain ⟨T6, h6, X6, e6, W6, A6, st6⟩ := own_wrB X0 hx hZ e0 B (k := 0) (by decide) (by decide) (g := (mkF m 31 #[rv sr, iv (0 : Int32), rv ds, iv (0 : Int32), iv (2 : Int32), iv (0 : Int32), iv (f 0)] [(.int (f 0).toInt8.toInt32), (.int (0 : Int32)), (.ref ds)])) rfl rfl (hb hby own_d5_31)
  refine own_st st6 ?_
  have Z6 : n0 ≤ h6.size := by rw [Wr.size W6]; exact Z0
  have N6 := Fr.snoc X6 N0 g_ds
  show own_Go p e below _ T6 (mkF m 32 #[rv sr, iv (0 : Int32), rv ds, iv (0 : Int32), iv (2 : Int32), iv (0 : Int32), iv (f 0)] [])
  have A6x := A.other W6 nsd
  have K6 : Keep h0 h6 [ds] := (Keep.refl h0 [ds]).wr W6 (Or.inl (List.mem_of_getElem? (i := 0) rfl))
  have sg7 : own_V p e below T6 (mkF m 3 #[rv sr, iv ((0 : Int32) + (1 : Int32)), rv ds, iv ((0 : Int32) + (1 : Int32)), iv (2 : Int32), iv ((0 : Int32) + (1 : Int32)), iv (f 0)] []) (mkF m 32 #[rv sr, iv (0 : Int32), rv ds, iv (0 : Int32), iv (2 : Int32), iv (0 : Int32), iv (f 0)] []) := by
    intro t kt
    refine XS.iinc X6.here hx rfl (hb hby own_d5_32) rfl (l' := #[rv sr, iv ((0 : Int32) + (1 : Int32)), rv ds, iv (0 : Int32), iv (2 : Int32), iv (0 : Int32), iv (f 0)]) rfl ?_
    show own_S p e below T6 m 35 #[rv sr, iv ((0 : Int32) + (1 : Int32)), rv ds, iv (0 : Int32), iv (2 : Int32), iv (0 : Int32), iv (f 0)] [] _
    refine XS.iinc X6.here hx rfl (hb hby own_d5_35) rfl (l' := #[rv sr, iv ((0 : Int32) + (1 : Int32)), rv ds, iv ((0 : Int32) + (1 : Int32)), iv (2 : Int32), iv (0 : Int32), iv (f 0)]) rfl ?_
    show own_S p e below T6 m 38 #[rv sr, iv ((0 : Int32) + (1 : Int32)), rv ds, iv ((0 : Int32) + (1 : Int32)), iv (2 : Int32), iv (0 : Int32), iv (f 0)] [] _
    refine XS.iinc X6.here hx rfl (hb hby own_d5_38) rfl (l' := #[rv sr, iv ((0 : Int32) + (1 : Int32)), rv ds, iv ((0 : Int32) + (1 : Int32)), iv (2 : Int32), iv ((0 : Int32) + (1 : Int32)), iv (f 0)]) rfl ?_
    show own_S p e below T6 m 41 #[rv sr, iv ((0 : Int32) + (1 : Int32)), rv ds, iv ((0 : Int32) + (1 : Int32)), iv (2 : Int32), iv ((0 : Int32) + (1 : Int32)), iv (f 0)] [] _
    refine XS.goto X6.here hx rfl (pc0 := 41) (pc' := 3) rfl (hb hby own_d5_41) (by decide) (by decide) ?_
    show own_S p e below T6 m 3 #[rv sr, iv ((0 : Int32) + (1 : Int32)), rv ds, iv ((0 : Int32) + (1 : Int32)), iv (2 : Int32), iv ((0 : Int32) + (1 : Int32)), iv (f 0)] [] _
    exact kt
  refine own_st sg7 ?_
  have sg8 : own_V p e below T6 (mkF m 20 #[rv sr, iv ((0 : Int32) + (1 : Int32)), rv ds, iv ((0 : Int32) + (1 : Int32)), iv (2 : Int32), iv ((0 : Int32) + (1 : Int32)), iv (f 1)] [(.int (255 : Int32)), (.int (f 1))]) (mkF m 3 #[rv sr, iv ((0 : Int32) + (1 : Int32)), rv ds, iv ((0 : Int32) + (1 : Int32)), iv (2 : Int32), iv ((0 : Int32) + (1 : Int32)), iv (f 0)] []) := by
    intro t kt
    refine XS.iload X6.here hx rfl (hb hby own_d5_3) rfl ?_
    show own_S p e below T6 m 5 #[rv sr, iv ((0 : Int32) + (1 : Int32)), rv ds, iv ((0 : Int32) + (1 : Int32)), iv (2 : Int32), iv ((0 : Int32) + (1 : Int32)), iv (f 0)] [(.int ((0 : Int32) + (1 : Int32)))] _
    refine XS.iload X6.here hx rfl (hb hby own_d5_5) rfl ?_
    show own_S p e below T6 m 7 #[rv sr, iv ((0 : Int32) + (1 : Int32)), rv ds, iv ((0 : Int32) + (1 : Int32)), iv (2 : Int32), iv ((0 : Int32) + (1 : Int32)), iv (f 0)] [(.int (2 : Int32)), (.int ((0 : Int32) + (1 : Int32)))] _
    refine XS.icmpNo X6.here hx rfl (hb hby own_d5_7) rfl (tlt (by decide : ((0 : Int32) + (1 : Int32)) < (2 : Int32))).2.1 ?_
    show own_S p e below T6 m 10 #[rv sr, iv ((0 : Int32) + (1 : Int32)), rv ds, iv ((0 : Int32) + (1 : Int32)), iv (2 : Int32), iv ((0 : Int32) + (1 : Int32)), iv (f 0)] [] _
    refine XS.aloadN X6.here hx rfl (hb hby own_d5_10) rfl rfl ?_
    show own_S p e below T6 m 11 #[rv sr, iv ((0 : Int32) + (1 : Int32)), rv ds, iv ((0 : Int32) + (1 : Int32)), iv (2 : Int32), iv ((0 : Int32) + (1 : Int32)), iv (f 0)] [(.ref sr)] _
    refine XS.iloadN X6.here hx rfl (hb hby own_d5_11) rfl ?_
    show own_S p e below T6 m 12 #[rv sr, iv ((0 : Int32) + (1 : Int32)), rv ds, iv ((0 : Int32) + (1 : Int32)), iv (2 : Int32), iv ((0 : Int32) + (1 : Int32)), iv (f 0)] [(.int ((0 : Int32) + (1 : Int32))), (.ref sr)] _
    refine own_rdC X6 hx hZ e6 A6x (k := 1) (by decide) (by decide) (g := (mkF m 12 #[rv sr, iv ((0 : Int32) + (1 : Int32)), rv ds, iv ((0 : Int32) + (1 : Int32)), iv (2 : Int32), iv ((0 : Int32) + (1 : Int32)), iv (f 0)] [(.int ((0 : Int32) + (1 : Int32))), (.ref sr)])) rfl rfl (hb hby own_d5_12) _ ?_
    show own_S p e below T6 m 13 #[rv sr, iv ((0 : Int32) + (1 : Int32)), rv ds, iv ((0 : Int32) + (1 : Int32)), iv (2 : Int32), iv ((0 : Int32) + (1 : Int32)), iv (f 0)] [(.int (f 1))] _
    refine XS.istore X6.here hx rfl (hb hby own_d5_13) rfl (l' := #[rv sr, iv ((0 : Int32) + (1 : Int32)), rv ds, iv ((0 : Int32) + (1 : Int32)), iv (2 : Int32), iv ((0 : Int32) + (1 : Int32)), iv (f 1)]) rfl ?_
    show own_S p e below T6 m 15 #[rv sr, iv ((0 : Int32) + (1 : Int32)), rv ds, iv ((0 : Int32) + (1 : Int32)), iv (2 : Int32), iv ((0 : Int32) + (1 : Int32)), iv (f 1)] [] _
    refine XS.iload X6.here hx rfl (hb hby own_d5_15) rfl ?_
    show own_S p e below T6 m 17 #[rv sr, iv ((0 : Int32) + (1 : Int32)), rv ds, iv ((0 : Int32) + (1 : Int32)), iv (2 : Int32), iv ((0 : Int32) + (1 : Int32)), iv (f 1)] [(.int (f 1))] _
    refine XS.sipush X6.here hx rfl (hb hby own_d5_17) ?_
    show own_S p e below T6 m 20 #[rv sr, iv ((0 : Int32) + (1 : Int32)), rv ds, iv ((0 : Int32) + (1 : Int32)), iv (2 : Int32), iv ((0 : Int32) + (1 : Int32)), iv (f 1)] [(.int (255 : Int32)), (.int (f 1))] _
    exact kt
  refine own_st sg8 ?_
  have hc9 : ¬ (255 : Int32) < (f 1) := hf 1 (by decide)
  have sg10 : own_V p e below T6 (mkF m 26 #[rv sr, iv ((0 : Int32) + (1 : Int32)), rv ds, iv ((0 : Int32) + (1 : Int32)), iv (2 : Int32), iv ((0 : Int32) + (1 : Int32)), iv (f 1)] []) (mkF m 20 #[rv sr, iv ((0 : Int32) + (1 : Int32)), rv ds, iv ((0 : Int32) + (1 : Int32)), iv (2 : Int32), iv ((0 : Int32) + (1 : Int32)), iv (f 1)] [(.int (255 : Int32)), (.int (f 1))]) := by
    intro t kt
    refine XS.icmpYes X6.here hx rfl (pc0 := 20) (pc' := 26) rfl (hb hby own_d5_20) rfl (flt hc9).2.2.2 (by decide) (by decide) ?_
    exact kt
  refine own_st sg10 ?_
  have sg11 : own_V p e below T6 (mkF m 31 #[rv sr, iv ((0 : Int32) + (1 : Int32)), rv ds, iv ((0 : Int32) + (1 : Int32)), iv (2 : Int32), iv ((0 : Int32) + (1 : Int32)), iv (f 1)] [(.int (f 1).toInt8.toInt32), (.int ((0 : Int32) + (1 : Int32))), (.ref ds)]) (mkF m 26 #[rv sr, iv ((0 : Int32) + (1 : Int32)), rv ds, iv ((0 : Int32) + (1 : Int32)), iv (2 : Int32), iv ((0 : Int32) + (1 : Int32)), iv (f 1)] []) := by
    intro t kt
    refine XS.aloadN X6.here hx rfl (hb hby own_d5_26) rfl rfl ?_
    show own_S p e below T6 m 27 #[rv sr, iv ((0 : Int32) + (1 : Int32)), rv ds, iv ((0 : Int32) + (1 : Int32)), iv (2 : Int32), iv ((0 : Int32) + (1 : Int32)), iv (f 1)] [(.ref ds)] _
    refine XS.iloadN X6.here hx rfl (hb hby own_d5_27) rfl ?_
    show own_S p e below T6 m 28 #[rv sr, iv ((0 : Int32) + (1 : Int32)), rv ds, iv ((0 : Int32) + (1 : Int32)), iv (2 : Int32), iv ((0 : Int32) + (1 : Int32)), iv (f 1)] [(.int ((0 : Int32) + (1 : Int32))), (.ref ds)] _
    refine XS.iload X6.here hx rfl (hb hby own_d5_28) rfl ?_
    show own_S p e below T6 m 30 #[rv sr, iv ((0 : Int32) + (1 : Int32)), rv ds, iv ((0 : Int32) + (1 : Int32)), iv (2 : Int32), iv ((0 : Int32) + (1 : Int32)), iv (f 1)] [(.int (f 1)), (.int ((0 : Int32) + (1 : Int32))), (.ref ds)] _
    refine XS.i2b X6.here hx rfl (hb hby own_d5_30) rfl ?_
    show own_S p e below T6 m 31 #[rv sr, iv ((0 : Int32) + (1 : Int32)), rv ds, iv ((0 : Int32) + (1 : Int32)), iv (2 : Int32), iv ((0 : Int32) + (1 : Int32)), iv (f 1)] [(.int (f 1).toInt8.toInt32), (.int ((0 : Int32) + (1 : Int32))), (.ref ds)] _
    exact kt
  refine own_st sg11 ?_
  obtain ⟨T12, h12, X12, e12, W12, A12, st12⟩ := own_wrB X6 hx hZ e6 A6 (k := 1) (by decide) (by decide) (g := (mkF m 31 #[rv sr, iv ((0 : Int32) + (1 : Int32)), rv ds, iv ((0 : Int32) + (1 : Int32)), iv (2 : Int32), iv ((0 : Int32) + (1 : Int32)), iv (f 1)] [(.int (f 1).toInt8.toInt32), (.int ((0 : Int32) + (1 : Int32))), (.ref ds)])) rfl rfl (hb hby own_d5_31)
  refine own_st st12 ?_
  have Z12 : n0 ≤ h12.size := by rw [Wr.size W12]; exact Z6
  have N12 := Fr.snoc X12 N6 g_ds
  show own_Go p e below _ T12 (mkF m 32 #[rv sr, iv ((0 : Int32) + (1 : Int32)), rv ds, iv ((0 : Int32) + (1 : Int32)), iv (2 : Int32), iv ((0 : Int32) + (1 : Int32)), iv (f 1)] [])
  have A12x := A6x.other W12 nsd
  have K12 : Keep h0 h12 [ds] := K6.wr W12 (Or.inl (List.mem_of_getElem? (i := 0) rfl))
  have sg13 : own_V p e below T12 (mkF m 3 #[rv sr, iv (((0 : Int32) + (1 : Int32)) + (1 : Int32)), rv ds, iv (((0 : Int32) + (1 : Int32)) + (1 : Int32)), iv (2 : Int32), iv (((0 : Int32) + (1 : Int32)) + (1 : Int32)), iv (f 1)] []) (mkF m 32 #[rv sr, iv ((0 : Int32) + (1 : Int32)), rv ds, iv ((0 : Int32) + (1 : Int32)), iv (2 : Int32), iv ((0 : Int32) + (1 : Int32)), iv (f 1)] []) := by
    intro t kt
    refine XS.iinc X12.here hx rfl (hb hby own_d5_32) rfl (l' := #[rv sr, iv (((0 : Int32) + (1 : Int32)) + (1 : Int32)), rv ds, iv ((0 : Int32) + (1 : Int32)), iv (2 : Int32), iv ((0 : Int32) + (1 : Int32)), iv (f 1)]) rfl ?_
    show own_S p e below T12 m 35 #[rv sr, iv (((0 : Int32) + (1 : Int32)) + (1 : Int32)), rv ds, iv ((0 : Int32) + (1 : Int32)), iv (2 : Int32), iv ((0 : Int32) + (1 : Int32)), iv (f 1)] [] _
    refine XS.iinc X12.here hx rfl (hb hby own_d5_35) rfl (l' := #[rv sr, iv (((0 : Int32) + (1 : Int32)) + (1 : Int32)), rv ds, iv (((0 : Int32) + (1 : Int32)) + (1 : Int32)), iv (2 : Int32), iv ((0 : Int32) + (1 : Int32)), iv (f 1)]) rfl ?_
    show own_S p e below T12 m 38 #[rv sr, iv (((0 : Int32) + (1 : Int32)) + (1 : Int32)), rv ds, iv (((0 : Int32) + (1 : Int32)) + (1 : Int32)), iv (2 : Int32), iv ((0 : Int32) + (1 : Int32)), iv (f 1)] [] _
    refine XS.iinc X12.here hx rfl (hb hby own_d5_38) rfl (l' := #[rv sr, iv (((0 : Int32) + (1 : Int32)) + (1 : Int32)), rv ds, iv (((0 : Int32) + (1 : Int32)) + (1 : Int32)), iv (2 : Int32), iv (((0 : Int32) + (1 : Int32)) + (1 : Int32)), iv (f 1)]) rfl ?_
    show own_S p e below T12 m 41 #[rv sr, iv (((0 : Int32) + (1 : Int32)) + (1 : Int32)), rv ds, iv (((0 : Int32) + (1 : Int32)) + (1 : Int32)), iv (2 : Int32), iv (((0 : Int32) + (1 : Int32)) + (1 : Int32)), iv (f 1)] [] _
    refine XS.goto X12.here hx rfl (pc0 := 41) (pc' := 3) rfl (hb hby own_d5_41) (by decide) (by decide) ?_
    show own_S p e below T12 m 3 #[rv sr, iv (((0 : Int32) + (1 : Int32)) + (1 : Int32)), rv ds, iv (((0 : Int32) + (1 : Int32)) + (1 : Int32)), iv (2 : Int32), iv (((0 : Int32) + (1 : Int32)) + (1 : Int32)), iv (f 1)] [] _
    exact kt
  refine own_st sg13 ?_
  have sg14 : own_V p e below T12 (mkF m 46 #[rv sr, iv (((0 : Int32) + (1 : Int32)) + (1 : Int32)), rv ds, iv (((0 : Int32) + (1 : Int32)) + (1 : Int32)), iv (2 : Int32), iv (((0 : Int32) + (1 : Int32)) + (1 : Int32)), iv (f 1)] [(.int (2 : Int32))]) (mkF m 3 #[rv sr, iv (((0 : Int32) + (1 : Int32)) + (1 : Int32)), rv ds, iv (((0 : Int32) + (1 : Int32)) + (1 : Int32)), iv (2 : Int32), iv (((0 : Int32) + (1 : Int32)) + (1 : Int32)), iv (f 1)] []) := by
    intro t kt
    refine XS.iload X12.here hx rfl (hb hby own_d5_3) rfl ?_
    show own_S p e below T12 m 5 #[rv sr, iv (((0 : Int32) + (1 : Int32)) + (1 : Int32)), rv ds, iv (((0 : Int32) + (1 : Int32)) + (1 : Int32)), iv (2 : Int32), iv (((0 : Int32) + (1 : Int32)) + (1 : Int32)), iv (f 1)] [(.int (((0 : Int32) + (1 : Int32)) + (1 : Int32)))] _
    refine XS.iload X12.here hx rfl (hb hby own_d5_5) rfl ?_
    show own_S p e below T12 m 7 #[rv sr, iv (((0 : Int32) + (1 : Int32)) + (1 : Int32)), rv ds, iv (((0 : Int32) + (1 : Int32)) + (1 : Int32)), iv (2 : Int32), iv (((0 : Int32) + (1 : Int32)) + (1 : Int32)), iv (f 1)] [(.int (2 : Int32)), (.int (((0 : Int32) + (1 : Int32)) + (1 : Int32)))] _
    refine XS.icmpYes X12.here hx rfl (pc0 := 7) (pc' := 44) rfl (hb hby own_d5_7) rfl (flt (by decide : ¬ (((0 : Int32) + (1 : Int32)) + (1 : Int32)) < (2 : Int32))).2.1 (by decide) (by decide) ?_
    show own_S p e below T12 m 44 #[rv sr, iv (((0 : Int32) + (1 : Int32)) + (1 : Int32)), rv ds, iv (((0 : Int32) + (1 : Int32)) + (1 : Int32)), iv (2 : Int32), iv (((0 : Int32) + (1 : Int32)) + (1 : Int32)), iv (f 1)] [] _
    refine XS.iload X12.here hx rfl (hb hby own_d5_44) rfl ?_
    show own_S p e below T12 m 46 #[rv sr, iv (((0 : Int32) + (1 : Int32)) + (1 : Int32)), rv ds, iv (((0 : Int32) + (1 : Int32)) + (1 : Int32)), iv (2 : Int32), iv (((0 : Int32) + (1 : Int32)) + (1 : Int32)), iv (f 1)] [(.int (2 : Int32))] _
    exact kt
  refine own_st sg14 ?_
  have BF : own_AI Z h12 ds .byte 2 (fun i => own_b (f i)) := A12.congr (own_cs_2 rfl rfl)
  exact own_retI X12 hx Bd.notSynchronized Bd.returns (hb hby own_d5_46) (by decide) (by decide) e12 ⟨rfl, N12, K12, BF⟩
theorem own_d4_0 : decode jdk_52_method_16_code 0 = .ok (.iload_n 2, 1) := by decide +kernel
theorem own_d4_1 : decode jdk_52_method_16_code 1 = .ok (.newarray .byte, 2) := by decide +kernel
theorem own_d4_3 : decode jdk_52_method_16_code 3 = .ok (.astore_n 3, 1) := by decide +kernel
theorem own_d4_4 : decode jdk_52_method_16_code 4 = .ok (.aload_n 0, 1) := by decide +kernel
theorem own_d4_5 : decode jdk_52_method_16_code 5 = .ok (.iload_n 1, 1) := by decide +kernel
theorem own_d4_6 : decode jdk_52_method_16_code 6 = .ok (.aload_n 3, 1) := by decide +kernel
theorem own_d4_7 : decode jdk_52_method_16_code 7 = .ok (.iconst 0, 1) := by decide +kernel
theorem own_d4_8 : decode jdk_52_method_16_code 8 = .ok (.iload_n 2, 1) := by decide +kernel
theorem own_d4_9 : decode jdk_52_method_16_code 9 = .ok (.invokestatic 115, 3) := by decide +kernel
theorem own_d4_12 : decode jdk_52_method_16_code 12 = .ok (.istore 4, 2) := by decide +kernel
theorem own_d4_14 : decode jdk_52_method_16_code 14 = .ok (.iload 4, 2) := by decide +kernel
theorem own_d4_16 : decode jdk_52_method_16_code 16 = .ok (.iload_n 2, 1) := by decide +kernel
theorem own_d4_17 : decode jdk_52_method_16_code 17 = .ok (.if_icmp .eq 40, 3) := by decide +kernel
theorem own_d4_20 : decode jdk_52_method_16_code 20 = .ok (.aload_n 0, 1) := by decide +kernel
theorem own_d4_21 : decode jdk_52_method_16_code 21 = .ok (.iload_n 1, 1) := by decide +kernel
theorem own_d4_22 : decode jdk_52_method_16_code 22 = .ok (.iload_n 2, 1) := by decide +kernel
theorem own_d4_23 : decode jdk_52_method_16_code 23 = .ok (.invokestatic 119, 3) := by decide +kernel
theorem own_d4_26 : decode jdk_52_method_16_code 26 = .ok (.astore 5, 2) := by decide +kernel
theorem own_d4_28 : decode jdk_52_method_16_code 28 = .ok (.aload 5, 2) := by decide +kernel
theorem own_d4_30 : decode jdk_52_method_16_code 30 = .ok (.iload 4, 2) := by decide +kernel
theorem own_d4_32 : decode jdk_52_method_16_code 32 = .ok (.invokestatic 71, 3) := by decide +kernel
theorem own_d4_35 : decode jdk_52_method_16_code 35 = .ok (.sipush 255, 3) := by decide +kernel
theorem own_d4_38 : decode jdk_52_method_16_code 38 = .ok (.if_icmp .gt 16, 3) := by decide +kernel
theorem own_d4_41 : decode jdk_52_method_16_code 41 = .ok (.aload 5, 2) := by decide +kernel
theorem own_d4_43 : decode jdk_52_method_16_code 43 = .ok (.iconst 0, 1) := by decide +kernel
theorem own_d4_44 : decode jdk_52_method_16_code 44 = .ok (.aload_n 3, 1) := by decide +kernel
theorem own_d4_45 : decode jdk_52_method_16_code 45 = .ok (.iconst 0, 1) := by decide +kernel
theorem own_d4_46 : decode jdk_52_method_16_code 46 = .ok (.iload_n 2, 1) := by decide +kernel
theorem own_d4_47 : decode jdk_52_method_16_code 47 = .ok (.invokestatic 123, 3) := by decide +kernel
theorem own_d4_50 : decode jdk_52_method_16_code 50 = .ok (.iload_n 2, 1) := by decide +kernel
theorem own_d4_51 : decode jdk_52_method_16_code 51 = .ok (.if_icmp .eq 6, 3) := by decide +kernel
theorem own_d4_54 : decode jdk_52_method_16_code 54 = .ok (.aload 5, 2) := by decide +kernel
theorem own_d4_56 : decode jdk_52_method_16_code 56 = .ok (.areturn, 1) := by decide +kernel
theorem own_d4_57 : decode jdk_52_method_16_code 57 = .ok (.aload_n 3, 1) := by decide +kernel
theorem own_d4_58 : decode jdk_52_method_16_code 58 = .ok (.areturn, 1) := by decide +kernel
theorem own_pd0 : parseMethodDescriptor "([CI[BII)I" = some ⟨[(.array .char), .int, (.array .byte), .int, .int], some .int⟩ := by decide +kernel
theorem own_efc3_2 (m : MethodId) (sr : Nat) : entryFrame m #[(.ref sr), (.int (0 : Int32)), (.int (2 : Int32))] 6 = mkF m 0 #[rv sr, iv (0 : Int32), iv (2 : Int32), .unset, .unset, .unset] [] := by first | (simp [entryFrame, mkF, argsToLocals, Value.category]; done) | rfl
set_option maxRecDepth 65536 in
set_option maxHeartbeats 40000000 in
theorem own_rmc3_2 (l : Launch) (Z : State) (a0 : Array Value) (hw : ∀ d ∈ tables_1, d.before a0 Z = true) (sr : Nat) (f : Nat → Int32) (h0 : Heap) (n0 : Nat) (Z0 : n0 ≤ h0.size) (A : own_AI Z h0 sr .char 2 f) (hf : ∀ i, i < 2 → ¬ (255 : Int32) < f i) :
    own_Ct l Z (⟨"java/lang/StringUTF16", "compress", "([CII)[B"⟩ : MethodName) jdk_52_method_16_code 6 (some (.array .byte)) ({ frames := 1, cells := 1, slots := 2, locals := 18 } : Room) #[(.ref sr), (.int (0 : Int32)), (.int (2 : Int32))] h0 (fun v h L => ∃ b : Nat, v = some (.ref b) ∧ Fr n0 L ∧ Keep h0 h [] ∧ h0.size ≤ b ∧ own_AI Z h b .byte 2 (fun i => own_b (f i))) := by
  refine own_body (y := (⟨"java/lang/StringUTF16", "compress", "([CII)[B"⟩ : MethodName)) (Q := fun v h L => ∃ b : Nat, v = some (.ref b) ∧ Fr n0 L ∧ Keep h0 h [] ∧ h0.size ≤ b ∧ own_AI Z h b .byte 2 (fun i => own_b (f i))) (plainFor_of_name own_pn0) ?_
  intro p e s m below meth c s₁ Bd hml0 hZ e0
  have hx := Bd.exec
  have hby := Bd.bytes
  have hml : c.maxLocals = 6 := hml0
  have hown : s.vm.findClass "java/lang/StringUTF16" = some m.cls := findClass_of_methodNamed Bd.named
  have hnm := (name_of_methodNamed Bd.named Bd.method).1
  have X0 : Stand p l e ({ frames := 1, cells := 1, slots := 2, locals := 18 } : Room) s m #[(.ref sr), (.int (0 : Int32)), (.int (2 : Int32))] below meth c s₁ [] 0 0 := Stand.of_body Bd
  have N0 := Fr.nil n0
  rw [own_efc3_2]
  have sg1 : own_V p e below s₁ (mkF m 1 #[rv sr, iv (0 : Int32), iv (2 : Int32), .unset, .unset, .unset] [(.int (2 : Int32))]) (mkF m 0 #[rv sr, iv (0 : Int32), iv (2 : Int32), .unset, .unset, .unset] []) := by
    intro t kt
    refine XS.iloadN X0.here hx rfl (hb hby own_d4_0) rfl ?_
    show own_S p e below s₁ m 1 #[rv sr, iv (0 : Int32), iv (2 : Int32), .unset, .unset, .unset] [(.int (2 : Int32))] _
    exact kt
  refine own_st sg1 ?_
  obtain ⟨T2, h2, a2, g2, X2, e2, E2, A2, st2⟩ := own_newP (n := 2) X0 hx hZ (hw _ (List.mem_of_getElem? (i := 0) rfl)) e0 (by decide) rfl (g := (mkF m 1 #[rv sr, iv (0 : Int32), iv (2 : Int32), .unset, .unset, .unset] [(.int (2 : Int32))])) rfl rfl (hb hby own_d4_1) (cap := 2) (by decide) (by decide) (by decide) (by decide)
  refine own_st st2 ?_
  have g_a2 : n0 ≤ a2 := by rw [g2]; exact Z0
  have Z2 : n0 ≤ h2.size := Nat.le_trans Z0 E2.1
  have B2 : own_AI Z h2 a2 .byte 2 (fun _ => 0) := A2
  show own_Go p e below _ T2 (mkF m 3 #[rv sr, iv (0 : Int32), iv (2 : Int32), .unset, .unset, .unset] [(.ref a2)])
  have AX := A.ext E2
  have ne : sr ≠ a2 := Nat.ne_of_lt (by rw [g2]; exact A.lt)
  have sz : h0.size ≤ a2 := Nat.le_of_eq g2.symm
  have KE : Keep h0 h2 [] := (Keep.refl h0 []).ext E2
  have sg3 : own_V p e below T2 (mkF m 9 #[rv sr, iv (0 : Int32), iv (2 : Int32), rv a2, .unset, .unset] [(.int (2 : Int32)), (.int (0 : Int32)), (.ref a2), (.int (0 : Int32)), (.ref sr)]) (mkF m 3 #[rv sr, iv (0 : Int32), iv (2 : Int32), .unset, .unset, .unset] [(.ref a2)]) := by
    intro t kt
    refine XS.astoreN X2.here hx rfl (hb hby own_d4_3) rfl rfl (l' := #[rv sr, iv (0 : Int32), iv (2 : Int32), rv a2, .unset, .unset]) rfl ?_
    show own_S p e below T2 m 4 #[rv sr, iv (0 : Int32), iv (2 : Int32), rv a2, .unset, .unset] [] _
    refine XS.aloadN X2.here hx rfl (hb hby own_d4_4) rfl rfl ?_
    show own_S p e below T2 m 5 #[rv sr, iv (0 : Int32), iv (2 : Int32), rv a2, .unset, .unset] [(.ref sr)] _
    refine XS.iloadN X2.here hx rfl (hb hby own_d4_5) rfl ?_
    show own_S p e below T2 m 6 #[rv sr, iv (0 : Int32), iv (2 : Int32), rv a2, .unset, .unset] [(.int (0 : Int32)), (.ref sr)] _
    refine XS.aloadN X2.here hx rfl (hb hby own_d4_6) rfl rfl ?_
    show own_S p e below T2 m 7 #[rv sr, iv (0 : Int32), iv (2 : Int32), rv a2, .unset, .unset] [(.ref a2), (.int (0 : Int32)), (.ref sr)] _
    refine XS.iconst X2.here hx rfl (hb hby own_d4_7) ?_
    show own_S p e below T2 m 8 #[rv sr, iv (0 : Int32), iv (2 : Int32), rv a2, .unset, .unset] [(.int (0 : Int32)), (.ref a2), (.int (0 : Int32)), (.ref sr)] _
    refine XS.iloadN X2.here hx rfl (hb hby own_d4_8) rfl ?_
    show own_S p e below T2 m 9 #[rv sr, iv (0 : Int32), iv (2 : Int32), rv a2, .unset, .unset] [(.int (2 : Int32)), (.int (0 : Int32)), (.ref a2), (.int (0 : Int32)), (.ref sr)] _
    exact kt
  refine own_st sg3 ?_
  obtain ⟨_, T4, L4, X4, hQ4, st4⟩ := own_callS (y := (⟨"java/lang/StringUTF16", "compress", "([CI[BII)I"⟩ : MethodName)) X2 hx hZ hown (hw _ (List.mem_of_getElem? (i := 20) rfl)) (hw _ (List.mem_of_getElem? (i := 21) rfl)) (hw _ (List.mem_of_getElem? (i := 18) rfl)) (hw _ (List.mem_of_getElem? (i := 22) rfl)) (by decide) (own_rmc5_2 l Z a0 hw sr a2 f (fun _ => 0) h2 n0 Z2 AX B2 g_a2 ne hf) e2 (g := (mkF m 9 #[rv sr, iv (0 : Int32), iv (2 : Int32), rv a2, .unset, .unset] [(.int (2 : Int32)), (.int (0 : Int32)), (.ref a2), (.int (0 : Int32)), (.ref sr)])) rfl (by rw [hml]; rfl) (argsL := [(.ref sr), (.int (0 : Int32)), (.ref a2), (.int (0 : Int32)), (.int (2 : Int32))]) (rest := []) (lenOf own_pd0 rfl) rfl (W := 0) (by show 2 * 0 + _ ≤ _; exact Nat.le_of_eq rfl) (hb hby own_d4_9) (by decide) (by decide) (by decide) (by decide)
  obtain ⟨rfl, Nq4, K4, A4⟩ := hQ4
  refine own_st st4 ?_
  have Z4 : n0 ≤ T4.heap.size := Nat.le_trans Z2 K4.1
  have N4 := Fr.app N0 Nq4
  show own_Go p e below _ T4 (mkF m 12 #[rv sr, iv (0 : Int32), iv (2 : Int32), rv a2, .unset, .unset] [(.int (2 : Int32))])
  have sg5 : own_V p e below T4 (mkF m 58 #[rv sr, iv (0 : Int32), iv (2 : Int32), rv a2, iv (2 : Int32), .unset] [(.ref a2)]) (mkF m 12 #[rv sr, iv (0 : Int32), iv (2 : Int32), rv a2, .unset, .unset] [(.int (2 : Int32))]) := by
    intro t kt
    refine XS.istore X4.here hx rfl (hb hby own_d4_12) rfl (l' := #[rv sr, iv (0 : Int32), iv (2 : Int32), rv a2, iv (2 : Int32), .unset]) rfl ?_
    show own_S p e below T4 m 14 #[rv sr, iv (0 : Int32), iv (2 : Int32), rv a2, iv (2 : Int32), .unset] [] _
    refine XS.iload X4.here hx rfl (hb hby own_d4_14) rfl ?_
    show own_S p e below T4 m 16 #[rv sr, iv (0 : Int32), iv (2 : Int32), rv a2, iv (2 : Int32), .unset] [(.int (2 : Int32))] _
    refine XS.iloadN X4.here hx rfl (hb hby own_d4_16) rfl ?_
    show own_S p e below T4 m 17 #[rv sr, iv (0 : Int32), iv (2 : Int32), rv a2, iv (2 : Int32), .unset] [(.int (2 : Int32)), (.int (2 : Int32))] _
    refine XS.icmpYes X4.here hx rfl (pc0 := 17) (pc' := 57) rfl (hb hby own_d4_17) rfl (teq (by decide : (2 : Int32) = (2 : Int32))).1 (by decide) (by decide) ?_
    show own_S p e below T4 m 57 #[rv sr, iv (0 : Int32), iv (2 : Int32), rv a2, iv (2 : Int32), .unset] [] _
    refine XS.aloadN X4.here hx rfl (hb hby own_d4_57) rfl rfl ?_
    show own_S p e below T4 m 58 #[rv sr, iv (0 : Int32), iv (2 : Int32), rv a2, iv (2 : Int32), .unset] [(.ref a2)] _
    exact kt
  refine own_st sg5 ?_
  exact own_retR X4 hx Bd.notSynchronized Bd.returns rfl rfl (hb hby own_d4_58) (by decide) (by decide) rfl ⟨a2, rfl, N4, KE.trans K4 (allS (Or.inr sz) all0), sz, A4⟩
theorem own_d6_0 : decode jdk_52_method_15_code 0 = .ok (.iload_n 1, 1) := by decide +kernel
theorem own_d6_1 : decode jdk_52_method_15_code 1 = .ok (.aload_n 0, 1) := by decide +kernel
theorem own_d6_2 : decode jdk_52_method_15_code 2 = .ok (.arraylength, 1) := by decide +kernel
theorem own_d6_3 : decode jdk_52_method_15_code 3 = .ok (.isub, 1) := by decide +kernel
theorem own_d6_4 : decode jdk_52_method_15_code 4 = .ok (.bipush 31, 2) := by decide +kernel
theorem own_d6_6 : decode jdk_52_method_15_code 6 = .ok (.iushr, 1) := by decide +kernel
theorem own_d6_7 : decode jdk_52_method_15_code 7 = .ok (.i2b, 1) := by decide +kernel
theorem own_d6_8 : decode jdk_52_method_15_code 8 = .ok (.ireturn, 1) := by decide +kernel
theorem own_efcf_2 (m : MethodId) (b : Nat) : entryFrame m #[(.ref b), (.int (2 : Int32))] 2 = mkF m 0 #[rv b, iv (2 : Int32)] [] := by first | (simp [entryFrame, mkF, argsToLocals, Value.category]; done) | rfl
set_option maxRecDepth 65536 in
set_option maxHeartbeats 40000000 in
theorem own_rmcf_2 (l : Launch) (Z : State) (a0 : Array Value) (hw : ∀ d ∈ tables_1, d.before a0 Z = true) (b : Nat) (f : Nat → Int32) (h0 : Heap) (n0 : Nat) (Z0 : n0 ≤ h0.size) (A : own_AI Z h0 b .byte 2 f) :
    own_Ct l Z (⟨"java/lang/StringUTF16", "coderFromArrayLen", "([BI)B"⟩ : MethodName) jdk_52_method_15_code 2 (some .byte) ({ frames := 0, cells := 0, slots := 0, locals := 0 } : Room) #[(.ref b), (.int (2 : Int32))] h0 (fun v h L => v = some (.int 0) ∧ Fr n0 L ∧ h = h0) := by
  refine own_body (y := (⟨"java/lang/StringUTF16", "coderFromArrayLen", "([BI)B"⟩ : MethodName)) (Q := fun v h L => v = some (.int 0) ∧ Fr n0 L ∧ h = h0) (plainFor_of_name own_pn0) ?_
  intro p e s m below meth c s₁ Bd hml0 hZ e0
  have hx := Bd.exec
  have hby := Bd.bytes
  have hml : c.maxLocals = 2 := hml0
  have hown : s.vm.findClass "java/lang/StringUTF16" = some m.cls := findClass_of_methodNamed Bd.named
  have hnm := (name_of_methodNamed Bd.named Bd.method).1
  have X0 : Stand p l e ({ frames := 0, cells := 0, slots := 0, locals := 0 } : Room) s m #[(.ref b), (.int (2 : Int32))] below meth c s₁ [] 0 0 := Stand.of_body Bd
  have N0 := Fr.nil n0
  rw [own_efcf_2]
  obtain ⟨rr, hrr⟩ : ∃ z : Int32, z = ((((2 : Int32) - (2 : Int32)).toUInt32 >>> ((31 : Int32) &&& 31).toUInt32).toInt32).toInt8.toInt32 := ⟨_, rfl⟩
  have sg1 : own_V p e below s₁ (mkF m 8 #[rv b, iv (2 : Int32)] [(.int rr)]) (mkF m 0 #[rv b, iv (2 : Int32)] []) := by
    intro t kt
    refine XS.iloadN X0.here hx rfl (hb hby own_d6_0) rfl ?_
    show own_S p e below s₁ m 1 #[rv b, iv (2 : Int32)] [(.int (2 : Int32))] _
    refine XS.aloadN X0.here hx rfl (hb hby own_d6_1) rfl rfl ?_
    show own_S p e below s₁ m 2 #[rv b, iv (2 : Int32)] [(.ref b), (.int (2 : Int32))] _
    refine own_len (z := (2 : Int32)) X0 hx hZ e0 A (by decide) (g := (mkF m 2 #[rv b, iv (2 : Int32)] [(.ref b), (.int (2 : Int32))])) rfl rfl (hb hby own_d6_2) _ ?_
    show own_S p e below s₁ m 3 #[rv b, iv (2 : Int32)] [(.int (2 : Int32)), (.int (2 : Int32))] _
    refine XS.isub X0.here hx rfl (hb hby own_d6_3) rfl ?_
    show own_S p e below s₁ m 4 #[rv b, iv (2 : Int32)] [(.int ((2 : Int32) - (2 : Int32)))] _
    refine XS.bipush X0.here hx rfl (hb hby own_d6_4) ?_
    show own_S p e below s₁ m 6 #[rv b, iv (2 : Int32)] [(.int (31 : Int32)), (.int ((2 : Int32) - (2 : Int32)))] _
    refine XS.iushr X0.here hx rfl (hb hby own_d6_6) rfl ?_
    show own_S p e below s₁ m 7 #[rv b, iv (2 : Int32)] [(.int ((((2 : Int32) - (2 : Int32)).toUInt32 >>> ((31 : Int32) &&& 31).toUInt32).toInt32))] _
    refine XS.i2b X0.here hx rfl (hb hby own_d6_7) rfl ?_
    show own_S p e below s₁ m 8 #[rv b, iv (2 : Int32)] [(.int ((((2 : Int32) - (2 : Int32)).toUInt32 >>> ((31 : Int32) &&& 31).toUInt32).toInt32).toInt8.toInt32)] _
    rw [hrr] at kt
    exact kt
  refine own_st sg1 ?_
  have hr0 : rr = 0 := by rw [hrr]; decide
  rw [hr0]
  show own_Go p e below _ s₁ (mkF m 8 #[rv b, iv (2 : Int32)] [(.int (0 : Int32))])
  exact own_retB X0 hx Bd.notSynchronized Bd.returns (hb hby own_d6_8) (by decide) (by decide) (by decide) e0 ⟨rfl, N0, rfl⟩
theorem own_d2_0 : decode jdk_42_method_149_code 0 = .ok (.aload_n 0, 1) := by decide +kernel
theorem own_d2_1 : decode jdk_42_method_149_code 1 = .ok (.invokespecial 1, 3) := by decide +kernel
theorem own_d2_4 : decode jdk_42_method_149_code 4 = .ok (.iload_n 3, 1) := by decide +kernel
theorem own_d2_5 : decode jdk_42_method_149_code 5 = .ok (.ifCond .ne 22, 3) := by decide +kernel
theorem own_d2_8 : decode jdk_42_method_149_code 8 = .ok (.aload_n 0, 1) := by decide +kernel
theorem own_d2_9 : decode jdk_42_method_149_code 9 = .ok (.ldc 7, 2) := by decide +kernel
theorem own_d2_11 : decode jdk_42_method_149_code 11 = .ok (.getfield 9, 3) := by decide +kernel
theorem own_d2_14 : decode jdk_42_method_149_code 14 = .ok (.putfield 9, 3) := by decide +kernel
theorem own_d2_17 : decode jdk_42_method_149_code 17 = .ok (.aload_n 0, 1) := by decide +kernel
theorem own_d2_18 : decode jdk_42_method_149_code 18 = .ok (.ldc 7, 2) := by decide +kernel
theorem own_d2_20 : decode jdk_42_method_149_code 20 = .ok (.getfield 15, 3) := by decide +kernel
theorem own_d2_23 : decode jdk_42_method_149_code 23 = .ok (.putfield 15, 3) := by decide +kernel
theorem own_d2_26 : decode jdk_42_method_149_code 26 = .ok (.return_, 1) := by decide +kernel
theorem own_d2_27 : decode jdk_42_method_149_code 27 = .ok (.getstatic 38, 3) := by decide +kernel
theorem own_d2_30 : decode jdk_42_method_149_code 30 = .ok (.ifCond .eq 28, 3) := by decide +kernel
theorem own_d2_33 : decode jdk_42_method_149_code 33 = .ok (.aload_n 1, 1) := by decide +kernel
theorem own_d2_34 : decode jdk_42_method_149_code 34 = .ok (.iload_n 2, 1) := by decide +kernel
theorem own_d2_35 : decode jdk_42_method_149_code 35 = .ok (.iload_n 3, 1) := by decide +kernel
theorem own_d2_36 : decode jdk_42_method_149_code 36 = .ok (.invokestatic 177, 3) := by decide +kernel
theorem own_d2_39 : decode jdk_42_method_149_code 39 = .ok (.astore 5, 2) := by decide +kernel
theorem own_d2_41 : decode jdk_42_method_149_code 41 = .ok (.aload_n 0, 1) := by decide +kernel
theorem own_d2_42 : decode jdk_42_method_149_code 42 = .ok (.aload 5, 2) := by decide +kernel
theorem own_d2_44 : decode jdk_42_method_149_code 44 = .ok (.iload_n 3, 1) := by decide +kernel
theorem own_d2_45 : decode jdk_42_method_149_code 45 = .ok (.invokestatic 47, 3) := by decide +kernel
theorem own_d2_48 : decode jdk_42_method_149_code 48 = .ok (.putfield 15, 3) := by decide +kernel
theorem own_d2_51 : decode jdk_42_method_149_code 51 = .ok (.aload_n 0, 1) := by decide +kernel
theorem own_d2_52 : decode jdk_42_method_149_code 52 = .ok (.aload 5, 2) := by decide +kernel
theorem own_d2_54 : decode jdk_42_method_149_code 54 = .ok (.putfield 9, 3) := by decide +kernel
theorem own_d2_57 : decode jdk_42_method_149_code 57 = .ok (.return_, 1) := by decide +kernel
theorem own_d2_58 : decode jdk_42_method_149_code 58 = .ok (.aload_n 0, 1) := by decide +kernel
theorem own_d2_59 : decode jdk_42_method_149_code 59 = .ok (.iconst 1, 1) := by decide +kernel
theorem own_d2_60 : decode jdk_42_method_149_code 60 = .ok (.putfield 15, 3) := by decide +kernel
theorem own_d2_63 : decode jdk_42_method_149_code 63 = .ok (.aload_n 0, 1) := by decide +kernel
theorem own_d2_64 : decode jdk_42_method_149_code 64 = .ok (.aload_n 1, 1) := by decide +kernel
theorem own_d2_65 : decode jdk_42_method_149_code 65 = .ok (.iload_n 2, 1) := by decide +kernel
theorem own_d2_66 : decode jdk_42_method_149_code 66 = .ok (.iload_n 3, 1) := by decide +kernel
theorem own_d2_67 : decode jdk_42_method_149_code 67 = .ok (.invokestatic 180, 3) := by decide +kernel
theorem own_d2_70 : decode jdk_42_method_149_code 70 = .ok (.putfield 9, 3) := by decide +kernel
theorem own_d2_73 : decode jdk_42_method_149_code 73 = .ok (.return_, 1) := by decide +kernel
theorem own_pd1 : parseMethodDescriptor "([CII)[B" = some ⟨[(.array .char), .int, .int], some (.array .byte)⟩ := by decide +kernel
theorem own_pd2 : parseMethodDescriptor "([BI)B" = some ⟨[(.array .byte), .int], some .byte⟩ := by decide +kernel
theorem own_pn1 : plainName "java/lang/String" = true := by first | (simp [plainName, overriddenIn]; done) | decide +kernel
theorem own_efsv_2 (m : MethodId) (a : Nat) (sr : Nat) : entryFrame m #[(.ref a), (.ref sr), (.int (0 : Int32)), (.int (2 : Int32)), .null] 6 = mkF m 0 #[rv a, rv sr, iv (0 : Int32), iv (2 : Int32), .val .null, .unset] [] := by first | (simp [entryFrame, mkF, argsToLocals, Value.category]; done) | rfl
set_option maxRecDepth 65536 in
set_option maxHeartbeats 40000000 in
theorem own_rmsv_2 (l : Launch) (Z : State) (a0 : Array Value) (hw : ∀ d ∈ tables_1, d.before a0 Z = true) (a : Nat) (sr : Nat) (cc : Int32) (f : Nat → Int32) (h0 : Heap) (n0 : Nat) (Z0 : n0 ≤ h0.size) (EE : Exa Z h0 a "java/lang/String") (Fv : Fld Z h0 a "java/lang/String" "value" "[B" .null) (Fc : Fld Z h0 a "java/lang/String" "coder" "B" (.int (0 : Int32))) (A : own_AI Z h0 sr .char 2 f) (hf : ∀ i, i < 2 → ¬ (255 : Int32) < f i) (SC : Sta Z h0 "java/lang/String" "COMPACT_STRINGS" "Z" (.int cc)) (hcc : ¬ cc = 0) (g_a : n0 ≤ a) :
    own_Ct l Z (⟨"java/lang/String", "<init>", "([CIILjava/lang/Void;)V"⟩ : MethodName) jdk_42_method_149_code 6 none ({ frames := 2, cells := 1, slots := 2, locals := 35 } : Room) #[(.ref a), (.ref sr), (.int (0 : Int32)), (.int (2 : Int32)), .null] h0 (fun v h L => v = none ∧ Fr n0 L ∧ Keep h0 h [a] ∧ Exa Z h a "java/lang/String" ∧ Fld Z h a "java/lang/String" "coder" "B" (.int 0) ∧ ∃ b : Nat, h0.size ≤ b ∧ Fld Z h a "java/lang/String" "value" "[B" (.ref b) ∧ own_AI Z h b .byte 2 (fun i => own_b (f i))) := by
  refine own_body (y := (⟨"java/lang/String", "<init>", "([CIILjava/lang/Void;)V"⟩ : MethodName)) (Q := fun v h L => v = none ∧ Fr n0 L ∧ Keep h0 h [a] ∧ Exa Z h a "java/lang/String" ∧ Fld Z h a "java/lang/String" "coder" "B" (.int 0) ∧ ∃ b : Nat, h0.size ≤ b ∧ Fld Z h a "java/lang/String" "value" "[B" (.ref b) ∧ own_AI Z h b .byte 2 (fun i => own_b (f i))) (plainFor_of_name own_pn1) ?_
  intro p e s m below meth c s₁ Bd hml0 hZ e0
  have hx := Bd.exec
  have hby := Bd.bytes
  have hml : c.maxLocals = 6 := hml0
  have hown : s.vm.findClass "java/lang/String" = some m.cls := findClass_of_methodNamed Bd.named
  have hnm := (name_of_methodNamed Bd.named Bd.method).1
  have X0 : Stand p l e ({ frames := 2, cells := 1, slots := 2, locals := 35 } : Room) s m #[(.ref a), (.ref sr), (.int (0 : Int32)), (.int (2 : Int32)), .null] below meth c s₁ [] 0 0 := Stand.of_body Bd
  have N0 := Fr.nil n0
  rw [own_efsv_2]
  have lta : a < h0.size := EE.lt
  have sg1 : own_V p e below s₁ (mkF m 1 #[rv a, rv sr, iv (0 : Int32), iv (2 : Int32), .val .null, .unset] [(.ref a)]) (mkF m 0 #[rv a, rv sr, iv (0 : Int32), iv (2 : Int32), .val .null, .unset] []) := by
    intro t kt
    refine XS.aloadN X0.here hx rfl (hb hby own_d2_0) rfl rfl ?_
    show own_S p e below s₁ m 1 #[rv a, rv sr, iv (0 : Int32), iv (2 : Int32), .val .null, .unset] [(.ref a)] _
    exact kt
  refine own_st sg1 ?_
  obtain ⟨T2, X2, e2, st2⟩ := initO X0 hx hZ hown (hw _ (List.mem_of_getElem? (i := 12) rfl)) (hw _ (List.mem_of_getElem? (i := 13) rfl)) (hw _ (List.mem_of_getElem? (i := 14) rfl)) e0 (g := (mkF m 1 #[rv a, rv sr, iv (0 : Int32), iv (2 : Int32), .val .null, .unset] [(.ref a)])) rfl (by rw [hml]; rfl) rfl (hb hby own_d2_1) (by decide) (W := 0) (by show 2 * 0 + _ ≤ _; exact Nat.le_of_eq rfl) (by decide)
  refine own_st st2 ?_
  show own_Go p e below _ T2 (mkF m 4 #[rv a, rv sr, iv (0 : Int32), iv (2 : Int32), .val .null, .unset] [])
  have sg3 : own_V p e below T2 (mkF m 27 #[rv a, rv sr, iv (0 : Int32), iv (2 : Int32), .val .null, .unset] []) (mkF m 4 #[rv a, rv sr, iv (0 : Int32), iv (2 : Int32), .val .null, .unset] []) := by
    intro t kt
    refine XS.iloadN X2.here hx rfl (hb hby own_d2_4) rfl ?_
    show own_S p e below T2 m 5 #[rv a, rv sr, iv (0 : Int32), iv (2 : Int32), .val .null, .unset] [(.int (2 : Int32))] _
    refine XS.ifYes X2.here hx rfl (pc0 := 5) (pc' := 27) rfl (hb hby own_d2_5) rfl ((if0 _ _).trans (feq (by decide : ¬ (2 : Int32) = (0 : Int32))).2) (by decide) (by decide) ?_
    show own_S p e below T2 m 27 #[rv a, rv sr, iv (0 : Int32), iv (2 : Int32), .val .null, .unset] [] _
    exact kt
  refine own_st sg3 ?_
  obtain ⟨T4, X4, e4, st4⟩ := getS2 X2 hx hZ hown (host := "") (Or.inl (hw _ (List.mem_of_getElem? (i := 15) rfl))) Via.refl e2 SC (g := (mkF m 27 #[rv a, rv sr, iv (0 : Int32), iv (2 : Int32), .val .null, .unset] [])) rfl (hb hby own_d2_27)
  refine own_st st4 ?_
  show own_Go p e below _ T4 (mkF m 30 #[rv a, rv sr, iv (0 : Int32), iv (2 : Int32), .val .null, .unset] [(.int cc)])
  have hc5 : ¬ cc = (0 : Int32) := hcc
  have sg6 : own_V p e below T4 (mkF m 33 #[rv a, rv sr, iv (0 : Int32), iv (2 : Int32), .val .null, .unset] []) (mkF m 30 #[rv a, rv sr, iv (0 : Int32), iv (2 : Int32), .val .null, .unset] [(.int cc)]) := by
    intro t kt
    refine XS.ifNo X4.here hx rfl (hb hby own_d2_30) rfl ((if0 _ _).trans (feq hc5).1) ?_
    exact kt
  refine own_st sg6 ?_
  have sg7 : own_V p e below T4 (mkF m 36 #[rv a, rv sr, iv (0 : Int32), iv (2 : Int32), .val .null, .unset] [(.int (2 : Int32)), (.int (0 : Int32)), (.ref sr)]) (mkF m 33 #[rv a, rv sr, iv (0 : Int32), iv (2 : Int32), .val .null, .unset] []) := by
    intro t kt
    refine XS.aloadN X4.here hx rfl (hb hby own_d2_33) rfl rfl ?_
    show own_S p e below T4 m 34 #[rv a, rv sr, iv (0 : Int32), iv (2 : Int32), .val .null, .unset] [(.ref sr)] _
    refine XS.iloadN X4.here hx rfl (hb hby own_d2_34) rfl ?_
    show own_S p e below T4 m 35 #[rv a, rv sr, iv (0 : Int32), iv (2 : Int32), .val .null, .unset] [(.int (0 : Int32)), (.ref sr)] _
    refine XS.iloadN X4.here hx rfl (hb hby own_d2_35) rfl ?_
    show own_S p e below T4 m 36 #[rv a, rv sr, iv (0 : Int32), iv (2 : Int32), .val .null, .unset] [(.int (2 : Int32)), (.int (0 : Int32)), (.ref sr)] _
    exact kt
  refine own_st sg7 ?_
  obtain ⟨_, T8, L8, X8, hQ8, st8⟩ := own_callS (y := (⟨"java/lang/StringUTF16", "compress", "([CII)[B"⟩ : MethodName)) X4 hx hZ hown (hw _ (List.mem_of_getElem? (i := 16) rfl)) (hw _ (List.mem_of_getElem? (i := 17) rfl)) (hw _ (List.mem_of_getElem? (i := 18) rfl)) (hw _ (List.mem_of_getElem? (i := 19) rfl)) (by decide) (own_rmc3_2 l Z a0 hw sr f h0 n0 Z0 A hf) e4 (g := (mkF m 36 #[rv a, rv sr, iv (0 : Int32), iv (2 : Int32), .val .null, .unset] [(.int (2 : Int32)), (.int (0 : Int32)), (.ref sr)])) rfl (by rw [hml]; rfl) (argsL := [(.ref sr), (.int (0 : Int32)), (.int (2 : Int32))]) (rest := []) (lenOf own_pd1 rfl) rfl (W := 0) (by show 2 * 0 + _ ≤ _; exact Nat.le_of_eq rfl) (hb hby own_d2_36) (by decide) (by decide) (by decide) (by decide)
  obtain ⟨b8, rfl, Nq8, K8, sb8, A8⟩ := hQ8
  refine own_st st8 ?_
  have Z8 : n0 ≤ T8.heap.size := Nat.le_trans Z0 K8.1
  have N8 := Fr.app N0 Nq8
  show own_Go p e below _ T8 (mkF m 39 #[rv a, rv sr, iv (0 : Int32), iv (2 : Int32), .val .null, .unset] [(.ref b8)])
  have EE_8 := EE.keep K8
  have Fv_8 := Fv.keep K8 nin0
  have Fc_8 := Fc.keep K8 nin0
  have KA8 : Keep h0 T8.heap [a] := (Keep.refl h0 [a]).trans K8 all0
  have sg9 : own_V p e below T8 (mkF m 45 #[rv a, rv sr, iv (0 : Int32), iv (2 : Int32), .val .null, rv b8] [(.int (2 : Int32)), (.ref b8), (.ref a)]) (mkF m 39 #[rv a, rv sr, iv (0 : Int32), iv (2 : Int32), .val .null, .unset] [(.ref b8)]) := by
    intro t kt
    refine XS.astore X8.here hx rfl (hb hby own_d2_39) rfl rfl (l' := #[rv a, rv sr, iv (0 : Int32), iv (2 : Int32), .val .null, rv b8]) rfl ?_
    show own_S p e below T8 m 41 #[rv a, rv sr, iv (0 : Int32), iv (2 : Int32), .val .null, rv b8] [] _
    refine XS.aloadN X8.here hx rfl (hb hby own_d2_41) rfl rfl ?_
    show own_S p e below T8 m 42 #[rv a, rv sr, iv (0 : Int32), iv (2 : Int32), .val .null, rv b8] [(.ref a)] _
    refine XS.aload X8.here hx rfl (hb hby own_d2_42) rfl rfl ?_
    show own_S p e below T8 m 44 #[rv a, rv sr, iv (0 : Int32), iv (2 : Int32), .val .null, rv b8] [(.ref b8), (.ref a)] _
    refine XS.iloadN X8.here hx rfl (hb hby own_d2_44) rfl ?_
    show own_S p e below T8 m 45 #[rv a, rv sr, iv (0 : Int32), iv (2 : Int32), .val .null, rv b8] [(.int (2 : Int32)), (.ref b8), (.ref a)] _
    exact kt
  refine own_st sg9 ?_
  obtain ⟨_, T10, L10, X10, hQ10, st10⟩ := own_callS (y := (⟨"java/lang/StringUTF16", "coderFromArrayLen", "([BI)B"⟩ : MethodName)) X8 hx hZ hown (hw _ (List.mem_of_getElem? (i := 23) rfl)) (hw _ (List.mem_of_getElem? (i := 24) rfl)) (hw _ (List.mem_of_getElem? (i := 18) rfl)) (hw _ (List.mem_of_getElem? (i := 25) rfl)) (by decide) (own_rmcf_2 l Z a0 hw b8 (fun i => own_b (f i)) T8.heap n0 Z8 A8) rfl (g := (mkF m 45 #[rv a, rv sr, iv (0 : Int32), iv (2 : Int32), .val .null, rv b8] [(.int (2 : Int32)), (.ref b8), (.ref a)])) rfl (by rw [hml]; rfl) (argsL := [(.ref b8), (.int (2 : Int32))]) (rest := [(.ref a)]) (lenOf own_pd2 rfl) rfl (W := 1) (by show 2 * 0 + _ ≤ _; exact Nat.le_of_eq rfl) (hb hby own_d2_45) (by decide) (by decide) (by decide) (by decide)
  obtain ⟨rfl, Nq10, e10⟩ := hQ10
  refine own_st st10 ?_
  have N10 := Fr.app N8 Nq10
  show own_Go p e below _ T10 (mkF m 48 #[rv a, rv sr, iv (0 : Int32), iv (2 : Int32), .val .null, rv b8] [(.int (0 : Int32)), (.ref a)])
  obtain ⟨T11, h11, X11, e11, W11, st11⟩ := putFN X10 hx hZ hown (hw _ (List.mem_of_getElem? (i := 26) rfl)) Via.refl e10 Fc_8 EE_8 (Or.inr ⟨(hw _ (List.mem_of_getElem? (i := 27) rfl)), rfl, hnm⟩) (hw _ (List.mem_of_getElem? (i := 3) rfl)) (ty := .byte) (v' := (.int (nar .byte (0 : Int32)))) (by decide) rfl (fits_nar_byte _) (g := (mkF m 48 #[rv a, rv sr, iv (0 : Int32), iv (2 : Int32), .val .null, rv b8] [(.int (0 : Int32)), (.ref a)])) rfl rfl (hb hby own_d2_48)
  refine own_st st11 ?_
  have Z11 : n0 ≤ h11.size := by rw [Wr.size W11]; exact Z8
  have N11 := Fr.snoc X11 N10 g_a
  show own_Go p e below _ T11 (mkF m 51 #[rv a, rv sr, iv (0 : Int32), iv (2 : Int32), .val .null, rv b8] [])
  have KK11 := Keep.of_wr W11
  have Fv_11 := Fv_8.other W11 (Or.inr (slot_ne (Or.inr (hw _ (List.mem_of_getElem? (i := 29) rfl))) (Or.inr (hw _ (List.mem_of_getElem? (i := 27) rfl))) (by decide) (t := (.array .byte)) (t' := .byte) (by decide) (by decide)))
  have EE_11 := EE_8.keep KK11
  have AB_11 := A8.keep KK11 (own_ninS (by omega) nin0)
  have Fc_11 := Fc_8.same W11
  have KA11 : Keep h0 h11 [a] := KA8.wr W11 (Or.inl (List.mem_of_getElem? (i := 0) rfl))
  have sg12 : own_V p e below T11 (mkF m 54 #[rv a, rv sr, iv (0 : Int32), iv (2 : Int32), .val .null, rv b8] [(.ref b8), (.ref a)]) (mkF m 51 #[rv a, rv sr, iv (0 : Int32), iv (2 : Int32), .val .null, rv b8] []) := by
    intro t kt
    refine XS.aloadN X11.here hx rfl (hb hby own_d2_51) rfl rfl ?_
    show own_S p e below T11 m 52 #[rv a, rv sr, iv (0 : Int32), iv (2 : Int32), .val .null, rv b8] [(.ref a)] _
    refine XS.aload X11.here hx rfl (hb hby own_d2_52) rfl rfl ?_
    show own_S p e below T11 m 54 #[rv a, rv sr, iv (0 : Int32), iv (2 : Int32), .val .null, rv b8] [(.ref b8), (.ref a)] _
    exact kt
  refine own_st sg12 ?_
  obtain ⟨T13, h13, X13, e13, W13, st13⟩ := putF X11 hx hZ hown (host := "") (Or.inl (hw _ (List.mem_of_getElem? (i := 28) rfl))) Via.refl e11 Fv_11 EE_11 (Or.inr ⟨(hw _ (List.mem_of_getElem? (i := 29) rfl)), rfl, hnm⟩) (hw _ (List.mem_of_getElem? (i := 3) rfl)) (ty := (.array .byte)) (by decide) rfl rfl (g := (mkF m 54 #[rv a, rv sr, iv (0 : Int32), iv (2 : Int32), .val .null, rv b8] [(.ref b8), (.ref a)])) rfl rfl (hb hby own_d2_54)
  refine own_st st13 ?_
  have Z13 : n0 ≤ h13.size := by rw [Wr.size W13]; exact Z11
  have N13 := Fr.snoc X13 N11 g_a
  show own_Go p e below _ T13 (mkF m 57 #[rv a, rv sr, iv (0 : Int32), iv (2 : Int32), .val .null, rv b8] [])
  have KK13 := Keep.of_wr W13
  have Fc_13 := Fc_11.other W13 (Or.inr (slot_ne (Or.inr (hw _ (List.mem_of_getElem? (i := 27) rfl))) (Or.inr (hw _ (List.mem_of_getElem? (i := 29) rfl))) (by decide) (t := .byte) (t' := (.array .byte)) (by decide) (by decide)))
  have EE_13 := EE_11.keep KK13
  have AB_13 := AB_11.keep KK13 (own_ninS (by omega) nin0)
  have Fv_13 := Fv_11.same W13
  have KA13 : Keep h0 h13 [a] := KA11.wr W13 (Or.inl (List.mem_of_getElem? (i := 0) rfl))
  have FC : Fld Z h13 a "java/lang/String" "coder" "B" (.int 0) := Fc_13
  exact own_retV X13 hx Bd.notSynchronized Bd.returns (hb hby own_d2_57) (by decide) (by decide) e13 ⟨rfl, N13, KA13, EE_13, FC, b8, sb8, Fv_13, AB_13⟩
theorem own_d1_0 : decode jdk_42_method_3_code 0 = .ok (.aload_n 0, 1) := by decide +kernel
theorem own_d1_1 : decode jdk_42_method_3_code 1 = .ok (.aload_n 1, 1) := by decide +kernel
theorem own_d1_2 : decode jdk_42_method_3_code 2 = .ok (.iconst 0, 1) := by decide +kernel
theorem own_d1_3 : decode jdk_42_method_3_code 3 = .ok (.aload_n 1, 1) := by decide +kernel
theorem own_d1_4 : decode jdk_42_method_3_code 4 = .ok (.arraylength, 1) := by decide +kernel
theorem own_d1_5 : decode jdk_42_method_3_code 5 = .ok (.aconst_null, 1) := by decide +kernel
theorem own_d1_6 : decode jdk_42_method_3_code 6 = .ok (.invokespecial 27, 3) := by decide +kernel
theorem own_d1_9 : decode jdk_42_method_3_code 9 = .ok (.return_, 1) := by decide +kernel
theorem own_pd3 : parseMethodDescriptor "([CIILjava/lang/Void;)V" = some ⟨[(.array .char), .int, .int, (.object "java/lang/Void")], none⟩ := by decide +kernel
theorem own_efsi_2 (m : MethodId) (a : Nat) (sr : Nat) : entryFrame m #[(.ref a), (.ref sr)] 2 = mkF m 0 #[rv a, rv sr] [] := by first | (simp [entryFrame, mkF, argsToLocals, Value.category]; done) | rfl
set_option maxRecDepth 65536 in
set_option maxHeartbeats 40000000 in
theorem own_rmsi_2 (l : Launch) (Z : State) (a0 : Array Value) (hw : ∀ d ∈ tables_1, d.before a0 Z = true) (a : Nat) (sr : Nat) (cc : Int32) (f : Nat → Int32) (h0 : Heap) (n0 : Nat) (Z0 : n0 ≤ h0.size) (EE : Exa Z h0 a "java/lang/String") (Fv : Fld Z h0 a "java/lang/String" "value" "[B" .null) (Fc : Fld Z h0 a "java/lang/String" "coder" "B" (.int (0 : Int32))) (A : own_AI Z h0 sr .char 2 f) (hf : ∀ i, i < 2 → ¬ (255 : Int32) < f i) (SC : Sta Z h0 "java/lang/String" "COMPACT_STRINGS" "Z" (.int cc)) (hcc : ¬ cc = 0) (g_a : n0 ≤ a) :
    own_Ct l Z (⟨"java/lang/String", "<init>", "([C)V"⟩ : MethodName) jdk_42_method_3_code 2 none ({ frames := 3, cells := 1, slots := 2, locals := 52 } : Room) #[(.ref a), (.ref sr)] h0 (fun v h L => v = none ∧ Fr n0 L ∧ Keep h0 h [a] ∧ Exa Z h a "java/lang/String" ∧ Fld Z h a "java/lang/String" "coder" "B" (.int 0) ∧ ∃ b : Nat, h0.size ≤ b ∧ Fld Z h a "java/lang/String" "value" "[B" (.ref b) ∧ own_AI Z h b .byte 2 (fun i => own_b (f i))) := by
  refine own_body (y := (⟨"java/lang/String", "<init>", "([C)V"⟩ : MethodName)) (Q := fun v h L => v = none ∧ Fr n0 L ∧ Keep h0 h [a] ∧ Exa Z h a "java/lang/String" ∧ Fld Z h a "java/lang/String" "coder" "B" (.int 0) ∧ ∃ b : Nat, h0.size ≤ b ∧ Fld Z h a "java/lang/String" "value" "[B" (.ref b) ∧ own_AI Z h b .byte 2 (fun i => own_b (f i))) (plainFor_of_name own_pn1) ?_
  intro p e s m below meth c s₁ Bd hml0 hZ e0
  have hx := Bd.exec
  have hby := Bd.bytes
  have hml : c.maxLocals = 2 := hml0
  have hown : s.vm.findClass "java/lang/String" = some m.cls := findClass_of_methodNamed Bd.named
  have hnm := (name_of_methodNamed Bd.named Bd.method).1
  have X0 : Stand p l e ({ frames := 3, cells := 1, slots := 2, locals := 52 } : Room) s m #[(.ref a), (.ref sr)] below meth c s₁ [] 0 0 := Stand.of_body Bd
  have N0 := Fr.nil n0
  rw [own_efsi_2]
  have sg1 : own_V p e below s₁ (mkF m 6 #[rv a, rv sr] [.null, (.int (2 : Int32)), (.int (0 : Int32)), (.ref sr), (.ref a)]) (mkF m 0 #[rv a, rv sr] []) := by
    intro t kt
    refine XS.aloadN X0.here hx rfl (hb hby own_d1_0) rfl rfl ?_
    show own_S p e below s₁ m 1 #[rv a, rv sr] [(.ref a)] _
    refine XS.aloadN X0.here hx rfl (hb hby own_d1_1) rfl rfl ?_
    show own_S p e below s₁ m 2 #[rv a, rv sr] [(.ref sr), (.ref a)] _
    refine XS.iconst X0.here hx rfl (hb hby own_d1_2) ?_
    show own_S p e below s₁ m 3 #[rv a, rv sr] [(.int (0 : Int32)), (.ref sr), (.ref a)] _
    refine XS.aloadN X0.here hx rfl (hb hby own_d1_3) rfl rfl ?_
    show own_S p e below s₁ m 4 #[rv a, rv sr] [(.ref sr), (.int (0 : Int32)), (.ref sr), (.ref a)] _
    refine own_len (z := (2 : Int32)) X0 hx hZ e0 A (by decide) (g := (mkF m 4 #[rv a, rv sr] [(.ref sr), (.int (0 : Int32)), (.ref sr), (.ref a)])) rfl rfl (hb hby own_d1_4) _ ?_
    show own_S p e below s₁ m 5 #[rv a, rv sr] [(.int (2 : Int32)), (.int (0 : Int32)), (.ref sr), (.ref a)] _
    refine XS.aconstNull X0.here hx rfl (hb hby own_d1_5) ?_
    show own_S p e below s₁ m 6 #[rv a, rv sr] [.null, (.int (2 : Int32)), (.int (0 : Int32)), (.ref sr), (.ref a)] _
    exact kt
  refine own_st sg1 ?_
  obtain ⟨_, T2, L2, X2, hQ2, st2⟩ := own_callI (y := (⟨"java/lang/String", "<init>", "([CIILjava/lang/Void;)V"⟩ : MethodName)) (a := a) X0 hx hZ hown rfl (hw _ (List.mem_of_getElem? (i := 8) rfl)) (hw _ (List.mem_of_getElem? (i := 9) rfl)) (hw _ (List.mem_of_getElem? (i := 4) rfl)) (hw _ (List.mem_of_getElem? (i := 11) rfl)) (by decide) (own_rmsv_2 l Z a0 hw a sr cc f h0 n0 Z0 EE Fv Fc A hf SC hcc g_a) e0 (g := (mkF m 6 #[rv a, rv sr] [.null, (.int (2 : Int32)), (.int (0 : Int32)), (.ref sr), (.ref a)])) rfl (by rw [hml]; rfl) (argsL := [(.ref sr), (.int (0 : Int32)), (.int (2 : Int32)), .null]) (rest := []) (lenOf own_pd3 rfl) rfl (W := 0) (by show 2 * 0 + _ ≤ _; exact Nat.le_of_eq rfl) (hb hby own_d1_6) (by decide) (by decide) (by decide) (by decide)
  obtain ⟨rfl, Nq2, R2⟩ := hQ2
  refine own_st st2 ?_
  have Z2 : n0 ≤ T2.heap.size := Nat.le_trans Z0 R2.1.1
  have N2 := Fr.app N0 Nq2
  show own_Go p e below _ T2 (mkF m 9 #[rv a, rv sr] [])
  exact own_retV X2 hx Bd.notSynchronized Bd.returns (hb hby own_d1_9) (by decide) (by decide) rfl ⟨rfl, N2, R2⟩
theorem own_efsv_e (m : MethodId) (a : Nat) (sr : Nat) : entryFrame m #[(.ref a), (.ref sr), (.int (0 : Int32)), (.int (0 : Int32)), .null] 6 = mkF m 0 #[rv a, rv sr, iv (0 : Int32), iv (0 : Int32), .val .null, .unset] [] := by first | (simp [entryFrame, mkF, argsToLocals, Value.category]; done) | rfl
set_option maxRecDepth 65536 in
set_option maxHeartbeats 40000000 in
theorem own_rmsv_e (l : Launch) (Z : State) (a0 : Array Value) (hw : ∀ d ∈ tables_1, d.before a0 Z = true) (a : Nat) (sr : Nat) (h0 : Heap) (n0 : Nat) (Z0 : n0 ≤ h0.size) (EE : Exa Z h0 a "java/lang/String") (Fv : Fld Z h0 a "java/lang/String" "value" "[B" .null) (Fc : Fld Z h0 a "java/lang/String" "coder" "B" (.int (0 : Int32))) (g_a : n0 ≤ a) (HK : ∀ (b : Nat) (cl : Cell), Z.heap[b]? = some cl → h0[b]? = some cl) (hh : Jvm.Lit.constHeld Z "java/lang/String" 7) (hcw : Jvm.Lit.compactW.before a0 Z = true) :
    own_CtJ l Z (⟨"java/lang/String", "<init>", "([CIILjava/lang/Void;)V"⟩ : MethodName) jdk_42_method_149_code 6 none ({ frames := 1, cells := 2, slots := 4, locals := 12 } : Room) #[(.ref a), (.ref sr), (.int (0 : Int32)), (.int (0 : Int32)), .null] h0 (fun vm => vm.interned = Z.vm.interned) (fun v h vm L => v = none ∧ Fr n0 L ∧ Keep h0 h [a] ∧ Exa Z h a "java/lang/String" ∧ Fld Z h a "java/lang/String" "coder" "B" (.int 0) ∧ ∃ (b lt : Nat), Fld Z h a "java/lang/String" "value" "[B" (.ref b) ∧ own_AI Z h b .byte 0 (fun _ => 0) ∧ Lit (Z.setVm vm) "java/lang/String" 7 lt ∧ Exa Z h lt "java/lang/String" ∧ Fld Z h lt "java/lang/String" "coder" "B" (.int 0) ∧ Fld Z h lt "java/lang/String" "value" "[B" (.ref b)) := by
  refine own_bodyJ (y := (⟨"java/lang/String", "<init>", "([CIILjava/lang/Void;)V"⟩ : MethodName)) (Q := fun v h vm L => v = none ∧ Fr n0 L ∧ Keep h0 h [a] ∧ Exa Z h a "java/lang/String" ∧ Fld Z h a "java/lang/String" "coder" "B" (.int 0) ∧ ∃ (b lt : Nat), Fld Z h a "java/lang/String" "value" "[B" (.ref b) ∧ own_AI Z h b .byte 0 (fun _ => 0) ∧ Lit (Z.setVm vm) "java/lang/String" 7 lt ∧ Exa Z h lt "java/lang/String" ∧ Fld Z h lt "java/lang/String" "coder" "B" (.int 0) ∧ Fld Z h lt "java/lang/String" "value" "[B" (.ref b)) (J := fun vm => vm.interned = Z.vm.interned) (plainFor_of_name own_pn1) ?_
  intro p e s m below meth c s₁ Bd hml0 hZ e0 hs0 hJ
  have hx := Bd.exec
  have hby := Bd.bytes
  have hml : c.maxLocals = 6 := hml0
  have hown : s.vm.findClass "java/lang/String" = some m.cls := findClass_of_methodNamed Bd.named
  have hnm := (name_of_methodNamed Bd.named Bd.method).1
  have X0 : Stand p l e ({ frames := 1, cells := 2, slots := 4, locals := 12 } : Room) s m #[(.ref a), (.ref sr), (.int (0 : Int32)), (.int (0 : Int32)), .null] below meth c s₁ [] 0 0 := Stand.of_body Bd
  have N0 := Fr.nil n0
  rw [own_efsv_e]
  have lta : a < h0.size := EE.lt
  have wS : ∀ a ∈ Bundle.stringAtoms, a.before a0 Z = true := fun a ha => by
    simp only [Bundle.stringAtoms, List.mem_cons, List.not_mem_nil, or_false] at ha
    rcases ha with rfl | rfl | rfl | rfl | rfl | rfl | rfl
    · exact (hw _ (List.mem_of_getElem? (i := 4) rfl))
    · exact (hw _ (List.mem_of_getElem? (i := 3) rfl))
    · exact (hw _ (List.mem_of_getElem? (i := 0) rfl))
    · exact (hw _ (List.mem_of_getElem? (i := 29) rfl))
    · exact (hw _ (List.mem_of_getElem? (i := 27) rfl))
    · exact (hw _ (List.mem_of_getElem? (i := 58) rfl))
    · exact (hw _ (List.mem_of_getElem? (i := 59) rfl))
  have sg1 : own_V p e below s₁ (mkF m 1 #[rv a, rv sr, iv (0 : Int32), iv (0 : Int32), .val .null, .unset] [(.ref a)]) (mkF m 0 #[rv a, rv sr, iv (0 : Int32), iv (0 : Int32), .val .null, .unset] []) := by
    intro t kt
    refine XS.aloadN X0.here hx rfl (hb hby own_d2_0) rfl rfl ?_
    show own_S p e below s₁ m 1 #[rv a, rv sr, iv (0 : Int32), iv (0 : Int32), .val .null, .unset] [(.ref a)] _
    exact kt
  refine own_st sg1 ?_
  obtain ⟨T2, X2, e2, st2⟩ := initO X0 hx hZ hown (hw _ (List.mem_of_getElem? (i := 12) rfl)) (hw _ (List.mem_of_getElem? (i := 13) rfl)) (hw _ (List.mem_of_getElem? (i := 14) rfl)) e0 (g := (mkF m 1 #[rv a, rv sr, iv (0 : Int32), iv (0 : Int32), .val .null, .unset] [(.ref a)])) rfl (by rw [hml]; rfl) rfl (hb hby own_d2_1) (by decide) (W := 0) (by show 2 * 0 + _ ≤ _; exact Nat.le_of_eq rfl) (by decide)
  refine own_st st2 ?_
  show own_Go p e below _ T2 (mkF m 4 #[rv a, rv sr, iv (0 : Int32), iv (0 : Int32), .val .null, .unset] [])
  have sg3 : own_V p e below T2 (mkF m 9 #[rv a, rv sr, iv (0 : Int32), iv (0 : Int32), .val .null, .unset] [(.ref a)]) (mkF m 4 #[rv a, rv sr, iv (0 : Int32), iv (0 : Int32), .val .null, .unset] []) := by
    intro t kt
    refine XS.iloadN X2.here hx rfl (hb hby own_d2_4) rfl ?_
    show own_S p e below T2 m 5 #[rv a, rv sr, iv (0 : Int32), iv (0 : Int32), .val .null, .unset] [(.int (0 : Int32))] _
    refine XS.ifNo X2.here hx rfl (hb hby own_d2_5) rfl ((if0 _ _).trans (teq (by decide : (0 : Int32) = (0 : Int32))).2) ?_
    show own_S p e below T2 m 8 #[rv a, rv sr, iv (0 : Int32), iv (0 : Int32), .val .null, .unset] [] _
    refine XS.aloadN X2.here hx rfl (hb hby own_d2_8) rfl rfl ?_
    show own_S p e below T2 m 9 #[rv a, rv sr, iv (0 : Int32), iv (0 : Int32), .val .null, .unset] [(.ref a)] _
    exact kt
  refine own_st sg3 ?_
  obtain ⟨a4, T4, h4, k4, b4, kc4, X4, e4, E4, I4, kq4, hZ, hown, EL4, CL4, VL4, AL4, la4, lb4, IB4, LT4, st4⟩ := ldcSVL (s := s) (vm0 := s.vm) (Ts := []) (text := "") X2 hx hZ hown (hw _ (List.mem_of_getElem? (i := 57) rfl)) wS e2 ((State.WarmedH.refl s).since 0) (Nat.zero_le _) (by show Fr s.heap.size []; exact Fr.nil _) (fun b cl q => by rw [hs0]; exact HK b cl q) (by rw [IB]; exact ⟨#[], by rw [hJ]; simp, fun q hq => by simp at hq⟩) (by simp) hh hcw (vs := []) (z := 0) (by decide) (by decide) (by decide) (g := (mkF m 9 #[rv a, rv sr, iv (0 : Int32), iv (0 : Int32), .val .null, .unset] [(.ref a)])) rfl (hb hby own_d2_9) (n := 0) (by decide) (by decide) (by decide) (by decide)
  refine own_st st4 ?_
  have Z4 : n0 ≤ h4.size := Nat.le_trans Z0 E4.1
  show own_Go p e below _ T4 (mkF m 11 #[rv a, rv sr, iv (0 : Int32), iv (0 : Int32), .val .null, .unset] [(.ref a4), (.ref a)])
  have KK4 : Keep h0 h4 [] := (Keep.refl _ _).ext E4
  have EE_4 := EE.keep KK4
  have Fv_4 := Fv.keep KK4 nin0
  have Fc_4 := Fc.keep KK4 nin0
  have KA4 : Keep h0 h4 [a] := (Keep.refl h0 [a]).ext E4
  have nla : a4 ≠ a := fun z => by
    have q := VL4; rw [z] at q; exact absurd (own_fld_fun q Fv_4) (by simp)
  have AB4 : own_AI Z h4 b4 .byte 0 (fun _ => 0) := own_AI0 AL4
  have nba : b4 ≠ a := fun z => own_ne_arr EE_4 (hw _ (List.mem_of_getElem? (i := 3) rfl)) AB4 z.symm
  obtain ⟨T5, X5, e5, st5⟩ := getF X4 hx hZ hown (host := "") (Or.inl (hw _ (List.mem_of_getElem? (i := 28) rfl))) Via.refl e4 VL4 (g := (mkF m 11 #[rv a, rv sr, iv (0 : Int32), iv (0 : Int32), .val .null, .unset] [(.ref a4), (.ref a)])) rfl rfl (hb hby own_d2_11)
  refine own_st st5 ?_
  show own_Go p e below _ T5 (mkF m 14 #[rv a, rv sr, iv (0 : Int32), iv (0 : Int32), .val .null, .unset] [(.ref b4), (.ref a)])
  obtain ⟨T6, h6, X6, e6, W6, st6⟩ := putF X5 hx hZ hown (host := "") (Or.inl (hw _ (List.mem_of_getElem? (i := 28) rfl))) Via.refl e5 Fv_4 EE_4 (Or.inr ⟨(hw _ (List.mem_of_getElem? (i := 29) rfl)), rfl, hnm⟩) (hw _ (List.mem_of_getElem? (i := 3) rfl)) (ty := (.array .byte)) (by decide) rfl rfl (g := (mkF m 14 #[rv a, rv sr, iv (0 : Int32), iv (0 : Int32), .val .null, .unset] [(.ref b4), (.ref a)])) rfl rfl (hb hby own_d2_14)
  refine own_st st6 ?_
  have Z6 : n0 ≤ h6.size := by rw [Wr.size W6]; exact Z4
  have kk6 : k4 ≤ h6.size := by rw [Wr.size W6]; exact kq4
  have N6 := Fr.snoc X6 N0 g_a
  show own_Go p e below _ T6 (mkF m 17 #[rv a, rv sr, iv (0 : Int32), iv (0 : Int32), .val .null, .unset] [])
  have KK6 := Keep.of_wr W6
  have Fc_6 := Fc_4.other W6 (Or.inr (slot_ne (Or.inr (hw _ (List.mem_of_getElem? (i := 27) rfl))) (Or.inr (hw _ (List.mem_of_getElem? (i := 29) rfl))) (by decide) (t := .byte) (t' := (.array .byte)) (by decide) (by decide)))
  have EE_6 := EE_4.keep KK6
  have EL_6 := EL4.keep KK6
  have CL_6 := CL4.keep KK6 (own_ninS nla nin0)
  have VL_6 := VL4.keep KK6 (own_ninS nla nin0)
  have AB_6 := AB4.keep KK6 (own_ninS nba nin0)
  have Fv_6 := Fv_4.same W6
  have KA6 : Keep h0 h6 [a] := KA4.wr W6 (Or.inl (List.mem_of_getElem? (i := 0) rfl))
  have sg7 : own_V p e below T6 (mkF m 18 #[rv a, rv sr, iv (0 : Int32), iv (0 : Int32), .val .null, .unset] [(.ref a)]) (mkF m 17 #[rv a, rv sr, iv (0 : Int32), iv (0 : Int32), .val .null, .unset] []) := by
    intro t kt
    refine XS.aloadN X6.here hx rfl (hb hby own_d2_17) rfl rfl ?_
    show own_S p e below T6 m 18 #[rv a, rv sr, iv (0 : Int32), iv (0 : Int32), .val .null, .unset] [(.ref a)] _
    exact kt
  refine own_st sg7 ?_
  have sg8 := ldcAgain (s := s) (vm0 := T4.vm) X6 hx hZ hown (hw _ (List.mem_of_getElem? (i := 57) rfl)) LT4 (g := (mkF m 18 #[rv a, rv sr, iv (0 : Int32), iv (0 : Int32), .val .null, .unset] [(.ref a)])) rfl (hb hby own_d2_18)
  refine own_st sg8 ?_
  show own_Go p e below _ T6 (mkF m 20 #[rv a, rv sr, iv (0 : Int32), iv (0 : Int32), .val .null, .unset] [(.ref a4), (.ref a)])
  obtain ⟨T9, X9, e9, st9⟩ := getF X6 hx hZ hown (host := "") (Or.inl (hw _ (List.mem_of_getElem? (i := 26) rfl))) Via.refl e6 CL_6 (g := (mkF m 20 #[rv a, rv sr, iv (0 : Int32), iv (0 : Int32), .val .null, .unset] [(.ref a4), (.ref a)])) rfl rfl (hb hby own_d2_20)
  refine own_st st9 ?_
  show own_Go p e below _ T9 (mkF m 23 #[rv a, rv sr, iv (0 : Int32), iv (0 : Int32), .val .null, .unset] [(.int (0 : Int32)), (.ref a)])
  obtain ⟨T10, h10, X10, e10, W10, st10⟩ := putFN X9 hx hZ hown (hw _ (List.mem_of_getElem? (i := 26) rfl)) Via.refl e9 Fc_6 EE_6 (Or.inr ⟨(hw _ (List.mem_of_getElem? (i := 27) rfl)), rfl, hnm⟩) (hw _ (List.mem_of_getElem? (i := 3) rfl)) (ty := .byte) (v' := (.int (nar .byte (0 : Int32)))) (by decide) rfl (fits_nar_byte _) (g := (mkF m 23 #[rv a, rv sr, iv (0 : Int32), iv (0 : Int32), .val .null, .unset] [(.int (0 : Int32)), (.ref a)])) rfl rfl (hb hby own_d2_23)
  refine own_st st10 ?_
  have Z10 : n0 ≤ h10.size := by rw [Wr.size W10]; exact Z6
  have kk10 : k4 ≤ h10.size := by rw [Wr.size W10]; exact kk6
  have N10 := Fr.snoc X10 N6 g_a
  show own_Go p e below _ T10 (mkF m 26 #[rv a, rv sr, iv (0 : Int32), iv (0 : Int32), .val .null, .unset] [])
  have KK10 := Keep.of_wr W10
  have Fv_10 := Fv_6.other W10 (Or.inr (slot_ne (Or.inr (hw _ (List.mem_of_getElem? (i := 29) rfl))) (Or.inr (hw _ (List.mem_of_getElem? (i := 27) rfl))) (by decide) (t := (.array .byte)) (t' := .byte) (by decide) (by decide)))
  have EE_10 := EE_6.keep KK10
  have EL_10 := EL_6.keep KK10
  have CL_10 := CL_6.keep KK10 (own_ninS nla nin0)
  have VL_10 := VL_6.keep KK10 (own_ninS nla nin0)
  have AB_10 := AB_6.keep KK10 (own_ninS nba nin0)
  have Fc_10 := Fc_6.same W10
  have KA10 : Keep h0 h10 [a] := KA6.wr W10 (Or.inl (List.mem_of_getElem? (i := 0) rfl))
  have LZ : Lit (Z.setVm T10.vm) "java/lang/String" 7 a4 := own_lit_warm LT4 X10.warmed
  have FC : Fld Z h10 a "java/lang/String" "coder" "B" (.int 0) := Fc_10
  exact own_retVJ (s := s) (vm1 := T4.vm) X10 hx I4 kk10 Bd.notSynchronized Bd.returns (hb hby own_d2_26) (by decide) (by decide) e10 ⟨rfl, N10, KA10, EE_10, FC, b4, a4, Fv_10, AB_10, LZ, EL_10, CL_10, VL_10⟩
theorem own_efsi_e (m : MethodId) (a : Nat) (sr : Nat) : entryFrame m #[(.ref a), (.ref sr)] 2 = mkF m 0 #[rv a, rv sr] [] := by first | (simp [entryFrame, mkF, argsToLocals, Value.category]; done) | rfl
set_option maxRecDepth 65536 in
set_option maxHeartbeats 40000000 in
theorem own_rmsi_e (l : Launch) (Z : State) (a0 : Array Value) (hw : ∀ d ∈ tables_1, d.before a0 Z = true) (a : Nat) (sr : Nat) (ff : Nat → Int32) (h0 : Heap) (n0 : Nat) (Z0 : n0 ≤ h0.size) (EE : Exa Z h0 a "java/lang/String") (Fv : Fld Z h0 a "java/lang/String" "value" "[B" .null) (Fc : Fld Z h0 a "java/lang/String" "coder" "B" (.int (0 : Int32))) (g_a : n0 ≤ a) (HK : ∀ (b : Nat) (cl : Cell), Z.heap[b]? = some cl → h0[b]? = some cl) (hh : Jvm.Lit.constHeld Z "java/lang/String" 7) (hcw : Jvm.Lit.compactW.before a0 Z = true) (A : own_AI Z h0 sr .char 0 ff) :
    own_CtJ l Z (⟨"java/lang/String", "<init>", "([C)V"⟩ : MethodName) jdk_42_method_3_code 2 none ({ frames := 2, cells := 2, slots := 4, locals := 29 } : Room) #[(.ref a), (.ref sr)] h0 (fun vm => vm.interned = Z.vm.interned) (fun v h vm L => v = none ∧ Fr n0 L ∧ Keep h0 h [a] ∧ Exa Z h a "java/lang/String" ∧ Fld Z h a "java/lang/String" "coder" "B" (.int 0) ∧ ∃ (b lt : Nat), Fld Z h a "java/lang/String" "value" "[B" (.ref b) ∧ own_AI Z h b .byte 0 (fun _ => 0) ∧ Lit (Z.setVm vm) "java/lang/String" 7 lt ∧ Exa Z h lt "java/lang/String" ∧ Fld Z h lt "java/lang/String" "coder" "B" (.int 0) ∧ Fld Z h lt "java/lang/String" "value" "[B" (.ref b)) := by
  refine own_bodyJ (y := (⟨"java/lang/String", "<init>", "([C)V"⟩ : MethodName)) (Q := fun v h vm L => v = none ∧ Fr n0 L ∧ Keep h0 h [a] ∧ Exa Z h a "java/lang/String" ∧ Fld Z h a "java/lang/String" "coder" "B" (.int 0) ∧ ∃ (b lt : Nat), Fld Z h a "java/lang/String" "value" "[B" (.ref b) ∧ own_AI Z h b .byte 0 (fun _ => 0) ∧ Lit (Z.setVm vm) "java/lang/String" 7 lt ∧ Exa Z h lt "java/lang/String" ∧ Fld Z h lt "java/lang/String" "coder" "B" (.int 0) ∧ Fld Z h lt "java/lang/String" "value" "[B" (.ref b)) (J := fun vm => vm.interned = Z.vm.interned) (plainFor_of_name own_pn1) ?_
  intro p e s m below meth c s₁ Bd hml0 hZ e0 hs0 hJ
  have hx := Bd.exec
  have hby := Bd.bytes
  have hml : c.maxLocals = 2 := hml0
  have hown : s.vm.findClass "java/lang/String" = some m.cls := findClass_of_methodNamed Bd.named
  have hnm := (name_of_methodNamed Bd.named Bd.method).1
  have X0 : Stand p l e ({ frames := 2, cells := 2, slots := 4, locals := 29 } : Room) s m #[(.ref a), (.ref sr)] below meth c s₁ [] 0 0 := Stand.of_body Bd
  have N0 := Fr.nil n0
  rw [own_efsi_e]
  have sg1 : own_V p e below s₁ (mkF m 6 #[rv a, rv sr] [.null, (.int (0 : Int32)), (.int (0 : Int32)), (.ref sr), (.ref a)]) (mkF m 0 #[rv a, rv sr] []) := by
    intro t kt
    refine XS.aloadN X0.here hx rfl (hb hby own_d1_0) rfl rfl ?_
    show own_S p e below s₁ m 1 #[rv a, rv sr] [(.ref a)] _
    refine XS.aloadN X0.here hx rfl (hb hby own_d1_1) rfl rfl ?_
    show own_S p e below s₁ m 2 #[rv a, rv sr] [(.ref sr), (.ref a)] _
    refine XS.iconst X0.here hx rfl (hb hby own_d1_2) ?_
    show own_S p e below s₁ m 3 #[rv a, rv sr] [(.int (0 : Int32)), (.ref sr), (.ref a)] _
    refine XS.aloadN X0.here hx rfl (hb hby own_d1_3) rfl rfl ?_
    show own_S p e below s₁ m 4 #[rv a, rv sr] [(.ref sr), (.int (0 : Int32)), (.ref sr), (.ref a)] _
    refine own_len (z := (0 : Int32)) X0 hx hZ e0 A (by decide) (g := (mkF m 4 #[rv a, rv sr] [(.ref sr), (.int (0 : Int32)), (.ref sr), (.ref a)])) rfl rfl (hb hby own_d1_4) _ ?_
    show own_S p e below s₁ m 5 #[rv a, rv sr] [(.int (0 : Int32)), (.int (0 : Int32)), (.ref sr), (.ref a)] _
    refine XS.aconstNull X0.here hx rfl (hb hby own_d1_5) ?_
    show own_S p e below s₁ m 6 #[rv a, rv sr] [.null, (.int (0 : Int32)), (.int (0 : Int32)), (.ref sr), (.ref a)] _
    exact kt
  refine own_st sg1 ?_
  obtain ⟨_, T2, L2, X2, I2, hZ, hown, hQ2, st2⟩ := own_callIJ (y := (⟨"java/lang/String", "<init>", "([CIILjava/lang/Void;)V"⟩ : MethodName)) (a := a) (s := s) (vm0 := s.vm) X0 ((State.WarmedH.refl s).since 0) (Nat.zero_le _) hx hZ hown rfl (hw _ (List.mem_of_getElem? (i := 8) rfl)) (hw _ (List.mem_of_getElem? (i := 9) rfl)) (hw _ (List.mem_of_getElem? (i := 4) rfl)) (hw _ (List.mem_of_getElem? (i := 11) rfl)) (by decide) (own_rmsv_e l Z a0 hw a sr h0 n0 Z0 EE Fv Fc g_a HK hh hcw) e0 (g := (mkF m 6 #[rv a, rv sr] [.null, (.int (0 : Int32)), (.int (0 : Int32)), (.ref sr), (.ref a)])) rfl (by rw [hml]; rfl) (argsL := [(.ref sr), (.int (0 : Int32)), (.int (0 : Int32)), .null]) (rest := []) (lenOf own_pd3 rfl) rfl (W := 0) (by show 2 * 0 + _ ≤ _; exact Nat.le_of_eq rfl) (hb hby own_d1_6) (by decide) (by decide) (by decide) (by decide) (fun vm1 hv => hv.interned_eq.trans hJ)
  obtain ⟨rfl, Nq2, R2⟩ := hQ2
  refine own_st st2 ?_
  have Z2 : n0 ≤ T2.heap.size := Nat.le_trans Z0 R2.1.1
  have kk2 : 0 ≤ T2.heap.size := Nat.le_trans (Nat.zero_le _) R2.1.1
  have N2 := Fr.app N0 Nq2
  show own_Go p e below _ T2 (mkF m 9 #[rv a, rv sr] [])
  have LZ2 := R2.2.2.2
  exact own_retVJ (s := s) (vm1 := T2.vm) X2 hx I2 (Nat.le_refl _) Bd.notSynchronized Bd.returns (hb hby own_d1_9) (by decide) (by decide) rfl ⟨rfl, N2, R2⟩
theorem own_d7_0 : decode prog_14_method_1_code 0 = .ok (.aload_n 0, 1) := by decide +kernel
theorem own_d7_1 : decode prog_14_method_1_code 1 = .ok (.invokespecial 1, 3) := by decide +kernel
theorem own_d7_4 : decode prog_14_method_1_code 4 = .ok (.aload_n 0, 1) := by decide +kernel
theorem own_d7_5 : decode prog_14_method_1_code 5 = .ok (.iload_n 1, 1) := by decide +kernel
theorem own_d7_6 : decode prog_14_method_1_code 6 = .ok (.putfield 7, 3) := by decide +kernel
theorem own_d7_9 : decode prog_14_method_1_code 9 = .ok (.aload_n 0, 1) := by decide +kernel
theorem own_d7_10 : decode prog_14_method_1_code 10 = .ok (.aload_n 2, 1) := by decide +kernel
theorem own_d7_11 : decode prog_14_method_1_code 11 = .ok (.putfield 13, 3) := by decide +kernel
theorem own_d7_14 : decode prog_14_method_1_code 14 = .ok (.aload_n 0, 1) := by decide +kernel
theorem own_d7_15 : decode prog_14_method_1_code 15 = .ok (.iload_n 3, 1) := by decide +kernel
theorem own_d7_16 : decode prog_14_method_1_code 16 = .ok (.putfield 17, 3) := by decide +kernel
theorem own_d7_19 : decode prog_14_method_1_code 19 = .ok (.aload_n 0, 1) := by decide +kernel
theorem own_d7_20 : decode prog_14_method_1_code 20 = .ok (.aload 4, 2) := by decide +kernel
theorem own_d7_22 : decode prog_14_method_1_code 22 = .ok (.putfield 21, 3) := by decide +kernel
theorem own_d7_25 : decode prog_14_method_1_code 25 = .ok (.aload_n 0, 1) := by decide +kernel
theorem own_d7_26 : decode prog_14_method_1_code 26 = .ok (.iload 5, 2) := by decide +kernel
theorem own_d7_28 : decode prog_14_method_1_code 28 = .ok (.putfield 25, 3) := by decide +kernel
theorem own_d7_31 : decode prog_14_method_1_code 31 = .ok (.return_, 1) := by decide +kernel
theorem own_pn2 : plainName "com/example/cytowire/cytowire/astm/Frame" = true := by first | (simp [plainName, overriddenIn]; done) | decide +kernel
theorem own_effiN (m : MethodId) (a : Nat) (x : Int32) (tx : Nat) (y : Int32) (z : Int32) : entryFrame m #[(.ref a), (.int x), (.ref tx), (.int y), .null, (.int z)] 6 = mkF m 0 #[rv a, iv x, rv tx, iv y, .val .null, iv z] [] := by first | (simp [entryFrame, mkF, argsToLocals, Value.category]; done) | rfl
set_option maxRecDepth 65536 in
set_option maxHeartbeats 40000000 in
theorem own_rmfiN (l : Launch) (Z : State) (a0 : Array Value) (hw : ∀ d ∈ tables_1, d.before a0 Z = true) (a : Nat) (x : Int32) (tx : Nat) (y : Int32) (z : Int32) (h0 : Heap) (n0 : Nat) (Z0 : n0 ≤ h0.size) (EE : Exa Z h0 a "com/example/cytowire/cytowire/astm/Frame") (Fnumber : Fld Z h0 a "com/example/cytowire/cytowire/astm/Frame" "number" "I" (.int (0 : Int32))) (Ftext : Fld Z h0 a "com/example/cytowire/cytowire/astm/Frame" "text" "[B" .null) (FendsRecord : Fld Z h0 a "com/example/cytowire/cytowire/astm/Frame" "endsRecord" "Z" (.int (0 : Int32))) (Fdefect : Fld Z h0 a "com/example/cytowire/cytowire/astm/Frame" "defect" "Ljava/lang/String;" .null) (FoutOfRoom : Fld Z h0 a "com/example/cytowire/cytowire/astm/Frame" "outOfRoom" "Z" (.int (0 : Int32))) (g_a : n0 ≤ a) :
    own_Ct l Z (⟨"com/example/cytowire/cytowire/astm/Frame", "<init>", "(I[BZLjava/lang/String;Z)V"⟩ : MethodName) prog_14_method_1_code 6 none ({ frames := 1, cells := 0, slots := 0, locals := 12 } : Room) #[(.ref a), (.int x), (.ref tx), (.int y), .null, (.int z)] h0 (fun v h L => v = none ∧ Fr n0 L ∧ Keep h0 h [a] ∧ Exa Z h a "com/example/cytowire/cytowire/astm/Frame" ∧ Fld Z h a "com/example/cytowire/cytowire/astm/Frame" "defect" "Ljava/lang/String;" .null) := by
  refine own_body (y := (⟨"com/example/cytowire/cytowire/astm/Frame", "<init>", "(I[BZLjava/lang/String;Z)V"⟩ : MethodName)) (Q := fun v h L => v = none ∧ Fr n0 L ∧ Keep h0 h [a] ∧ Exa Z h a "com/example/cytowire/cytowire/astm/Frame" ∧ Fld Z h a "com/example/cytowire/cytowire/astm/Frame" "defect" "Ljava/lang/String;" .null) (plainFor_of_name own_pn2) ?_
  intro p e s m below meth c s₁ Bd hml0 hZ e0
  have hx := Bd.exec
  have hby := Bd.bytes
  have hml : c.maxLocals = 6 := hml0
  have hown : s.vm.findClass "com/example/cytowire/cytowire/astm/Frame" = some m.cls := findClass_of_methodNamed Bd.named
  have hnm := (name_of_methodNamed Bd.named Bd.method).1
  have X0 : Stand p l e ({ frames := 1, cells := 0, slots := 0, locals := 12 } : Room) s m #[(.ref a), (.int x), (.ref tx), (.int y), .null, (.int z)] below meth c s₁ [] 0 0 := Stand.of_body Bd
  have N0 := Fr.nil n0
  rw [own_effiN]
  have sg1 : own_V p e below s₁ (mkF m 1 #[rv a, iv x, rv tx, iv y, .val .null, iv z] [(.ref a)]) (mkF m 0 #[rv a, iv x, rv tx, iv y, .val .null, iv z] []) := by
    intro t kt
    refine XS.aloadN X0.here hx rfl (hb hby own_d7_0) rfl rfl ?_
    show own_S p e below s₁ m 1 #[rv a, iv x, rv tx, iv y, .val .null, iv z] [(.ref a)] _
    exact kt
  refine own_st sg1 ?_
  obtain ⟨T2, X2, e2, st2⟩ := initO X0 hx hZ hown (hw _ (List.mem_of_getElem? (i := 36) rfl)) (hw _ (List.mem_of_getElem? (i := 13) rfl)) (hw _ (List.mem_of_getElem? (i := 14) rfl)) e0 (g := (mkF m 1 #[rv a, iv x, rv tx, iv y, .val .null, iv z] [(.ref a)])) rfl (by rw [hml]; rfl) rfl (hb hby own_d7_1) (by decide) (W := 0) (by show 2 * 0 + _ ≤ _; exact Nat.le_of_eq rfl) (by decide)
  refine own_st st2 ?_
  show own_Go p e below _ T2 (mkF m 4 #[rv a, iv x, rv tx, iv y, .val .null, iv z] [])
  have sg3 : own_V p e below T2 (mkF m 6 #[rv a, iv x, rv tx, iv y, .val .null, iv z] [(.int x), (.ref a)]) (mkF m 4 #[rv a, iv x, rv tx, iv y, .val .null, iv z] []) := by
    intro t kt
    refine XS.aloadN X2.here hx rfl (hb hby own_d7_4) rfl rfl ?_
    show own_S p e below T2 m 5 #[rv a, iv x, rv tx, iv y, .val .null, iv z] [(.ref a)] _
    refine XS.iloadN X2.here hx rfl (hb hby own_d7_5) rfl ?_
    show own_S p e below T2 m 6 #[rv a, iv x, rv tx, iv y, .val .null, iv z] [(.int x), (.ref a)] _
    exact kt
  refine own_st sg3 ?_
  obtain ⟨T4, h4, X4, e4, W4, st4⟩ := putF X2 hx hZ hown (host := "") (Or.inl (hw _ (List.mem_of_getElem? (i := 37) rfl))) Via.refl e2 Fnumber EE (Or.inr ⟨(hw _ (List.mem_of_getElem? (i := 38) rfl)), rfl, hnm⟩) (hw _ (List.mem_of_getElem? (i := 31) rfl)) (ty := .int) (by decide) rfl rfl (g := (mkF m 6 #[rv a, iv x, rv tx, iv y, .val .null, iv z] [(.int x), (.ref a)])) rfl rfl (hb hby own_d7_6)
  refine own_st st4 ?_
  have Z4 : n0 ≤ h4.size := by rw [Wr.size W4]; exact Z0
  have N4 := Fr.snoc X4 N0 g_a
  show own_Go p e below _ T4 (mkF m 9 #[rv a, iv x, rv tx, iv y, .val .null, iv z] [])
  have KK4 := Keep.of_wr W4
  have Ftext_4 := Ftext.other W4 (Or.inr (slot_ne (Or.inr (hw _ (List.mem_of_getElem? (i := 40) rfl))) (Or.inr (hw _ (List.mem_of_getElem? (i := 38) rfl))) (by decide) (t := (.array .byte)) (t' := .int) (by decide) (by decide)))
  have FendsRecord_4 := FendsRecord.other W4 (Or.inr (slot_ne (Or.inr (hw _ (List.mem_of_getElem? (i := 42) rfl))) (Or.inr (hw _ (List.mem_of_getElem? (i := 38) rfl))) (by decide) (t := .boolean) (t' := .int) (by decide) (by decide)))
  have Fdefect_4 := Fdefect.other W4 (Or.inr (slot_ne (Or.inr (hw _ (List.mem_of_getElem? (i := 44) rfl))) (Or.inr (hw _ (List.mem_of_getElem? (i := 38) rfl))) (by decide) (t := (.object "java/lang/String")) (t' := .int) (by decide) (by decide)))
  have FoutOfRoom_4 := FoutOfRoom.other W4 (Or.inr (slot_ne (Or.inr (hw _ (List.mem_of_getElem? (i := 46) rfl))) (Or.inr (hw _ (List.mem_of_getElem? (i := 38) rfl))) (by decide) (t := .boolean) (t' := .int) (by decide) (by decide)))
  have EE_4 := EE.keep KK4
  have Fnumber_4 := Fnumber.same W4
  have KA4 : Keep h0 h4 [a] := (Keep.refl h0 [a]).wr W4 (Or.inl (List.mem_of_getElem? (i := 0) rfl))
  have sg5 : own_V p e below T4 (mkF m 11 #[rv a, iv x, rv tx, iv y, .val .null, iv z] [(.ref tx), (.ref a)]) (mkF m 9 #[rv a, iv x, rv tx, iv y, .val .null, iv z] []) := by
    intro t kt
    refine XS.aloadN X4.here hx rfl (hb hby own_d7_9) rfl rfl ?_
    show own_S p e below T4 m 10 #[rv a, iv x, rv tx, iv y, .val .null, iv z] [(.ref a)] _
    refine XS.aloadN X4.here hx rfl (hb hby own_d7_10) rfl rfl ?_
    show own_S p e below T4 m 11 #[rv a, iv x, rv tx, iv y, .val .null, iv z] [(.ref tx), (.ref a)] _
    exact kt
  refine own_st sg5 ?_
  obtain ⟨T6, h6, X6, e6, W6, st6⟩ := putF X4 hx hZ hown (host := "") (Or.inl (hw _ (List.mem_of_getElem? (i := 39) rfl))) Via.refl e4 Ftext_4 EE_4 (Or.inr ⟨(hw _ (List.mem_of_getElem? (i := 40) rfl)), rfl, hnm⟩) (hw _ (List.mem_of_getElem? (i := 31) rfl)) (ty := (.array .byte)) (by decide) rfl rfl (g := (mkF m 11 #[rv a, iv x, rv tx, iv y, .val .null, iv z] [(.ref tx), (.ref a)])) rfl rfl (hb hby own_d7_11)
  refine own_st st6 ?_
  have Z6 : n0 ≤ h6.size := by rw [Wr.size W6]; exact Z4
  have N6 := Fr.snoc X6 N4 g_a
  show own_Go p e below _ T6 (mkF m 14 #[rv a, iv x, rv tx, iv y, .val .null, iv z] [])
  have KK6 := Keep.of_wr W6
  have Fnumber_6 := Fnumber_4.other W6 (Or.inr (slot_ne (Or.inr (hw _ (List.mem_of_getElem? (i := 38) rfl))) (Or.inr (hw _ (List.mem_of_getElem? (i := 40) rfl))) (by decide) (t := .int) (t' := (.array .byte)) (by decide) (by decide)))
  have FendsRecord_6 := FendsRecord_4.other W6 (Or.inr (slot_ne (Or.inr (hw _ (List.mem_of_getElem? (i := 42) rfl))) (Or.inr (hw _ (List.mem_of_getElem? (i := 40) rfl))) (by decide) (t := .boolean) (t' := (.array .byte)) (by decide) (by decide)))
  have Fdefect_6 := Fdefect_4.other W6 (Or.inr (slot_ne (Or.inr (hw _ (List.mem_of_getElem? (i := 44) rfl))) (Or.inr (hw _ (List.mem_of_getElem? (i := 40) rfl))) (by decide) (t := (.object "java/lang/String")) (t' := (.array .byte)) (by decide) (by decide)))
  have FoutOfRoom_6 := FoutOfRoom_4.other W6 (Or.inr (slot_ne (Or.inr (hw _ (List.mem_of_getElem? (i := 46) rfl))) (Or.inr (hw _ (List.mem_of_getElem? (i := 40) rfl))) (by decide) (t := .boolean) (t' := (.array .byte)) (by decide) (by decide)))
  have EE_6 := EE_4.keep KK6
  have Ftext_6 := Ftext_4.same W6
  have KA6 : Keep h0 h6 [a] := KA4.wr W6 (Or.inl (List.mem_of_getElem? (i := 0) rfl))
  have sg7 : own_V p e below T6 (mkF m 16 #[rv a, iv x, rv tx, iv y, .val .null, iv z] [(.int y), (.ref a)]) (mkF m 14 #[rv a, iv x, rv tx, iv y, .val .null, iv z] []) := by
    intro t kt
    refine XS.aloadN X6.here hx rfl (hb hby own_d7_14) rfl rfl ?_
    show own_S p e below T6 m 15 #[rv a, iv x, rv tx, iv y, .val .null, iv z] [(.ref a)] _
    refine XS.iloadN X6.here hx rfl (hb hby own_d7_15) rfl ?_
    show own_S p e below T6 m 16 #[rv a, iv x, rv tx, iv y, .val .null, iv z] [(.int y), (.ref a)] _
    exact kt
  refine own_st sg7 ?_
  obtain ⟨T8, h8, X8, e8, W8, st8⟩ := putFN X6 hx hZ hown (hw _ (List.mem_of_getElem? (i := 41) rfl)) Via.refl e6 FendsRecord_6 EE_6 (Or.inr ⟨(hw _ (List.mem_of_getElem? (i := 42) rfl)), rfl, hnm⟩) (hw _ (List.mem_of_getElem? (i := 31) rfl)) (ty := .boolean) (v' := (.int (nar .boolean y))) (by decide) rfl (fits_nar_bool _) (g := (mkF m 16 #[rv a, iv x, rv tx, iv y, .val .null, iv z] [(.int y), (.ref a)])) rfl rfl (hb hby own_d7_16)
  refine own_st st8 ?_
  have Z8 : n0 ≤ h8.size := by rw [Wr.size W8]; exact Z6
  have N8 := Fr.snoc X8 N6 g_a
  show own_Go p e below _ T8 (mkF m 19 #[rv a, iv x, rv tx, iv y, .val .null, iv z] [])
  have KK8 := Keep.of_wr W8
  have Fnumber_8 := Fnumber_6.other W8 (Or.inr (slot_ne (Or.inr (hw _ (List.mem_of_getElem? (i := 38) rfl))) (Or.inr (hw _ (List.mem_of_getElem? (i := 42) rfl))) (by decide) (t := .int) (t' := .boolean) (by decide) (by decide)))
  have Ftext_8 := Ftext_6.other W8 (Or.inr (slot_ne (Or.inr (hw _ (List.mem_of_getElem? (i := 40) rfl))) (Or.inr (hw _ (List.mem_of_getElem? (i := 42) rfl))) (by decide) (t := (.array .byte)) (t' := .boolean) (by decide) (by decide)))
  have Fdefect_8 := Fdefect_6.other W8 (Or.inr (slot_ne (Or.inr (hw _ (List.mem_of_getElem? (i := 44) rfl))) (Or.inr (hw _ (List.mem_of_getElem? (i := 42) rfl))) (by decide) (t := (.object "java/lang/String")) (t' := .boolean) (by decide) (by decide)))
  have FoutOfRoom_8 := FoutOfRoom_6.other W8 (Or.inr (slot_ne (Or.inr (hw _ (List.mem_of_getElem? (i := 46) rfl))) (Or.inr (hw _ (List.mem_of_getElem? (i := 42) rfl))) (by decide) (t := .boolean) (t' := .boolean) (by decide) (by decide)))
  have EE_8 := EE_6.keep KK8
  have FendsRecord_8 := FendsRecord_6.same W8
  have KA8 : Keep h0 h8 [a] := KA6.wr W8 (Or.inl (List.mem_of_getElem? (i := 0) rfl))
  have sg9 : own_V p e below T8 (mkF m 22 #[rv a, iv x, rv tx, iv y, .val .null, iv z] [.null, (.ref a)]) (mkF m 19 #[rv a, iv x, rv tx, iv y, .val .null, iv z] []) := by
    intro t kt
    refine XS.aloadN X8.here hx rfl (hb hby own_d7_19) rfl rfl ?_
    show own_S p e below T8 m 20 #[rv a, iv x, rv tx, iv y, .val .null, iv z] [(.ref a)] _
    refine XS.aload X8.here hx rfl (hb hby own_d7_20) rfl rfl ?_
    show own_S p e below T8 m 22 #[rv a, iv x, rv tx, iv y, .val .null, iv z] [.null, (.ref a)] _
    exact kt
  refine own_st sg9 ?_
  obtain ⟨T10, h10, X10, e10, W10, st10⟩ := putF X8 hx hZ hown (host := "") (Or.inl (hw _ (List.mem_of_getElem? (i := 43) rfl))) Via.refl e8 Fdefect_8 EE_8 (Or.inr ⟨(hw _ (List.mem_of_getElem? (i := 44) rfl)), rfl, hnm⟩) (hw _ (List.mem_of_getElem? (i := 31) rfl)) (ty := (.object "java/lang/String")) (by decide) rfl rfl (g := (mkF m 22 #[rv a, iv x, rv tx, iv y, .val .null, iv z] [.null, (.ref a)])) rfl rfl (hb hby own_d7_22)
  refine own_st st10 ?_
  have Z10 : n0 ≤ h10.size := by rw [Wr.size W10]; exact Z8
  have N10 := Fr.snoc X10 N8 g_a
  show own_Go p e below _ T10 (mkF m 25 #[rv a, iv x, rv tx, iv y, .val .null, iv z] [])
  have KK10 := Keep.of_wr W10
  have Fnumber_10 := Fnumber_8.other W10 (Or.inr (slot_ne (Or.inr (hw _ (List.mem_of_getElem? (i := 38) rfl))) (Or.inr (hw _ (List.mem_of_getElem? (i := 44) rfl))) (by decide) (t := .int) (t' := (.object "java/lang/String")) (by decide) (by decide)))
  have Ftext_10 := Ftext_8.other W10 (Or.inr (slot_ne (Or.inr (hw _ (List.mem_of_getElem? (i := 40) rfl))) (Or.inr (hw _ (List.mem_of_getElem? (i := 44) rfl))) (by decide) (t := (.array .byte)) (t' := (.object "java/lang/String")) (by decide) (by decide)))
  have FendsRecord_10 := FendsRecord_8.other W10 (Or.inr (slot_ne (Or.inr (hw _ (List.mem_of_getElem? (i := 42) rfl))) (Or.inr (hw _ (List.mem_of_getElem? (i := 44) rfl))) (by decide) (t := .boolean) (t' := (.object "java/lang/String")) (by decide) (by decide)))
  have FoutOfRoom_10 := FoutOfRoom_8.other W10 (Or.inr (slot_ne (Or.inr (hw _ (List.mem_of_getElem? (i := 46) rfl))) (Or.inr (hw _ (List.mem_of_getElem? (i := 44) rfl))) (by decide) (t := .boolean) (t' := (.object "java/lang/String")) (by decide) (by decide)))
  have EE_10 := EE_8.keep KK10
  have Fdefect_10 := Fdefect_8.same W10
  have KA10 : Keep h0 h10 [a] := KA8.wr W10 (Or.inl (List.mem_of_getElem? (i := 0) rfl))
  have sg11 : own_V p e below T10 (mkF m 28 #[rv a, iv x, rv tx, iv y, .val .null, iv z] [(.int z), (.ref a)]) (mkF m 25 #[rv a, iv x, rv tx, iv y, .val .null, iv z] []) := by
    intro t kt
    refine XS.aloadN X10.here hx rfl (hb hby own_d7_25) rfl rfl ?_
    show own_S p e below T10 m 26 #[rv a, iv x, rv tx, iv y, .val .null, iv z] [(.ref a)] _
    refine XS.iload X10.here hx rfl (hb hby own_d7_26) rfl ?_
    show own_S p e below T10 m 28 #[rv a, iv x, rv tx, iv y, .val .null, iv z] [(.int z), (.ref a)] _
    exact kt
  refine own_st sg11 ?_
  obtain ⟨T12, h12, X12, e12, W12, st12⟩ := putFN X10 hx hZ hown (hw _ (List.mem_of_getElem? (i := 45) rfl)) Via.refl e10 FoutOfRoom_10 EE_10 (Or.inr ⟨(hw _ (List.mem_of_getElem? (i := 46) rfl)), rfl, hnm⟩) (hw _ (List.mem_of_getElem? (i := 31) rfl)) (ty := .boolean) (v' := (.int (nar .boolean z))) (by decide) rfl (fits_nar_bool _) (g := (mkF m 28 #[rv a, iv x, rv tx, iv y, .val .null, iv z] [(.int z), (.ref a)])) rfl rfl (hb hby own_d7_28)
  refine own_st st12 ?_
  have Z12 : n0 ≤ h12.size := by rw [Wr.size W12]; exact Z10
  have N12 := Fr.snoc X12 N10 g_a
  show own_Go p e below _ T12 (mkF m 31 #[rv a, iv x, rv tx, iv y, .val .null, iv z] [])
  have KK12 := Keep.of_wr W12
  have Fnumber_12 := Fnumber_10.other W12 (Or.inr (slot_ne (Or.inr (hw _ (List.mem_of_getElem? (i := 38) rfl))) (Or.inr (hw _ (List.mem_of_getElem? (i := 46) rfl))) (by decide) (t := .int) (t' := .boolean) (by decide) (by decide)))
  have Ftext_12 := Ftext_10.other W12 (Or.inr (slot_ne (Or.inr (hw _ (List.mem_of_getElem? (i := 40) rfl))) (Or.inr (hw _ (List.mem_of_getElem? (i := 46) rfl))) (by decide) (t := (.array .byte)) (t' := .boolean) (by decide) (by decide)))
  have FendsRecord_12 := FendsRecord_10.other W12 (Or.inr (slot_ne (Or.inr (hw _ (List.mem_of_getElem? (i := 42) rfl))) (Or.inr (hw _ (List.mem_of_getElem? (i := 46) rfl))) (by decide) (t := .boolean) (t' := .boolean) (by decide) (by decide)))
  have Fdefect_12 := Fdefect_10.other W12 (Or.inr (slot_ne (Or.inr (hw _ (List.mem_of_getElem? (i := 44) rfl))) (Or.inr (hw _ (List.mem_of_getElem? (i := 46) rfl))) (by decide) (t := (.object "java/lang/String")) (t' := .boolean) (by decide) (by decide)))
  have EE_12 := EE_10.keep KK12
  have FoutOfRoom_12 := FoutOfRoom_10.same W12
  have KA12 : Keep h0 h12 [a] := KA10.wr W12 (Or.inl (List.mem_of_getElem? (i := 0) rfl))
  exact own_retV X12 hx Bd.notSynchronized Bd.returns (hb hby own_d7_31) (by decide) (by decide) e12 ⟨rfl, N12, KA12, EE_12, Fdefect_12⟩
theorem own_d8_0 : decode prog_14_method_9_code 0 = .ok (.aload_n 0, 1) := by decide +kernel
theorem own_d8_1 : decode prog_14_method_9_code 1 = .ok (.getfield 21, 3) := by decide +kernel
theorem own_d8_4 : decode prog_14_method_9_code 4 = .ok (.ifnonnull 7, 3) := by decide +kernel
theorem own_d8_7 : decode prog_14_method_9_code 7 = .ok (.iconst 1, 1) := by decide +kernel
theorem own_d8_8 : decode prog_14_method_9_code 8 = .ok (.goto 4, 3) := by decide +kernel
theorem own_d8_11 : decode prog_14_method_9_code 11 = .ok (.iconst 0, 1) := by decide +kernel
theorem own_d8_12 : decode prog_14_method_9_code 12 = .ok (.ireturn, 1) := by decide +kernel
theorem own_efisN (m : MethodId) (a : Nat) : entryFrame m #[(.ref a)] 1 = mkF m 0 #[rv a] [] := by first | (simp [entryFrame, mkF, argsToLocals, Value.category]; done) | rfl
set_option maxRecDepth 65536 in
set_option maxHeartbeats 40000000 in
theorem own_rmisN (l : Launch) (Z : State) (a0 : Array Value) (hw : ∀ d ∈ tables_1, d.before a0 Z = true) (a : Nat) (h0 : Heap) (n0 : Nat) (Z0 : n0 ≤ h0.size) (F : Fld Z h0 a "com/example/cytowire/cytowire/astm/Frame" "defect" "Ljava/lang/String;" .null) :
    own_Ct l Z (⟨"com/example/cytowire/cytowire/astm/Frame", "isSound", "()Z"⟩ : MethodName) prog_14_method_9_code 1 (some .boolean) ({ frames := 0, cells := 0, slots := 0, locals := 0 } : Room) #[(.ref a)] h0 (fun v h L => v = some (.int 1) ∧ Fr n0 L ∧ h = h0) := by
  refine own_body (y := (⟨"com/example/cytowire/cytowire/astm/Frame", "isSound", "()Z"⟩ : MethodName)) (Q := fun v h L => v = some (.int 1) ∧ Fr n0 L ∧ h = h0) (plainFor_of_name own_pn2) ?_
  intro p e s m below meth c s₁ Bd hml0 hZ e0
  have hx := Bd.exec
  have hby := Bd.bytes
  have hml : c.maxLocals = 1 := hml0
  have hown : s.vm.findClass "com/example/cytowire/cytowire/astm/Frame" = some m.cls := findClass_of_methodNamed Bd.named
  have hnm := (name_of_methodNamed Bd.named Bd.method).1
  have X0 : Stand p l e ({ frames := 0, cells := 0, slots := 0, locals := 0 } : Room) s m #[(.ref a)] below meth c s₁ [] 0 0 := Stand.of_body Bd
  have N0 := Fr.nil n0
  rw [own_efisN]
  have sg1 : own_V p e below s₁ (mkF m 1 #[rv a] [(.ref a)]) (mkF m 0 #[rv a] []) := by
    intro t kt
    refine XS.aloadN X0.here hx rfl (hb hby own_d8_0) rfl rfl ?_
    show own_S p e below s₁ m 1 #[rv a] [(.ref a)] _
    exact kt
  refine own_st sg1 ?_
  obtain ⟨T2, X2, e2, st2⟩ := getF X0 hx hZ hown (host := "") (Or.inl (hw _ (List.mem_of_getElem? (i := 43) rfl))) Via.refl e0 F (g := (mkF m 1 #[rv a] [(.ref a)])) rfl rfl (hb hby own_d8_1)
  refine own_st st2 ?_
  show own_Go p e below _ T2 (mkF m 4 #[rv a] [.null])
  have sg3 : own_V p e below T2 (mkF m 12 #[rv a] [(.int (1 : Int32))]) (mkF m 4 #[rv a] [.null]) := by
    intro t kt
    refine XS.ifnonnullNo X2.here hx rfl (hb hby own_d8_4) rfl ?_
    show own_S p e below T2 m 7 #[rv a] [] _
    refine XS.iconst X2.here hx rfl (hb hby own_d8_7) ?_
    show own_S p e below T2 m 8 #[rv a] [(.int (1 : Int32))] _
    refine XS.goto X2.here hx rfl (pc0 := 8) (pc' := 12) rfl (hb hby own_d8_8) (by decide) (by decide) ?_
    show own_S p e below T2 m 12 #[rv a] [(.int (1 : Int32))] _
    exact kt
  refine own_st sg3 ?_
  exact own_retZ X2 hx Bd.notSynchronized Bd.returns (hb hby own_d8_12) (by decide) (by decide) (by decide) e2 ⟨rfl, N0, rfl⟩
theorem own_d9_0 : decode prog_14_method_10_code 0 = .ok (.aload_n 0, 1) := by decide +kernel
theorem own_d9_1 : decode prog_14_method_10_code 1 = .ok (.getfield 21, 3) := by decide +kernel
theorem own_d9_4 : decode prog_14_method_10_code 4 = .ok (.areturn, 1) := by decide +kernel
theorem own_efdfN (m : MethodId) (a : Nat) : entryFrame m #[(.ref a)] 1 = mkF m 0 #[rv a] [] := by first | (simp [entryFrame, mkF, argsToLocals, Value.category]; done) | rfl
set_option maxRecDepth 65536 in
set_option maxHeartbeats 40000000 in
theorem own_rmdfN (l : Launch) (Z : State) (a0 : Array Value) (hw : ∀ d ∈ tables_1, d.before a0 Z = true) (a : Nat) (h0 : Heap) (n0 : Nat) (Z0 : n0 ≤ h0.size) (F : Fld Z h0 a "com/example/cytowire/cytowire/astm/Frame" "defect" "Ljava/lang/String;" .null) :
    own_Ct l Z (⟨"com/example/cytowire/cytowire/astm/Frame", "defect", "()Ljava/lang/String;"⟩ : MethodName) prog_14_method_10_code 1 (some (.object "java/lang/String")) ({ frames := 0, cells := 0, slots := 0, locals := 0 } : Room) #[(.ref a)] h0 (fun v h L => v = some .null ∧ Fr n0 L ∧ h = h0) := by
  refine own_body (y := (⟨"com/example/cytowire/cytowire/astm/Frame", "defect", "()Ljava/lang/String;"⟩ : MethodName)) (Q := fun v h L => v = some .null ∧ Fr n0 L ∧ h = h0) (plainFor_of_name own_pn2) ?_
  intro p e s m below meth c s₁ Bd hml0 hZ e0
  have hx := Bd.exec
  have hby := Bd.bytes
  have hml : c.maxLocals = 1 := hml0
  have hown : s.vm.findClass "com/example/cytowire/cytowire/astm/Frame" = some m.cls := findClass_of_methodNamed Bd.named
  have hnm := (name_of_methodNamed Bd.named Bd.method).1
  have X0 : Stand p l e ({ frames := 0, cells := 0, slots := 0, locals := 0 } : Room) s m #[(.ref a)] below meth c s₁ [] 0 0 := Stand.of_body Bd
  have N0 := Fr.nil n0
  rw [own_efdfN]
  have sg1 : own_V p e below s₁ (mkF m 1 #[rv a] [(.ref a)]) (mkF m 0 #[rv a] []) := by
    intro t kt
    refine XS.aloadN X0.here hx rfl (hb hby own_d9_0) rfl rfl ?_
    show own_S p e below s₁ m 1 #[rv a] [(.ref a)] _
    exact kt
  refine own_st sg1 ?_
  obtain ⟨T2, X2, e2, st2⟩ := getF X0 hx hZ hown (host := "") (Or.inl (hw _ (List.mem_of_getElem? (i := 43) rfl))) Via.refl e0 F (g := (mkF m 1 #[rv a] [(.ref a)])) rfl rfl (hb hby own_d9_1)
  refine own_st st2 ?_
  show own_Go p e below _ T2 (mkF m 4 #[rv a] [.null])
  exact own_retR X2 hx Bd.notSynchronized Bd.returns rfl rfl (hb hby own_d9_4) (by decide) (by decide) e2 ⟨rfl, N0, rfl⟩
theorem own_effiR (m : MethodId) (a : Nat) (x : Int32) (tx : Nat) (y : Int32) (d : Nat) (z : Int32) : entryFrame m #[(.ref a), (.int x), (.ref tx), (.int y), (.ref d), (.int z)] 6 = mkF m 0 #[rv a, iv x, rv tx, iv y, rv d, iv z] [] := by first | (simp [entryFrame, mkF, argsToLocals, Value.category]; done) | rfl
set_option maxRecDepth 65536 in
set_option maxHeartbeats 40000000 in
theorem own_rmfiR (l : Launch) (Z : State) (a0 : Array Value) (hw : ∀ d ∈ tables_1, d.before a0 Z = true) (a : Nat) (x : Int32) (tx : Nat) (y : Int32) (d : Nat) (z : Int32) (h0 : Heap) (n0 : Nat) (Z0 : n0 ≤ h0.size) (EE : Exa Z h0 a "com/example/cytowire/cytowire/astm/Frame") (Fnumber : Fld Z h0 a "com/example/cytowire/cytowire/astm/Frame" "number" "I" (.int (0 : Int32))) (Ftext : Fld Z h0 a "com/example/cytowire/cytowire/astm/Frame" "text" "[B" .null) (FendsRecord : Fld Z h0 a "com/example/cytowire/cytowire/astm/Frame" "endsRecord" "Z" (.int (0 : Int32))) (Fdefect : Fld Z h0 a "com/example/cytowire/cytowire/astm/Frame" "defect" "Ljava/lang/String;" .null) (FoutOfRoom : Fld Z h0 a "com/example/cytowire/cytowire/astm/Frame" "outOfRoom" "Z" (.int (0 : Int32))) (g_a : n0 ≤ a) :
    own_Ct l Z (⟨"com/example/cytowire/cytowire/astm/Frame", "<init>", "(I[BZLjava/lang/String;Z)V"⟩ : MethodName) prog_14_method_1_code 6 none ({ frames := 1, cells := 0, slots := 0, locals := 12 } : Room) #[(.ref a), (.int x), (.ref tx), (.int y), (.ref d), (.int z)] h0 (fun v h L => v = none ∧ Fr n0 L ∧ Keep h0 h [a] ∧ Exa Z h a "com/example/cytowire/cytowire/astm/Frame" ∧ Fld Z h a "com/example/cytowire/cytowire/astm/Frame" "defect" "Ljava/lang/String;" (.ref d)) := by
  refine own_body (y := (⟨"com/example/cytowire/cytowire/astm/Frame", "<init>", "(I[BZLjava/lang/String;Z)V"⟩ : MethodName)) (Q := fun v h L => v = none ∧ Fr n0 L ∧ Keep h0 h [a] ∧ Exa Z h a "com/example/cytowire/cytowire/astm/Frame" ∧ Fld Z h a "com/example/cytowire/cytowire/astm/Frame" "defect" "Ljava/lang/String;" (.ref d)) (plainFor_of_name own_pn2) ?_
  intro p e s m below meth c s₁ Bd hml0 hZ e0
  have hx := Bd.exec
  have hby := Bd.bytes
  have hml : c.maxLocals = 6 := hml0
  have hown : s.vm.findClass "com/example/cytowire/cytowire/astm/Frame" = some m.cls := findClass_of_methodNamed Bd.named
  have hnm := (name_of_methodNamed Bd.named Bd.method).1
  have X0 : Stand p l e ({ frames := 1, cells := 0, slots := 0, locals := 12 } : Room) s m #[(.ref a), (.int x), (.ref tx), (.int y), (.ref d), (.int z)] below meth c s₁ [] 0 0 := Stand.of_body Bd
  have N0 := Fr.nil n0
  rw [own_effiR]
  have sg1 : own_V p e below s₁ (mkF m 1 #[rv a, iv x, rv tx, iv y, rv d, iv z] [(.ref a)]) (mkF m 0 #[rv a, iv x, rv tx, iv y, rv d, iv z] []) := by
    intro t kt
    refine XS.aloadN X0.here hx rfl (hb hby own_d7_0) rfl rfl ?_
    show own_S p e below s₁ m 1 #[rv a, iv x, rv tx, iv y, rv d, iv z] [(.ref a)] _
    exact kt
  refine own_st sg1 ?_
  obtain ⟨T2, X2, e2, st2⟩ := initO X0 hx hZ hown (hw _ (List.mem_of_getElem? (i := 36) rfl)) (hw _ (List.mem_of_getElem? (i := 13) rfl)) (hw _ (List.mem_of_getElem? (i := 14) rfl)) e0 (g := (mkF m 1 #[rv a, iv x, rv tx, iv y, rv d, iv z] [(.ref a)])) rfl (by rw [hml]; rfl) rfl (hb hby own_d7_1) (by decide) (W := 0) (by show 2 * 0 + _ ≤ _; exact Nat.le_of_eq rfl) (by decide)
  refine own_st st2 ?_
  show own_Go p e below _ T2 (mkF m 4 #[rv a, iv x, rv tx, iv y, rv d, iv z] [])
  have sg3 : own_V p e below T2 (mkF m 6 #[rv a, iv x, rv tx, iv y, rv d, iv z] [(.int x), (.ref a)]) (mkF m 4 #[rv a, iv x, rv tx, iv y, rv d, iv z] []) := by
    intro t kt
    refine XS.aloadN X2.here hx rfl (hb hby own_d7_4) rfl rfl ?_
    show own_S p e below T2 m 5 #[rv a, iv x, rv tx, iv y, rv d, iv z] [(.ref a)] _
    refine XS.iloadN X2.here hx rfl (hb hby own_d7_5) rfl ?_
    show own_S p e below T2 m 6 #[rv a, iv x, rv tx, iv y, rv d, iv z] [(.int x), (.ref a)] _
    exact kt
  refine own_st sg3 ?_
  obtain ⟨T4, h4, X4, e4, W4, st4⟩ := putF X2 hx hZ hown (host := "") (Or.inl (hw _ (List.mem_of_getElem? (i := 37) rfl))) Via.refl e2 Fnumber EE (Or.inr ⟨(hw _ (List.mem_of_getElem? (i := 38) rfl)), rfl, hnm⟩) (hw _ (List.mem_of_getElem? (i := 31) rfl)) (ty := .int) (by decide) rfl rfl (g := (mkF m 6 #[rv a, iv x, rv tx, iv y, rv d, iv z] [(.int x), (.ref a)])) rfl rfl (hb hby own_d7_6)
  refine own_st st4 ?_
  have Z4 : n0 ≤ h4.size := by rw [Wr.size W4]; exact Z0
  have N4 := Fr.snoc X4 N0 g_a
  show own_Go p e below _ T4 (mkF m 9 #[rv a, iv x, rv tx, iv y, rv d, iv z] [])
  have KK4 := Keep.of_wr W4
  have Ftext_4 := Ftext.other W4 (Or.inr (slot_ne (Or.inr (hw _ (List.mem_of_getElem? (i := 40) rfl))) (Or.inr (hw _ (List.mem_of_getElem? (i := 38) rfl))) (by decide) (t := (.array .byte)) (t' := .int) (by decide) (by decide)))
  have FendsRecord_4 := FendsRecord.other W4 (Or.inr (slot_ne (Or.inr (hw _ (List.mem_of_getElem? (i := 42) rfl))) (Or.inr (hw _ (List.mem_of_getElem? (i := 38) rfl))) (by decide) (t := .boolean) (t' := .int) (by decide) (by decide)))
  have Fdefect_4 := Fdefect.other W4 (Or.inr (slot_ne (Or.inr (hw _ (List.mem_of_getElem? (i := 44) rfl))) (Or.inr (hw _ (List.mem_of_getElem? (i := 38) rfl))) (by decide) (t := (.object "java/lang/String")) (t' := .int) (by decide) (by decide)))
  have FoutOfRoom_4 := FoutOfRoom.other W4 (Or.inr (slot_ne (Or.inr (hw _ (List.mem_of_getElem? (i := 46) rfl))) (Or.inr (hw _ (List.mem_of_getElem? (i := 38) rfl))) (by decide) (t := .boolean) (t' := .int) (by decide) (by decide)))
  have EE_4 := EE.keep KK4
  have Fnumber_4 := Fnumber.same W4
  have KA4 : Keep h0 h4 [a] := (Keep.refl h0 [a]).wr W4 (Or.inl (List.mem_of_getElem? (i := 0) rfl))
  have sg5 : own_V p e below T4 (mkF m 11 #[rv a, iv x, rv tx, iv y, rv d, iv z] [(.ref tx), (.ref a)]) (mkF m 9 #[rv a, iv x, rv tx, iv y, rv d, iv z] []) := by
    intro t kt
    refine XS.aloadN X4.here hx rfl (hb hby own_d7_9) rfl rfl ?_
    show own_S p e below T4 m 10 #[rv a, iv x, rv tx, iv y, rv d, iv z] [(.ref a)] _
    refine XS.aloadN X4.here hx rfl (hb hby own_d7_10) rfl rfl ?_
    show own_S p e below T4 m 11 #[rv a, iv x, rv tx, iv y, rv d, iv z] [(.ref tx), (.ref a)] _
    exact kt
  refine own_st sg5 ?_
  obtain ⟨T6, h6, X6, e6, W6, st6⟩ := putF X4 hx hZ hown (host := "") (Or.inl (hw _ (List.mem_of_getElem? (i := 39) rfl))) Via.refl e4 Ftext_4 EE_4 (Or.inr ⟨(hw _ (List.mem_of_getElem? (i := 40) rfl)), rfl, hnm⟩) (hw _ (List.mem_of_getElem? (i := 31) rfl)) (ty := (.array .byte)) (by decide) rfl rfl (g := (mkF m 11 #[rv a, iv x, rv tx, iv y, rv d, iv z] [(.ref tx), (.ref a)])) rfl rfl (hb hby own_d7_11)
  refine own_st st6 ?_
  have Z6 : n0 ≤ h6.size := by rw [Wr.size W6]; exact Z4
  have N6 := Fr.snoc X6 N4 g_a
  show own_Go p e below _ T6 (mkF m 14 #[rv a, iv x, rv tx, iv y, rv d, iv z] [])
  have KK6 := Keep.of_wr W6
  have Fnumber_6 := Fnumber_4.other W6 (Or.inr (slot_ne (Or.inr (hw _ (List.mem_of_getElem? (i := 38) rfl))) (Or.inr (hw _ (List.mem_of_getElem? (i := 40) rfl))) (by decide) (t := .int) (t' := (.array .byte)) (by decide) (by decide)))
  have FendsRecord_6 := FendsRecord_4.other W6 (Or.inr (slot_ne (Or.inr (hw _ (List.mem_of_getElem? (i := 42) rfl))) (Or.inr (hw _ (List.mem_of_getElem? (i := 40) rfl))) (by decide) (t := .boolean) (t' := (.array .byte)) (by decide) (by decide)))
  have Fdefect_6 := Fdefect_4.other W6 (Or.inr (slot_ne (Or.inr (hw _ (List.mem_of_getElem? (i := 44) rfl))) (Or.inr (hw _ (List.mem_of_getElem? (i := 40) rfl))) (by decide) (t := (.object "java/lang/String")) (t' := (.array .byte)) (by decide) (by decide)))
  have FoutOfRoom_6 := FoutOfRoom_4.other W6 (Or.inr (slot_ne (Or.inr (hw _ (List.mem_of_getElem? (i := 46) rfl))) (Or.inr (hw _ (List.mem_of_getElem? (i := 40) rfl))) (by decide) (t := .boolean) (t' := (.array .byte)) (by decide) (by decide)))
  have EE_6 := EE_4.keep KK6
  have Ftext_6 := Ftext_4.same W6
  have KA6 : Keep h0 h6 [a] := KA4.wr W6 (Or.inl (List.mem_of_getElem? (i := 0) rfl))
  have sg7 : own_V p e below T6 (mkF m 16 #[rv a, iv x, rv tx, iv y, rv d, iv z] [(.int y), (.ref a)]) (mkF m 14 #[rv a, iv x, rv tx, iv y, rv d, iv z] []) := by
    intro t kt
    refine XS.aloadN X6.here hx rfl (hb hby own_d7_14) rfl rfl ?_
    show own_S p e below T6 m 15 #[rv a, iv x, rv tx, iv y, rv d, iv z] [(.ref a)] _
    refine XS.iloadN X6.here hx rfl (hb hby own_d7_15) rfl ?_
    show own_S p e below T6 m 16 #[rv a, iv x, rv tx, iv y, rv d, iv z] [(.int y), (.ref a)] _
    exact kt
  refine own_st sg7 ?_
  obtain ⟨T8, h8, X8, e8, W8, st8⟩ := putFN X6 hx hZ hown (hw _ (List.mem_of_getElem? (i := 41) rfl)) Via.refl e6 FendsRecord_6 EE_6 (Or.inr ⟨(hw _ (List.mem_of_getElem? (i := 42) rfl)), rfl, hnm⟩) (hw _ (List.mem_of_getElem? (i := 31) rfl)) (ty := .boolean) (v' := (.int (nar .boolean y))) (by decide) rfl (fits_nar_bool _) (g := (mkF m 16 #[rv a, iv x, rv tx, iv y, rv d, iv z] [(.int y), (.ref a)])) rfl rfl (hb hby own_d7_16)
  refine own_st st8 ?_
  have Z8 : n0 ≤ h8.size := by rw [Wr.size W8]; exact Z6
  have N8 := Fr.snoc X8 N6 g_a
  show own_Go p e below _ T8 (mkF m 19 #[rv a, iv x, rv tx, iv y, rv d, iv z] [])
  have KK8 := Keep.of_wr W8
  have Fnumber_8 := Fnumber_6.other W8 (Or.inr (slot_ne (Or.inr (hw _ (List.mem_of_getElem? (i := 38) rfl))) (Or.inr (hw _ (List.mem_of_getElem? (i := 42) rfl))) (by decide) (t := .int) (t' := .boolean) (by decide) (by decide)))
  have Ftext_8 := Ftext_6.other W8 (Or.inr (slot_ne (Or.inr (hw _ (List.mem_of_getElem? (i := 40) rfl))) (Or.inr (hw _ (List.mem_of_getElem? (i := 42) rfl))) (by decide) (t := (.array .byte)) (t' := .boolean) (by decide) (by decide)))
  have Fdefect_8 := Fdefect_6.other W8 (Or.inr (slot_ne (Or.inr (hw _ (List.mem_of_getElem? (i := 44) rfl))) (Or.inr (hw _ (List.mem_of_getElem? (i := 42) rfl))) (by decide) (t := (.object "java/lang/String")) (t' := .boolean) (by decide) (by decide)))
  have FoutOfRoom_8 := FoutOfRoom_6.other W8 (Or.inr (slot_ne (Or.inr (hw _ (List.mem_of_getElem? (i := 46) rfl))) (Or.inr (hw _ (List.mem_of_getElem? (i := 42) rfl))) (by decide) (t := .boolean) (t' := .boolean) (by decide) (by decide)))
  have EE_8 := EE_6.keep KK8
  have FendsRecord_8 := FendsRecord_6.same W8
  have KA8 : Keep h0 h8 [a] := KA6.wr W8 (Or.inl (List.mem_of_getElem? (i := 0) rfl))
  have sg9 : own_V p e below T8 (mkF m 22 #[rv a, iv x, rv tx, iv y, rv d, iv z] [(.ref d), (.ref a)]) (mkF m 19 #[rv a, iv x, rv tx, iv y, rv d, iv z] []) := by
    intro t kt
    refine XS.aloadN X8.here hx rfl (hb hby own_d7_19) rfl rfl ?_
    show own_S p e below T8 m 20 #[rv a, iv x, rv tx, iv y, rv d, iv z] [(.ref a)] _
    refine XS.aload X8.here hx rfl (hb hby own_d7_20) rfl rfl ?_
    show own_S p e below T8 m 22 #[rv a, iv x, rv tx, iv y, rv d, iv z] [(.ref d), (.ref a)] _
    exact kt
  refine own_st sg9 ?_
  obtain ⟨T10, h10, X10, e10, W10, st10⟩ := putF X8 hx hZ hown (host := "") (Or.inl (hw _ (List.mem_of_getElem? (i := 43) rfl))) Via.refl e8 Fdefect_8 EE_8 (Or.inr ⟨(hw _ (List.mem_of_getElem? (i := 44) rfl)), rfl, hnm⟩) (hw _ (List.mem_of_getElem? (i := 31) rfl)) (ty := (.object "java/lang/String")) (by decide) rfl rfl (g := (mkF m 22 #[rv a, iv x, rv tx, iv y, rv d, iv z] [(.ref d), (.ref a)])) rfl rfl (hb hby own_d7_22)
  refine own_st st10 ?_
  have Z10 : n0 ≤ h10.size := by rw [Wr.size W10]; exact Z8
  have N10 := Fr.snoc X10 N8 g_a
  show own_Go p e below _ T10 (mkF m 25 #[rv a, iv x, rv tx, iv y, rv d, iv z] [])
  have KK10 := Keep.of_wr W10
  have Fnumber_10 := Fnumber_8.other W10 (Or.inr (slot_ne (Or.inr (hw _ (List.mem_of_getElem? (i := 38) rfl))) (Or.inr (hw _ (List.mem_of_getElem? (i := 44) rfl))) (by decide) (t := .int) (t' := (.object "java/lang/String")) (by decide) (by decide)))
  have Ftext_10 := Ftext_8.other W10 (Or.inr (slot_ne (Or.inr (hw _ (List.mem_of_getElem? (i := 40) rfl))) (Or.inr (hw _ (List.mem_of_getElem? (i := 44) rfl))) (by decide) (t := (.array .byte)) (t' := (.object "java/lang/String")) (by decide) (by decide)))
  have FendsRecord_10 := FendsRecord_8.other W10 (Or.inr (slot_ne (Or.inr (hw _ (List.mem_of_getElem? (i := 42) rfl))) (Or.inr (hw _ (List.mem_of_getElem? (i := 44) rfl))) (by decide) (t := .boolean) (t' := (.object "java/lang/String")) (by decide) (by decide)))
  have FoutOfRoom_10 := FoutOfRoom_8.other W10 (Or.inr (slot_ne (Or.inr (hw _ (List.mem_of_getElem? (i := 46) rfl))) (Or.inr (hw _ (List.mem_of_getElem? (i := 44) rfl))) (by decide) (t := .boolean) (t' := (.object "java/lang/String")) (by decide) (by decide)))
  have EE_10 := EE_8.keep KK10
  have Fdefect_10 := Fdefect_8.same W10
  have KA10 : Keep h0 h10 [a] := KA8.wr W10 (Or.inl (List.mem_of_getElem? (i := 0) rfl))
  have sg11 : own_V p e below T10 (mkF m 28 #[rv a, iv x, rv tx, iv y, rv d, iv z] [(.int z), (.ref a)]) (mkF m 25 #[rv a, iv x, rv tx, iv y, rv d, iv z] []) := by
    intro t kt
    refine XS.aloadN X10.here hx rfl (hb hby own_d7_25) rfl rfl ?_
    show own_S p e below T10 m 26 #[rv a, iv x, rv tx, iv y, rv d, iv z] [(.ref a)] _
    refine XS.iload X10.here hx rfl (hb hby own_d7_26) rfl ?_
    show own_S p e below T10 m 28 #[rv a, iv x, rv tx, iv y, rv d, iv z] [(.int z), (.ref a)] _
    exact kt
  refine own_st sg11 ?_
  obtain ⟨T12, h12, X12, e12, W12, st12⟩ := putFN X10 hx hZ hown (hw _ (List.mem_of_getElem? (i := 45) rfl)) Via.refl e10 FoutOfRoom_10 EE_10 (Or.inr ⟨(hw _ (List.mem_of_getElem? (i := 46) rfl)), rfl, hnm⟩) (hw _ (List.mem_of_getElem? (i := 31) rfl)) (ty := .boolean) (v' := (.int (nar .boolean z))) (by decide) rfl (fits_nar_bool _) (g := (mkF m 28 #[rv a, iv x, rv tx, iv y, rv d, iv z] [(.int z), (.ref a)])) rfl rfl (hb hby own_d7_28)
  refine own_st st12 ?_
  have Z12 : n0 ≤ h12.size := by rw [Wr.size W12]; exact Z10
  have N12 := Fr.snoc X12 N10 g_a
  show own_Go p e below _ T12 (mkF m 31 #[rv a, iv x, rv tx, iv y, rv d, iv z] [])
  have KK12 := Keep.of_wr W12
  have Fnumber_12 := Fnumber_10.other W12 (Or.inr (slot_ne (Or.inr (hw _ (List.mem_of_getElem? (i := 38) rfl))) (Or.inr (hw _ (List.mem_of_getElem? (i := 46) rfl))) (by decide) (t := .int) (t' := .boolean) (by decide) (by decide)))
  have Ftext_12 := Ftext_10.other W12 (Or.inr (slot_ne (Or.inr (hw _ (List.mem_of_getElem? (i := 40) rfl))) (Or.inr (hw _ (List.mem_of_getElem? (i := 46) rfl))) (by decide) (t := (.array .byte)) (t' := .boolean) (by decide) (by decide)))
  have FendsRecord_12 := FendsRecord_10.other W12 (Or.inr (slot_ne (Or.inr (hw _ (List.mem_of_getElem? (i := 42) rfl))) (Or.inr (hw _ (List.mem_of_getElem? (i := 46) rfl))) (by decide) (t := .boolean) (t' := .boolean) (by decide) (by decide)))
  have Fdefect_12 := Fdefect_10.other W12 (Or.inr (slot_ne (Or.inr (hw _ (List.mem_of_getElem? (i := 44) rfl))) (Or.inr (hw _ (List.mem_of_getElem? (i := 46) rfl))) (by decide) (t := (.object "java/lang/String")) (t' := .boolean) (by decide) (by decide)))
  have EE_12 := EE_10.keep KK12
  have FoutOfRoom_12 := FoutOfRoom_10.same W12
  have KA12 : Keep h0 h12 [a] := KA10.wr W12 (Or.inl (List.mem_of_getElem? (i := 0) rfl))
  exact own_retV X12 hx Bd.notSynchronized Bd.returns (hb hby own_d7_31) (by decide) (by decide) e12 ⟨rfl, N12, KA12, EE_12, Fdefect_12⟩
theorem own_efisR (m : MethodId) (a : Nat) : entryFrame m #[(.ref a)] 1 = mkF m 0 #[rv a] [] := by first | (simp [entryFrame, mkF, argsToLocals, Value.category]; done) | rfl
set_option maxRecDepth 65536 in
set_option maxHeartbeats 40000000 in
theorem own_rmisR (l : Launch) (Z : State) (a0 : Array Value) (hw : ∀ d ∈ tables_1, d.before a0 Z = true) (a : Nat) (d : Nat) (h0 : Heap) (n0 : Nat) (Z0 : n0 ≤ h0.size) (F : Fld Z h0 a "com/example/cytowire/cytowire/astm/Frame" "defect" "Ljava/lang/String;" (.ref d)) :
    own_Ct l Z (⟨"com/example/cytowire/cytowire/astm/Frame", "isSound", "()Z"⟩ : MethodName) prog_14_method_9_code 1 (some .boolean) ({ frames := 0, cells := 0, slots := 0, locals := 0 } : Room) #[(.ref a)] h0 (fun v h L => v = some (.int 0) ∧ Fr n0 L ∧ h = h0) := by
  refine own_body (y := (⟨"com/example/cytowire/cytowire/astm/Frame", "isSound", "()Z"⟩ : MethodName)) (Q := fun v h L => v = some (.int 0) ∧ Fr n0 L ∧ h = h0) (plainFor_of_name own_pn2) ?_
  intro p e s m below meth c s₁ Bd hml0 hZ e0
  have hx := Bd.exec
  have hby := Bd.bytes
  have hml : c.maxLocals = 1 := hml0
  have hown : s.vm.findClass "com/example/cytowire/cytowire/astm/Frame" = some m.cls := findClass_of_methodNamed Bd.named
  have hnm := (name_of_methodNamed Bd.named Bd.method).1
  have X0 : Stand p l e ({ frames := 0, cells := 0, slots := 0, locals := 0 } : Room) s m #[(.ref a)] below meth c s₁ [] 0 0 := Stand.of_body Bd
  have N0 := Fr.nil n0
  rw [own_efisR]
  have sg1 : own_V p e below s₁ (mkF m 1 #[rv a] [(.ref a)]) (mkF m 0 #[rv a] []) := by
    intro t kt
    refine XS.aloadN X0.here hx rfl (hb hby own_d8_0) rfl rfl ?_
    show own_S p e below s₁ m 1 #[rv a] [(.ref a)] _
    exact kt
  refine own_st sg1 ?_
  obtain ⟨T2, X2, e2, st2⟩ := getF X0 hx hZ hown (host := "") (Or.inl (hw _ (List.mem_of_getElem? (i := 43) rfl))) Via.refl e0 F (g := (mkF m 1 #[rv a] [(.ref a)])) rfl rfl (hb hby own_d8_1)
  refine own_st st2 ?_
  show own_Go p e below _ T2 (mkF m 4 #[rv a] [(.ref d)])
  have sg3 : own_V p e below T2 (mkF m 12 #[rv a] [(.int (0 : Int32))]) (mkF m 4 #[rv a] [(.ref d)]) := by
    intro t kt
    refine XS.ifnonnullYes X2.here hx rfl (pc0 := 4) (pc' := 11) rfl (hb hby own_d8_4) rfl (by decide) (by decide) ?_
    show own_S p e below T2 m 11 #[rv a] [] _
    refine XS.iconst X2.here hx rfl (hb hby own_d8_11) ?_
    show own_S p e below T2 m 12 #[rv a] [(.int (0 : Int32))] _
    exact kt
  refine own_st sg3 ?_
  exact own_retZ X2 hx Bd.notSynchronized Bd.returns (hb hby own_d8_12) (by decide) (by decide) (by decide) e2 ⟨rfl, N0, rfl⟩
theorem own_efdfR (m : MethodId) (a : Nat) : entryFrame m #[(.ref a)] 1 = mkF m 0 #[rv a] [] := by first | (simp [entryFrame, mkF, argsToLocals, Value.category]; done) | rfl
set_option maxRecDepth 65536 in
set_option maxHeartbeats 40000000 in
theorem own_rmdfR (l : Launch) (Z : State) (a0 : Array Value) (hw : ∀ d ∈ tables_1, d.before a0 Z = true) (a : Nat) (d : Nat) (h0 : Heap) (n0 : Nat) (Z0 : n0 ≤ h0.size) (F : Fld Z h0 a "com/example/cytowire/cytowire/astm/Frame" "defect" "Ljava/lang/String;" (.ref d)) :
    own_Ct l Z (⟨"com/example/cytowire/cytowire/astm/Frame", "defect", "()Ljava/lang/String;"⟩ : MethodName) prog_14_method_10_code 1 (some (.object "java/lang/String")) ({ frames := 0, cells := 0, slots := 0, locals := 0 } : Room) #[(.ref a)] h0 (fun v h L => v = some (.ref d) ∧ Fr n0 L ∧ h = h0) := by
  refine own_body (y := (⟨"com/example/cytowire/cytowire/astm/Frame", "defect", "()Ljava/lang/String;"⟩ : MethodName)) (Q := fun v h L => v = some (.ref d) ∧ Fr n0 L ∧ h = h0) (plainFor_of_name own_pn2) ?_
  intro p e s m below meth c s₁ Bd hml0 hZ e0
  have hx := Bd.exec
  have hby := Bd.bytes
  have hml : c.maxLocals = 1 := hml0
  have hown : s.vm.findClass "com/example/cytowire/cytowire/astm/Frame" = some m.cls := findClass_of_methodNamed Bd.named
  have hnm := (name_of_methodNamed Bd.named Bd.method).1
  have X0 : Stand p l e ({ frames := 0, cells := 0, slots := 0, locals := 0 } : Room) s m #[(.ref a)] below meth c s₁ [] 0 0 := Stand.of_body Bd
  have N0 := Fr.nil n0
  rw [own_efdfR]
  have sg1 : own_V p e below s₁ (mkF m 1 #[rv a] [(.ref a)]) (mkF m 0 #[rv a] []) := by
    intro t kt
    refine XS.aloadN X0.here hx rfl (hb hby own_d9_0) rfl rfl ?_
    show own_S p e below s₁ m 1 #[rv a] [(.ref a)] _
    exact kt
  refine own_st sg1 ?_
  obtain ⟨T2, X2, e2, st2⟩ := getF X0 hx hZ hown (host := "") (Or.inl (hw _ (List.mem_of_getElem? (i := 43) rfl))) Via.refl e0 F (g := (mkF m 1 #[rv a] [(.ref a)])) rfl rfl (hb hby own_d9_1)
  refine own_st st2 ?_
  show own_Go p e below _ T2 (mkF m 4 #[rv a] [(.ref d)])
  exact own_retR X2 hx Bd.notSynchronized Bd.returns rfl rfl (hb hby own_d9_4) (by decide) (by decide) e2 ⟨rfl, N0, rfl⟩
theorem own_c2 (f : Nat → Int32) (a b : Int32) (h0 : ¬ (255 : Int32) < a) (h1 : ¬ (255 : Int32) < b) : ∀ i, i < 2 → ¬ (255 : Int32) < own_upd (own_upd f 0 a) 1 b i := by
  intro i hi
  have : i = 0 ∨ i = 1 := by omega
  rcases this with rfl | rfl
  · exact h0
  · exact h1
theorem own_lo (x : Int32) : ¬ (255 : Int32) < nar .char (x &&& (255 : Int32)).toUInt32.toUInt16.toUInt32.toInt32 := by
  have m : (x &&& (255 : Int32)).toInt = x.toInt % ((2 ^ 8 : Nat) : Int) := c_mask x 255 8 (by decide) (by decide)
  have m' : (x &&& (255 : Int32)).toInt = x.toInt % 256 := m
  show ¬ (255 : Int32) < (x &&& (255 : Int32)).toUInt32.toUInt16.toUInt32.toInt32.toUInt32.toUInt16.toUInt32.toInt32
  rw [i2c_mask, i2c_mask, Int32.lt_iff_toInt_lt]
  have e : (255 : Int32).toInt = 255 := by decide
  rw [e]; omega
theorem own_pd4 : parseMethodDescriptor "([C)V" = some ⟨[(.array .char)], none⟩ := by decide +kernel
theorem own_pd5 : parseMethodDescriptor "(I[BZLjava/lang/String;Z)V" = some ⟨[.int, (.array .byte), .boolean, (.object "java/lang/String"), .boolean], none⟩ := by decide +kernel
theorem own_pd6 : parseMethodDescriptor "()Z" = some ⟨[], some .boolean⟩ := by decide +kernel
theorem own_pd7 : parseMethodDescriptor "()Ljava/lang/String;" = some ⟨[], some (.object "java/lang/String")⟩ := by decide +kernel
theorem own_pn3 : plainName "com/example/cytowire/cytowire/astm/FrameIsSoundPinLaw" = true := by first | (simp [plainName, overriddenIn]; done) | decide +kernel
theorem own_eflaw (m : MethodId) (xn : Int32) (xt : Int32) (xf : Int32) (xd : Int32) : entryFrame m #[(.int xn), (.int xt), (.int xf), (.int xd)] maxLocals = mkF m 0 #[iv xn, iv xt, iv xf, iv xd, .unset, .unset, .unset, .unset, .unset, .unset, .unset, .unset, .unset] [] := by first | (simp [entryFrame, mkF, argsToLocals, Value.category, maxLocals]; done) | rfl
set_option maxRecDepth 65536 in
set_option maxHeartbeats 40000000 in
theorem own_rmlaw (l : Launch) (Z : State) (a0 : Array Value) (hw : ∀ d ∈ tables_1, d.before a0 Z = true) (xn : Int32) (xt : Int32) (xf : Int32) (xd : Int32) (cc : Int32) (h0 : Heap) (n0 : Nat) (Z0 : n0 ≤ h0.size) (SC : Sta Z h0 "java/lang/String" "COMPACT_STRINGS" "Z" (.int cc)) (hcc : ¬ cc = 0) (HZ : Z.heap = h0) (hh : Jvm.Lit.constHeld Z "java/lang/String" 7) (hcw : Jvm.Lit.compactW.before a0 Z = true) :
    MetFree l Jvm.Pilot.@@N@@.x (head1 (Jvm.Cond.code Jvm.Pilot.@@N@@.x code maxLocals ret :: tables_1) room_1) (fun a U => a = #[(.int xn), (.int xt), (.int xf), (.int xd)] ∧ Z.Warmed39 U.vm ∧ U.heap = h0 ∧ (fun vm => vm.interned = Z.vm.interned) U.vm) (fun _ _ _ _ _ => True) (fun _ U o U' => ∃ v L, o = .returned v ∧ (fun v h vm L => v = some (.int 1) ∧ Fr n0 L) v U'.heap U'.vm L ∧ ReturnedEndW U o U' L 6 15) := by
  refine own_bodyJ (y := Jvm.Pilot.@@N@@.x) (Q := fun v h vm L => v = some (.int 1) ∧ Fr n0 L) (J := fun vm => vm.interned = Z.vm.interned) (plainFor_of_name own_pn3) ?_
  intro p e s m below meth c s₁ Bd hml0 hZ e0 hs0 hJ
  have hx := Bd.exec
  have hby := Bd.bytes
  have hml : c.maxLocals = 13 := hml0
  have hown : s.vm.findClass "com/example/cytowire/cytowire/astm/FrameIsSoundPinLaw" = some m.cls := findClass_of_methodNamed Bd.named
  have hnm := (name_of_methodNamed Bd.named Bd.method).1
  have X0 : Stand p l e room_1 s m #[(.int xn), (.int xt), (.int xf), (.int xd)] below meth c s₁ [] 0 0 := Stand.of_body Bd
  have N0 := Fr.nil n0
  rw [own_eflaw]
  have sg1 : own_V p e below s₁ (mkF m 1 #[iv xn, iv xt, iv xf, iv xd, .unset, .unset, .unset, .unset, .unset, .unset, .unset, .unset, .unset] [(.int (2 : Int32))]) (mkF m 0 #[iv xn, iv xt, iv xf, iv xd, .unset, .unset, .unset, .unset, .unset, .unset, .unset, .unset, .unset] []) := by
    intro t kt
    refine XS.iconst X0.here hx rfl (hb hby at_0) ?_
    show own_S p e below s₁ m 1 #[iv xn, iv xt, iv xf, iv xd, .unset, .unset, .unset, .unset, .unset, .unset, .unset, .unset, .unset] [(.int (2 : Int32))] _
    exact kt
  refine own_st sg1 ?_
  obtain ⟨T2, h2, a2, g2, X2, e2, E2, A2, st2⟩ := own_newP (n := 2) X0 hx hZ (hw _ (List.mem_of_getElem? (i := 0) rfl)) e0 (by decide) rfl (g := (mkF m 1 #[iv xn, iv xt, iv xf, iv xd, .unset, .unset, .unset, .unset, .unset, .unset, .unset, .unset, .unset] [(.int (2 : Int32))])) rfl rfl (hb hby at_1) (cap := 2) (by decide) (by decide) (by decide) (by decide)
  refine own_st st2 ?_
  have g_a2 : n0 ≤ a2 := by rw [g2]; exact Z0
  have Z2 : n0 ≤ h2.size := Nat.le_trans Z0 E2.1
  have kk2 : 0 ≤ h2.size := Nat.le_trans (Nat.zero_le _) E2.1
  have B2 : own_AI Z h2 a2 .byte 2 (fun _ => 0) := A2
  show own_Go p e below _ T2 (mkF m 3 #[iv xn, iv xt, iv xf, iv xd, .unset, .unset, .unset, .unset, .unset, .unset, .unset, .unset, .unset] [(.ref a2)])
  have K2 : Keep h0 h2 [] := (Keep.refl h0 []).ext E2
  have szt : h0.size ≤ a2 := Nat.le_of_eq g2.symm
  have sg3 : own_V p e below T2 (mkF m 10 #[iv xn, iv xt, iv xf, iv xd, rv a2, .unset, .unset, .unset, .unset, .unset, .unset, .unset, .unset] [(.int xt.toInt8.toInt32), (.int (0 : Int32)), (.ref a2)]) (mkF m 3 #[iv xn, iv xt, iv xf, iv xd, .unset, .unset, .unset, .unset, .unset, .unset, .unset, .unset, .unset] [(.ref a2)]) := by
    intro t kt
    refine XS.astore X2.here hx rfl (hb hby at_3) rfl rfl (l' := #[iv xn, iv xt, iv xf, iv xd, rv a2, .unset, .unset, .unset, .unset, .unset, .unset, .unset, .unset]) rfl ?_
    show own_S p e below T2 m 5 #[iv xn, iv xt, iv xf, iv xd, rv a2, .unset, .unset, .unset, .unset, .unset, .unset, .unset, .unset] [] _
    refine XS.aload X2.here hx rfl (hb hby at_5) rfl rfl ?_
    show own_S p e below T2 m 7 #[iv xn, iv xt, iv xf, iv xd, rv a2, .unset, .unset, .unset, .unset, .unset, .unset, .unset, .unset] [(.ref a2)] _
    refine XS.iconst X2.here hx rfl (hb hby at_7) ?_
    show own_S p e below T2 m 8 #[iv xn, iv xt, iv xf, iv xd, rv a2, .unset, .unset, .unset, .unset, .unset, .unset, .unset, .unset] [(.int (0 : Int32)), (.ref a2)] _
    refine XS.iloadN X2.here hx rfl (hb hby at_8) rfl ?_
    show own_S p e below T2 m 9 #[iv xn, iv xt, iv xf, iv xd, rv a2, .unset, .unset, .unset, .unset, .unset, .unset, .unset, .unset] [(.int xt), (.int (0 : Int32)), (.ref a2)] _
    refine XS.i2b X2.here hx rfl (hb hby at_9) rfl ?_
    show own_S p e below T2 m 10 #[iv xn, iv xt, iv xf, iv xd, rv a2, .unset, .unset, .unset, .unset, .unset, .unset, .unset, .unset] [(.int xt.toInt8.toInt32), (.int (0 : Int32)), (.ref a2)] _
    exact kt
  refine own_st sg3 ?_
  obtain ⟨T4, h4, X4, e4, W4, A4, st4⟩ := own_wrB X2 hx hZ e2 B2 (k := 0) (by decide) (by decide) (g := (mkF m 10 #[iv xn, iv xt, iv xf, iv xd, rv a2, .unset, .unset, .unset, .unset, .unset, .unset, .unset, .unset] [(.int xt.toInt8.toInt32), (.int (0 : Int32)), (.ref a2)])) rfl rfl (hb hby at_10)
  refine own_st st4 ?_
  have Z4 : n0 ≤ h4.size := by rw [Wr.size W4]; exact Z2
  have kk4 : 0 ≤ h4.size := by rw [Wr.size W4]; exact kk2
  have N4 := Fr.snoc X4 N0 g_a2
  show own_Go p e below _ T4 (mkF m 11 #[iv xn, iv xt, iv xf, iv xd, rv a2, .unset, .unset, .unset, .unset, .unset, .unset, .unset, .unset] [])
  have K4 : Keep h0 h4 [] := K2.wr W4 (Or.inr szt)
  obtain ⟨v5, hv5⟩ : ∃ z : Int32, z = ((xt.toUInt32 >>> ((8 : Int32) &&& 31).toUInt32).toInt32).toInt8.toInt32 := ⟨_, rfl⟩
  have sg6 : own_V p e below T4 (mkF m 19 #[iv xn, iv xt, iv xf, iv xd, rv a2, .unset, .unset, .unset, .unset, .unset, .unset, .unset, .unset] [(.int v5), (.int (1 : Int32)), (.ref a2)]) (mkF m 11 #[iv xn, iv xt, iv xf, iv xd, rv a2, .unset, .unset, .unset, .unset, .unset, .unset, .unset, .unset] []) := by
    intro t kt
    refine XS.aload X4.here hx rfl (hb hby at_11) rfl rfl ?_
    show own_S p e below T4 m 13 #[iv xn, iv xt, iv xf, iv xd, rv a2, .unset, .unset, .unset, .unset, .unset, .unset, .unset, .unset] [(.ref a2)] _
    refine XS.iconst X4.here hx rfl (hb hby at_13) ?_
    show own_S p e below T4 m 14 #[iv xn, iv xt, iv xf, iv xd, rv a2, .unset, .unset, .unset, .unset, .unset, .unset, .unset, .unset] [(.int (1 : Int32)), (.ref a2)] _
    refine XS.iloadN X4.here hx rfl (hb hby at_14) rfl ?_
    show own_S p e below T4 m 15 #[iv xn, iv xt, iv xf, iv xd, rv a2, .unset, .unset, .unset, .unset, .unset, .unset, .unset, .unset] [(.int xt), (.int (1 : Int32)), (.ref a2)] _
    refine XS.bipush X4.here hx rfl (hb hby at_15) ?_
    show own_S p e below T4 m 17 #[iv xn, iv xt, iv xf, iv xd, rv a2, .unset, .unset, .unset, .unset, .unset, .unset, .unset, .unset] [(.int (8 : Int32)), (.int xt), (.int (1 : Int32)), (.ref a2)] _
    refine XS.iushr X4.here hx rfl (hb hby at_17) rfl ?_
    show own_S p e below T4 m 18 #[iv xn, iv xt, iv xf, iv xd, rv a2, .unset, .unset, .unset, .unset, .unset, .unset, .unset, .unset] [(.int ((xt.toUInt32 >>> ((8 : Int32) &&& 31).toUInt32).toInt32)), (.int (1 : Int32)), (.ref a2)] _
    refine XS.i2b X4.here hx rfl (hb hby at_18) rfl ?_
    show own_S p e below T4 m 19 #[iv xn, iv xt, iv xf, iv xd, rv a2, .unset, .unset, .unset, .unset, .unset, .unset, .unset, .unset] [(.int ((xt.toUInt32 >>> ((8 : Int32) &&& 31).toUInt32).toInt32).toInt8.toInt32), (.int (1 : Int32)), (.ref a2)] _
    rw [hv5] at kt
    exact kt
  refine own_st sg6 ?_
  obtain ⟨T7, h7, X7, e7, W7, A7, st7⟩ := own_wrB X4 hx hZ e4 A4 (k := 1) (by decide) (by decide) (g := (mkF m 19 #[iv xn, iv xt, iv xf, iv xd, rv a2, .unset, .unset, .unset, .unset, .unset, .unset, .unset, .unset] [(.int v5), (.int (1 : Int32)), (.ref a2)])) rfl rfl (hb hby at_19)
  refine own_st st7 ?_
  have Z7 : n0 ≤ h7.size := by rw [Wr.size W7]; exact Z4
  have kk7 : 0 ≤ h7.size := by rw [Wr.size W7]; exact kk4
  have N7 := Fr.snoc X7 N4 g_a2
  show own_Go p e below _ T7 (mkF m 20 #[iv xn, iv xt, iv xf, iv xd, rv a2, .unset, .unset, .unset, .unset, .unset, .unset, .unset, .unset] [])
  have K7 : Keep h0 h7 [] := K4.wr W7 (Or.inr szt)
  obtain ⟨nd, hnd⟩ : ∃ z : Int32, z = (if (xf &&& (1 : Int32)) = (0 : Int32) then (0 : Int32) else (1 : Int32)) := ⟨_, rfl⟩
  have sg9 : own_V p e below T7 (mkF m 31 #[iv xn, iv xt, iv xf, iv xd, rv a2, .unset, .unset, .unset, .unset, .unset, .unset, .unset, .unset] [(.int nd)]) (mkF m 20 #[iv xn, iv xt, iv xf, iv xd, rv a2, .unset, .unset, .unset, .unset, .unset, .unset, .unset, .unset] []) := by
    intro t kt
    refine XS.iloadN X7.here hx rfl (hb hby at_20) rfl ?_
    show own_S p e below T7 m 21 #[iv xn, iv xt, iv xf, iv xd, rv a2, .unset, .unset, .unset, .unset, .unset, .unset, .unset, .unset] [(.int xf)] _
    refine XS.iconst X7.here hx rfl (hb hby at_21) ?_
    show own_S p e below T7 m 22 #[iv xn, iv xt, iv xf, iv xd, rv a2, .unset, .unset, .unset, .unset, .unset, .unset, .unset, .unset] [(.int (1 : Int32)), (.int xf)] _
    refine XS.iand X7.here hx rfl (hb hby at_22) rfl ?_
    show own_S p e below T7 m 23 #[iv xn, iv xt, iv xf, iv xd, rv a2, .unset, .unset, .unset, .unset, .unset, .unset, .unset, .unset] [(.int (xf &&& (1 : Int32)))] _
    by_cases hc8 : (xf &&& (1 : Int32)) = (0 : Int32)
    · refine XS.ifYes X7.here hx rfl (pc0 := 23) (pc' := 30) rfl (hb hby at_23) rfl ((if0 _ _).trans (teq hc8).1) (by decide) (by decide) ?_
      show own_S p e below T7 m 30 #[iv xn, iv xt, iv xf, iv xd, rv a2, .unset, .unset, .unset, .unset, .unset, .unset, .unset, .unset] [] _
      refine XS.iconst X7.here hx rfl (hb hby at_30) ?_
      show own_S p e below T7 m 31 #[iv xn, iv xt, iv xf, iv xd, rv a2, .unset, .unset, .unset, .unset, .unset, .unset, .unset, .unset] [(.int (0 : Int32))] _
      rw [show nd = (0 : Int32) from by rw [hnd, if_pos hc8]] at kt
      exact kt
    · refine XS.ifNo X7.here hx rfl (hb hby at_23) rfl ((if0 _ _).trans (feq hc8).1) ?_
      show own_S p e below T7 m 26 #[iv xn, iv xt, iv xf, iv xd, rv a2, .unset, .unset, .unset, .unset, .unset, .unset, .unset, .unset] [] _
      refine XS.iconst X7.here hx rfl (hb hby at_26) ?_
      show own_S p e below T7 m 27 #[iv xn, iv xt, iv xf, iv xd, rv a2, .unset, .unset, .unset, .unset, .unset, .unset, .unset, .unset] [(.int (1 : Int32))] _
      refine XS.goto X7.here hx rfl (pc0 := 27) (pc' := 31) rfl (hb hby at_27) (by decide) (by decide) ?_
      show own_S p e below T7 m 31 #[iv xn, iv xt, iv xf, iv xd, rv a2, .unset, .unset, .unset, .unset, .unset, .unset, .unset, .unset] [(.int (1 : Int32))] _
      rw [show nd = (1 : Int32) from by rw [hnd, if_neg hc8]] at kt
      exact kt
  refine own_st sg9 ?_
  obtain ⟨ed, hed⟩ : ∃ z : Int32, z = (if (xf &&& (4 : Int32)) = (0 : Int32) then (0 : Int32) else (1 : Int32)) := ⟨_, rfl⟩
  have sg11 : own_V p e below T7 (mkF m 44 #[iv xn, iv xt, iv xf, iv xd, rv a2, iv nd, .unset, .unset, .unset, .unset, .unset, .unset, .unset] [(.int ed)]) (mkF m 31 #[iv xn, iv xt, iv xf, iv xd, rv a2, .unset, .unset, .unset, .unset, .unset, .unset, .unset, .unset] [(.int nd)]) := by
    intro t kt
    refine XS.istore X7.here hx rfl (hb hby at_31) rfl (l' := #[iv xn, iv xt, iv xf, iv xd, rv a2, iv nd, .unset, .unset, .unset, .unset, .unset, .unset, .unset]) rfl ?_
    show own_S p e below T7 m 33 #[iv xn, iv xt, iv xf, iv xd, rv a2, iv nd, .unset, .unset, .unset, .unset, .unset, .unset, .unset] [] _
    refine XS.iloadN X7.here hx rfl (hb hby at_33) rfl ?_
    show own_S p e below T7 m 34 #[iv xn, iv xt, iv xf, iv xd, rv a2, iv nd, .unset, .unset, .unset, .unset, .unset, .unset, .unset] [(.int xf)] _
    refine XS.iconst X7.here hx rfl (hb hby at_34) ?_
    show own_S p e below T7 m 35 #[iv xn, iv xt, iv xf, iv xd, rv a2, iv nd, .unset, .unset, .unset, .unset, .unset, .unset, .unset] [(.int (4 : Int32)), (.int xf)] _
    refine XS.iand X7.here hx rfl (hb hby at_35) rfl ?_
    show own_S p e below T7 m 36 #[iv xn, iv xt, iv xf, iv xd, rv a2, iv nd, .unset, .unset, .unset, .unset, .unset, .unset, .unset] [(.int (xf &&& (4 : Int32)))] _
    by_cases hc10 : (xf &&& (4 : Int32)) = (0 : Int32)
    · refine XS.ifYes X7.here hx rfl (pc0 := 36) (pc' := 43) rfl (hb hby at_36) rfl ((if0 _ _).trans (teq hc10).1) (by decide) (by decide) ?_
      show own_S p e below T7 m 43 #[iv xn, iv xt, iv xf, iv xd, rv a2, iv nd, .unset, .unset, .unset, .unset, .unset, .unset, .unset] [] _
      refine XS.iconst X7.here hx rfl (hb hby at_43) ?_
      show own_S p e below T7 m 44 #[iv xn, iv xt, iv xf, iv xd, rv a2, iv nd, .unset, .unset, .unset, .unset, .unset, .unset, .unset] [(.int (0 : Int32))] _
      rw [show ed = (0 : Int32) from by rw [hed, if_pos hc10]] at kt
      exact kt
    · refine XS.ifNo X7.here hx rfl (hb hby at_36) rfl ((if0 _ _).trans (feq hc10).1) ?_
      show own_S p e below T7 m 39 #[iv xn, iv xt, iv xf, iv xd, rv a2, iv nd, .unset, .unset, .unset, .unset, .unset, .unset, .unset] [] _
      refine XS.iconst X7.here hx rfl (hb hby at_39) ?_
      show own_S p e below T7 m 40 #[iv xn, iv xt, iv xf, iv xd, rv a2, iv nd, .unset, .unset, .unset, .unset, .unset, .unset, .unset] [(.int (1 : Int32))] _
      refine XS.goto X7.here hx rfl (pc0 := 40) (pc' := 44) rfl (hb hby at_40) (by decide) (by decide) ?_
      show own_S p e below T7 m 44 #[iv xn, iv xt, iv xf, iv xd, rv a2, iv nd, .unset, .unset, .unset, .unset, .unset, .unset, .unset] [(.int (1 : Int32))] _
      rw [show ed = (1 : Int32) from by rw [hed, if_neg hc10]] at kt
      exact kt
  refine own_st sg11 ?_
  obtain ⟨er, her⟩ : ∃ z : Int32, z = (if (xf &&& (8 : Int32)) = (0 : Int32) then (0 : Int32) else (1 : Int32)) := ⟨_, rfl⟩
  have sg13 : own_V p e below T7 (mkF m 58 #[iv xn, iv xt, iv xf, iv xd, rv a2, iv nd, iv ed, .unset, .unset, .unset, .unset, .unset, .unset] [(.int er)]) (mkF m 44 #[iv xn, iv xt, iv xf, iv xd, rv a2, iv nd, .unset, .unset, .unset, .unset, .unset, .unset, .unset] [(.int ed)]) := by
    intro t kt
    refine XS.istore X7.here hx rfl (hb hby at_44) rfl (l' := #[iv xn, iv xt, iv xf, iv xd, rv a2, iv nd, iv ed, .unset, .unset, .unset, .unset, .unset, .unset]) rfl ?_
    show own_S p e below T7 m 46 #[iv xn, iv xt, iv xf, iv xd, rv a2, iv nd, iv ed, .unset, .unset, .unset, .unset, .unset, .unset] [] _
    refine XS.iloadN X7.here hx rfl (hb hby at_46) rfl ?_
    show own_S p e below T7 m 47 #[iv xn, iv xt, iv xf, iv xd, rv a2, iv nd, iv ed, .unset, .unset, .unset, .unset, .unset, .unset] [(.int xf)] _
    refine XS.bipush X7.here hx rfl (hb hby at_47) ?_
    show own_S p e below T7 m 49 #[iv xn, iv xt, iv xf, iv xd, rv a2, iv nd, iv ed, .unset, .unset, .unset, .unset, .unset, .unset] [(.int (8 : Int32)), (.int xf)] _
    refine XS.iand X7.here hx rfl (hb hby at_49) rfl ?_
    show own_S p e below T7 m 50 #[iv xn, iv xt, iv xf, iv xd, rv a2, iv nd, iv ed, .unset, .unset, .unset, .unset, .unset, .unset] [(.int (xf &&& (8 : Int32)))] _
    by_cases hc12 : (xf &&& (8 : Int32)) = (0 : Int32)
    · refine XS.ifYes X7.here hx rfl (pc0 := 50) (pc' := 57) rfl (hb hby at_50) rfl ((if0 _ _).trans (teq hc12).1) (by decide) (by decide) ?_
      show own_S p e below T7 m 57 #[iv xn, iv xt, iv xf, iv xd, rv a2, iv nd, iv ed, .unset, .unset, .unset, .unset, .unset, .unset] [] _
      refine XS.iconst X7.here hx rfl (hb hby at_57) ?_
      show own_S p e below T7 m 58 #[iv xn, iv xt, iv xf, iv xd, rv a2, iv nd, iv ed, .unset, .unset, .unset, .unset, .unset, .unset] [(.int (0 : Int32))] _
      rw [show er = (0 : Int32) from by rw [her, if_pos hc12]] at kt
      exact kt
    · refine XS.ifNo X7.here hx rfl (hb hby at_50) rfl ((if0 _ _).trans (feq hc12).1) ?_
      show own_S p e below T7 m 53 #[iv xn, iv xt, iv xf, iv xd, rv a2, iv nd, iv ed, .unset, .unset, .unset, .unset, .unset, .unset] [] _
      refine XS.iconst X7.here hx rfl (hb hby at_53) ?_
      show own_S p e below T7 m 54 #[iv xn, iv xt, iv xf, iv xd, rv a2, iv nd, iv ed, .unset, .unset, .unset, .unset, .unset, .unset] [(.int (1 : Int32))] _
      refine XS.goto X7.here hx rfl (pc0 := 54) (pc' := 58) rfl (hb hby at_54) (by decide) (by decide) ?_
      show own_S p e below T7 m 58 #[iv xn, iv xt, iv xf, iv xd, rv a2, iv nd, iv ed, .unset, .unset, .unset, .unset, .unset, .unset] [(.int (1 : Int32))] _
      rw [show er = (1 : Int32) from by rw [her, if_neg hc12]] at kt
      exact kt
  refine own_st sg13 ?_
  have sg14 : own_V p e below T7 (mkF m 62 #[iv xn, iv xt, iv xf, iv xd, rv a2, iv nd, iv ed, iv er, .unset, .unset, .unset, .unset, .unset] [(.int nd)]) (mkF m 58 #[iv xn, iv xt, iv xf, iv xd, rv a2, iv nd, iv ed, .unset, .unset, .unset, .unset, .unset, .unset] [(.int er)]) := by
    intro t kt
    refine XS.istore X7.here hx rfl (hb hby at_58) rfl (l' := #[iv xn, iv xt, iv xf, iv xd, rv a2, iv nd, iv ed, iv er, .unset, .unset, .unset, .unset, .unset]) rfl ?_
    show own_S p e below T7 m 60 #[iv xn, iv xt, iv xf, iv xd, rv a2, iv nd, iv ed, iv er, .unset, .unset, .unset, .unset, .unset] [] _
    refine XS.iload X7.here hx rfl (hb hby at_60) rfl ?_
    show own_S p e below T7 m 62 #[iv xn, iv xt, iv xf, iv xd, rv a2, iv nd, iv ed, iv er, .unset, .unset, .unset, .unset, .unset] [(.int nd)] _
    exact kt
  refine own_st sg14 ?_
  by_cases hc15 : nd = (0 : Int32)
  · skip
    have sg16 : own_V p e below T7 (mkF m 71 #[iv xn, iv xt, iv xf, iv xd, rv a2, iv nd, iv ed, iv er, .unset, .unset, .unset, .unset, .unset] []) (mkF m 62 #[iv xn, iv xt, iv xf, iv xd, rv a2, iv nd, iv ed, iv er, .unset, .unset, .unset, .unset, .unset] [(.int nd)]) := by
      intro t kt
      refine XS.ifYes X7.here hx rfl (pc0 := 62) (pc' := 71) rfl (hb hby at_62) rfl ((if0 _ _).trans (teq hc15).1) (by decide) (by decide) ?_
      exact kt
    refine own_st sg16 ?_
    have sg17 : own_V p e below T7 (mkF m 73 #[iv xn, iv xt, iv xf, iv xd, rv a2, iv nd, iv ed, iv er, .unset, .unset, .unset, .unset, .unset] [(.int ed)]) (mkF m 71 #[iv xn, iv xt, iv xf, iv xd, rv a2, iv nd, iv ed, iv er, .unset, .unset, .unset, .unset, .unset] []) := by
      intro t kt
      refine XS.iload X7.here hx rfl (hb hby at_71) rfl ?_
      show own_S p e below T7 m 73 #[iv xn, iv xt, iv xf, iv xd, rv a2, iv nd, iv ed, iv er, .unset, .unset, .unset, .unset, .unset] [(.int ed)] _
      exact kt
    refine own_st sg17 ?_
    by_cases hc18 : ed = (0 : Int32)
    · skip
      have sg19 : own_V p e below T7 (mkF m 91 #[iv xn, iv xt, iv xf, iv xd, rv a2, iv nd, iv ed, iv er, .unset, .unset, .unset, .unset, .unset] []) (mkF m 73 #[iv xn, iv xt, iv xf, iv xd, rv a2, iv nd, iv ed, iv er, .unset, .unset, .unset, .unset, .unset] [(.int ed)]) := by
        intro t kt
        refine XS.ifYes X7.here hx rfl (pc0 := 73) (pc' := 91) rfl (hb hby at_73) rfl ((if0 _ _).trans (teq hc18).1) (by decide) (by decide) ?_
        exact kt
      refine own_st sg19 ?_
      have sg20 : own_V p e below T7 (mkF m 92 #[iv xn, iv xt, iv xf, iv xd, rv a2, iv nd, iv ed, iv er, .unset, .unset, .unset, .unset, .unset] [(.int (2 : Int32))]) (mkF m 91 #[iv xn, iv xt, iv xf, iv xd, rv a2, iv nd, iv ed, iv er, .unset, .unset, .unset, .unset, .unset] []) := by
        intro t kt
        refine XS.iconst X7.here hx rfl (hb hby at_91) ?_
        show own_S p e below T7 m 92 #[iv xn, iv xt, iv xf, iv xd, rv a2, iv nd, iv ed, iv er, .unset, .unset, .unset, .unset, .unset] [(.int (2 : Int32))] _
        exact kt
      refine own_st sg20 ?_
      obtain ⟨T21, h21, a21, g21, X21, e21, E21, A21, st21⟩ := own_newP (n := 2) X7 hx hZ (hw _ (List.mem_of_getElem? (i := 1) rfl)) e7 (by decide) rfl (g := (mkF m 92 #[iv xn, iv xt, iv xf, iv xd, rv a2, iv nd, iv ed, iv er, .unset, .unset, .unset, .unset, .unset] [(.int (2 : Int32))])) rfl rfl (hb hby at_92) (cap := 2) (by decide) (by decide) (by decide) (by decide)
      refine own_st st21 ?_
      have g_a21 : n0 ≤ a21 := by rw [g21]; exact Z7
      have Z21 : n0 ≤ h21.size := Nat.le_trans Z7 E21.1
      have kk21 : 0 ≤ h21.size := Nat.le_trans kk7 E21.1
      have B21 : own_AI Z h21 a21 .char 2 (fun _ => 0) := A21
      show own_Go p e below _ T21 (mkF m 94 #[iv xn, iv xt, iv xf, iv xd, rv a2, iv nd, iv ed, iv er, .unset, .unset, .unset, .unset, .unset] [(.ref a21)])
      have K21 : Keep h0 h21 [] := K7.ext E21
      have szc : h0.size ≤ a21 := by rw [g21]; exact K7.1
      have sg22 : own_V p e below T21 (mkF m 105 #[iv xn, iv xt, iv xf, iv xd, rv a2, iv nd, iv ed, iv er, .unset, rv a21, .unset, .unset, .unset] [(.int (xd &&& (255 : Int32)).toUInt32.toUInt16.toUInt32.toInt32), (.int (0 : Int32)), (.ref a21)]) (mkF m 94 #[iv xn, iv xt, iv xf, iv xd, rv a2, iv nd, iv ed, iv er, .unset, .unset, .unset, .unset, .unset] [(.ref a21)]) := by
        intro t kt
        refine XS.astore X21.here hx rfl (hb hby at_94) rfl rfl (l' := #[iv xn, iv xt, iv xf, iv xd, rv a2, iv nd, iv ed, iv er, .unset, rv a21, .unset, .unset, .unset]) rfl ?_
        show own_S p e below T21 m 96 #[iv xn, iv xt, iv xf, iv xd, rv a2, iv nd, iv ed, iv er, .unset, rv a21, .unset, .unset, .unset] [] _
        refine XS.aload X21.here hx rfl (hb hby at_96) rfl rfl ?_
        show own_S p e below T21 m 98 #[iv xn, iv xt, iv xf, iv xd, rv a2, iv nd, iv ed, iv er, .unset, rv a21, .unset, .unset, .unset] [(.ref a21)] _
        refine XS.iconst X21.here hx rfl (hb hby at_98) ?_
        show own_S p e below T21 m 99 #[iv xn, iv xt, iv xf, iv xd, rv a2, iv nd, iv ed, iv er, .unset, rv a21, .unset, .unset, .unset] [(.int (0 : Int32)), (.ref a21)] _
        refine XS.iloadN X21.here hx rfl (hb hby at_99) rfl ?_
        show own_S p e below T21 m 100 #[iv xn, iv xt, iv xf, iv xd, rv a2, iv nd, iv ed, iv er, .unset, rv a21, .unset, .unset, .unset] [(.int xd), (.int (0 : Int32)), (.ref a21)] _
        refine XS.sipush X21.here hx rfl (hb hby at_100) ?_
        show own_S p e below T21 m 103 #[iv xn, iv xt, iv xf, iv xd, rv a2, iv nd, iv ed, iv er, .unset, rv a21, .unset, .unset, .unset] [(.int (255 : Int32)), (.int xd), (.int (0 : Int32)), (.ref a21)] _
        refine XS.iand X21.here hx rfl (hb hby at_103) rfl ?_
        show own_S p e below T21 m 104 #[iv xn, iv xt, iv xf, iv xd, rv a2, iv nd, iv ed, iv er, .unset, rv a21, .unset, .unset, .unset] [(.int (xd &&& (255 : Int32))), (.int (0 : Int32)), (.ref a21)] _
        refine XS.i2c X21.here hx rfl (hb hby at_104) rfl ?_
        show own_S p e below T21 m 105 #[iv xn, iv xt, iv xf, iv xd, rv a2, iv nd, iv ed, iv er, .unset, rv a21, .unset, .unset, .unset] [(.int (xd &&& (255 : Int32)).toUInt32.toUInt16.toUInt32.toInt32), (.int (0 : Int32)), (.ref a21)] _
        exact kt
      refine own_st sg22 ?_
      obtain ⟨T23, h23, X23, e23, W23, A23, st23⟩ := own_wrC X21 hx hZ e21 B21 (k := 0) (by decide) (by decide) (g := (mkF m 105 #[iv xn, iv xt, iv xf, iv xd, rv a2, iv nd, iv ed, iv er, .unset, rv a21, .unset, .unset, .unset] [(.int (xd &&& (255 : Int32)).toUInt32.toUInt16.toUInt32.toInt32), (.int (0 : Int32)), (.ref a21)])) rfl rfl (hb hby at_105)
      refine own_st st23 ?_
      have Z23 : n0 ≤ h23.size := by rw [Wr.size W23]; exact Z21
      have kk23 : 0 ≤ h23.size := by rw [Wr.size W23]; exact kk21
      have N23 := Fr.snoc X23 N7 g_a21
      show own_Go p e below _ T23 (mkF m 106 #[iv xn, iv xt, iv xf, iv xd, rv a2, iv nd, iv ed, iv er, .unset, rv a21, .unset, .unset, .unset] [])
      have K23 : Keep h0 h23 [] := K21.wr W23 (Or.inr szc)
      have sg24 : own_V p e below T23 (mkF m 118 #[iv xn, iv xt, iv xf, iv xd, rv a2, iv nd, iv ed, iv er, .unset, rv a21, .unset, .unset, .unset] [(.int (((xd.toUInt32 >>> ((8 : Int32) &&& 31).toUInt32).toInt32) &&& (255 : Int32)).toUInt32.toUInt16.toUInt32.toInt32), (.int (1 : Int32)), (.ref a21)]) (mkF m 106 #[iv xn, iv xt, iv xf, iv xd, rv a2, iv nd, iv ed, iv er, .unset, rv a21, .unset, .unset, .unset] []) := by
        intro t kt
        refine XS.aload X23.here hx rfl (hb hby at_106) rfl rfl ?_
        show own_S p e below T23 m 108 #[iv xn, iv xt, iv xf, iv xd, rv a2, iv nd, iv ed, iv er, .unset, rv a21, .unset, .unset, .unset] [(.ref a21)] _
        refine XS.iconst X23.here hx rfl (hb hby at_108) ?_
        show own_S p e below T23 m 109 #[iv xn, iv xt, iv xf, iv xd, rv a2, iv nd, iv ed, iv er, .unset, rv a21, .unset, .unset, .unset] [(.int (1 : Int32)), (.ref a21)] _
        refine XS.iloadN X23.here hx rfl (hb hby at_109) rfl ?_
        show own_S p e below T23 m 110 #[iv xn, iv xt, iv xf, iv xd, rv a2, iv nd, iv ed, iv er, .unset, rv a21, .unset, .unset, .unset] [(.int xd), (.int (1 : Int32)), (.ref a21)] _
        refine XS.bipush X23.here hx rfl (hb hby at_110) ?_
        show own_S p e below T23 m 112 #[iv xn, iv xt, iv xf, iv xd, rv a2, iv nd, iv ed, iv er, .unset, rv a21, .unset, .unset, .unset] [(.int (8 : Int32)), (.int xd), (.int (1 : Int32)), (.ref a21)] _
        refine XS.iushr X23.here hx rfl (hb hby at_112) rfl ?_
        show own_S p e below T23 m 113 #[iv xn, iv xt, iv xf, iv xd, rv a2, iv nd, iv ed, iv er, .unset, rv a21, .unset, .unset, .unset] [(.int ((xd.toUInt32 >>> ((8 : Int32) &&& 31).toUInt32).toInt32)), (.int (1 : Int32)), (.ref a21)] _
        refine XS.sipush X23.here hx rfl (hb hby at_113) ?_
        show own_S p e below T23 m 116 #[iv xn, iv xt, iv xf, iv xd, rv a2, iv nd, iv ed, iv er, .unset, rv a21, .unset, .unset, .unset] [(.int (255 : Int32)), (.int ((xd.toUInt32 >>> ((8 : Int32) &&& 31).toUInt32).toInt32)), (.int (1 : Int32)), (.ref a21)] _
        refine XS.iand X23.here hx rfl (hb hby at_116) rfl ?_
        show own_S p e below T23 m 117 #[iv xn, iv xt, iv xf, iv xd, rv a2, iv nd, iv ed, iv er, .unset, rv a21, .unset, .unset, .unset] [(.int (((xd.toUInt32 >>> ((8 : Int32) &&& 31).toUInt32).toInt32) &&& (255 : Int32))), (.int (1 : Int32)), (.ref a21)] _
        refine XS.i2c X23.here hx rfl (hb hby at_117) rfl ?_
        show own_S p e below T23 m 118 #[iv xn, iv xt, iv xf, iv xd, rv a2, iv nd, iv ed, iv er, .unset, rv a21, .unset, .unset, .unset] [(.int (((xd.toUInt32 >>> ((8 : Int32) &&& 31).toUInt32).toInt32) &&& (255 : Int32)).toUInt32.toUInt16.toUInt32.toInt32), (.int (1 : Int32)), (.ref a21)] _
        exact kt
      refine own_st sg24 ?_
      obtain ⟨T25, h25, X25, e25, W25, A25, st25⟩ := own_wrC X23 hx hZ e23 A23 (k := 1) (by decide) (by decide) (g := (mkF m 118 #[iv xn, iv xt, iv xf, iv xd, rv a2, iv nd, iv ed, iv er, .unset, rv a21, .unset, .unset, .unset] [(.int (((xd.toUInt32 >>> ((8 : Int32) &&& 31).toUInt32).toInt32) &&& (255 : Int32)).toUInt32.toUInt16.toUInt32.toInt32), (.int (1 : Int32)), (.ref a21)])) rfl rfl (hb hby at_118)
      refine own_st st25 ?_
      have Z25 : n0 ≤ h25.size := by rw [Wr.size W25]; exact Z23
      have kk25 : 0 ≤ h25.size := by rw [Wr.size W25]; exact kk23
      have N25 := Fr.snoc X25 N23 g_a21
      show own_Go p e below _ T25 (mkF m 119 #[iv xn, iv xt, iv xf, iv xd, rv a2, iv nd, iv ed, iv er, .unset, rv a21, .unset, .unset, .unset] [])
      have K25 : Keep h0 h25 [] := K23.wr W25 (Or.inr szc)
      obtain ⟨T26, h26, X26, e26, E26, A26, D26, -, st26⟩ := newO X25 hx hZ hown (hw _ (List.mem_of_getElem? (i := 2) rfl)) (hw _ (List.mem_of_getElem? (i := 3) rfl)) (hw _ (List.mem_of_getElem? (i := 4) rfl)) e25 (g := (mkF m 119 #[iv xn, iv xt, iv xf, iv xd, rv a2, iv nd, iv ed, iv er, .unset, rv a21, .unset, .unset, .unset] [])) rfl (hb hby at_119) (by decide) (by decide)
      obtain ⟨a26, g26⟩ : ∃ z, z = h25.size := ⟨_, rfl⟩
      rw [← g26] at A26 D26 st26
      refine own_st st26 ?_
      have g_a26 : n0 ≤ a26 := by rw [g26]; exact Z25
      have Z26 : n0 ≤ h26.size := Nat.le_trans Z25 E26.1
      have kk26 : 0 ≤ h26.size := Nat.le_trans kk25 E26.1
      show own_Go p e below _ T26 (mkF m 122 #[iv xn, iv xt, iv xf, iv xd, rv a2, iv nd, iv ed, iv er, .unset, rv a21, .unset, .unset, .unset] [(.ref a26)])
      have K26 : Keep h0 h26 [] := K25.ext E26
      have BX := A25.ext E26
      have Gvalue : Fld Z h26 a26 "java/lang/String" "value" "[B" .null := D26 (Or.inr (hw _ (List.mem_of_getElem? (i := 29) rfl))) (ty := (.array .byte)) (by decide)
      have Gcoder : Fld Z h26 a26 "java/lang/String" "coder" "B" (.int (0 : Int32)) := D26 (Or.inr (hw _ (List.mem_of_getElem? (i := 27) rfl))) (ty := .byte) (by decide)
      have sg27 : own_V p e below T26 (mkF m 125 #[iv xn, iv xt, iv xf, iv xd, rv a2, iv nd, iv ed, iv er, .unset, rv a21, .unset, .unset, .unset] [(.ref a21), (.ref a26), (.ref a26)]) (mkF m 122 #[iv xn, iv xt, iv xf, iv xd, rv a2, iv nd, iv ed, iv er, .unset, rv a21, .unset, .unset, .unset] [(.ref a26)]) := by
        intro t kt
        refine XS.dup X26.here hx rfl (hb hby at_122) rfl rfl ?_
        show own_S p e below T26 m 123 #[iv xn, iv xt, iv xf, iv xd, rv a2, iv nd, iv ed, iv er, .unset, rv a21, .unset, .unset, .unset] [(.ref a26), (.ref a26)] _
        refine XS.aload X26.here hx rfl (hb hby at_123) rfl rfl ?_
        show own_S p e below T26 m 125 #[iv xn, iv xt, iv xf, iv xd, rv a2, iv nd, iv ed, iv er, .unset, rv a21, .unset, .unset, .unset] [(.ref a21), (.ref a26), (.ref a26)] _
        exact kt
      refine own_st sg27 ?_
      have SX := own_Sta.keep SC K26
      obtain ⟨_, T28, L28, X28, hQ28, st28⟩ := own_callI (y := (⟨"java/lang/String", "<init>", "([C)V"⟩ : MethodName)) (a := a26) X26 hx hZ hown rfl (hw _ (List.mem_of_getElem? (i := 5) rfl)) (hw _ (List.mem_of_getElem? (i := 6) rfl)) (hw _ (List.mem_of_getElem? (i := 4) rfl)) (hw _ (List.mem_of_getElem? (i := 7) rfl)) (by decide) (own_rmsi_2 l Z a0 hw a26 a21 cc _ h26 n0 Z26 A26 Gvalue Gcoder BX (own_c2 _ _ _ (own_lo _) (own_lo _)) SX hcc g_a26) e26 (g := (mkF m 125 #[iv xn, iv xt, iv xf, iv xd, rv a2, iv nd, iv ed, iv er, .unset, rv a21, .unset, .unset, .unset] [(.ref a21), (.ref a26), (.ref a26)])) rfl (by rw [hml]; rfl) (argsL := [(.ref a21)]) (rest := [(.ref a26)]) (lenOf own_pd4 rfl) rfl (W := 1) (by show 2 * 0 + _ ≤ _; exact Nat.le_of_eq rfl) (hb hby at_125) (by decide) (by decide) (by decide) (by decide)
      obtain ⟨rfl, Nq28, R28⟩ := hQ28
      refine own_st st28 ?_
      have Z28 : n0 ≤ T28.heap.size := Nat.le_trans Z26 R28.1.1
      have kk28 : 0 ≤ T28.heap.size := Nat.le_trans kk26 R28.1.1
      have N28 := Fr.app N25 Nq28
      show own_Go p e below _ T28 (mkF m 128 #[iv xn, iv xt, iv xf, iv xd, rv a2, iv nd, iv ed, iv er, .unset, rv a21, .unset, .unset, .unset] [(.ref a26)])
      have sg29 : own_V p e below T28 (mkF m 130 #[iv xn, iv xt, iv xf, iv xd, rv a2, iv nd, iv ed, iv er, rv a26, rv a21, .unset, .unset, .unset] []) (mkF m 128 #[iv xn, iv xt, iv xf, iv xd, rv a2, iv nd, iv ed, iv er, .unset, rv a21, .unset, .unset, .unset] [(.ref a26)]) := by
        intro t kt
        refine XS.astore X28.here hx rfl (hb hby at_128) rfl rfl (l' := #[iv xn, iv xt, iv xf, iv xd, rv a2, iv nd, iv ed, iv er, rv a26, rv a21, .unset, .unset, .unset]) rfl ?_
        show own_S p e below T28 m 130 #[iv xn, iv xt, iv xf, iv xd, rv a2, iv nd, iv ed, iv er, rv a26, rv a21, .unset, .unset, .unset] [] _
        exact kt
      refine own_st sg29 ?_
      obtain ⟨oo, hoo⟩ : ∃ z : Int32, z = (if nd = (0 : Int32) then (if (xf &&& (2 : Int32)) = (0 : Int32) then (0 : Int32) else (1 : Int32)) else (0 : Int32)) := ⟨_, rfl⟩
      have sg32 : own_V p e below T28 (mkF m 146 #[iv xn, iv xt, iv xf, iv xd, rv a2, iv nd, iv ed, iv er, rv a26, rv a21, .unset, .unset, .unset] [(.int oo)]) (mkF m 130 #[iv xn, iv xt, iv xf, iv xd, rv a2, iv nd, iv ed, iv er, rv a26, rv a21, .unset, .unset, .unset] []) := by
        intro t kt
        refine XS.iload X28.here hx rfl (hb hby at_130) rfl ?_
        show own_S p e below T28 m 132 #[iv xn, iv xt, iv xf, iv xd, rv a2, iv nd, iv ed, iv er, rv a26, rv a21, .unset, .unset, .unset] [(.int nd)] _
        by_cases hc30 : nd = (0 : Int32)
        · refine XS.ifNo X28.here hx rfl (hb hby at_132) rfl ((if0 _ _).trans (teq hc30).2) ?_
          show own_S p e below T28 m 135 #[iv xn, iv xt, iv xf, iv xd, rv a2, iv nd, iv ed, iv er, rv a26, rv a21, .unset, .unset, .unset] [] _
          refine XS.iloadN X28.here hx rfl (hb hby at_135) rfl ?_
          show own_S p e below T28 m 136 #[iv xn, iv xt, iv xf, iv xd, rv a2, iv nd, iv ed, iv er, rv a26, rv a21, .unset, .unset, .unset] [(.int xf)] _
          refine XS.iconst X28.here hx rfl (hb hby at_136) ?_
          show own_S p e below T28 m 137 #[iv xn, iv xt, iv xf, iv xd, rv a2, iv nd, iv ed, iv er, rv a26, rv a21, .unset, .unset, .unset] [(.int (2 : Int32)), (.int xf)] _
          refine XS.iand X28.here hx rfl (hb hby at_137) rfl ?_
          show own_S p e below T28 m 138 #[iv xn, iv xt, iv xf, iv xd, rv a2, iv nd, iv ed, iv er, rv a26, rv a21, .unset, .unset, .unset] [(.int (xf &&& (2 : Int32)))] _
          by_cases hc31 : (xf &&& (2 : Int32)) = (0 : Int32)
          · refine XS.ifYes X28.here hx rfl (pc0 := 138) (pc' := 145) rfl (hb hby at_138) rfl ((if0 _ _).trans (teq hc31).1) (by decide) (by decide) ?_
            show own_S p e below T28 m 145 #[iv xn, iv xt, iv xf, iv xd, rv a2, iv nd, iv ed, iv er, rv a26, rv a21, .unset, .unset, .unset] [] _
            refine XS.iconst X28.here hx rfl (hb hby at_145) ?_
            show own_S p e below T28 m 146 #[iv xn, iv xt, iv xf, iv xd, rv a2, iv nd, iv ed, iv er, rv a26, rv a21, .unset, .unset, .unset] [(.int (0 : Int32))] _
            rw [show oo = (0 : Int32) from by rw [hoo, if_pos hc30, if_pos hc31]] at kt
            exact kt
          · refine XS.ifNo X28.here hx rfl (hb hby at_138) rfl ((if0 _ _).trans (feq hc31).1) ?_
            show own_S p e below T28 m 141 #[iv xn, iv xt, iv xf, iv xd, rv a2, iv nd, iv ed, iv er, rv a26, rv a21, .unset, .unset, .unset] [] _
            refine XS.iconst X28.here hx rfl (hb hby at_141) ?_
            show own_S p e below T28 m 142 #[iv xn, iv xt, iv xf, iv xd, rv a2, iv nd, iv ed, iv er, rv a26, rv a21, .unset, .unset, .unset] [(.int (1 : Int32))] _
            refine XS.goto X28.here hx rfl (pc0 := 142) (pc' := 146) rfl (hb hby at_142) (by decide) (by decide) ?_
            show own_S p e below T28 m 146 #[iv xn, iv xt, iv xf, iv xd, rv a2, iv nd, iv ed, iv er, rv a26, rv a21, .unset, .unset, .unset] [(.int (1 : Int32))] _
            rw [show oo = (1 : Int32) from by rw [hoo, if_pos hc30, if_neg hc31]] at kt
            exact kt
        · refine XS.ifYes X28.here hx rfl (pc0 := 132) (pc' := 145) rfl (hb hby at_132) rfl ((if0 _ _).trans (feq hc30).2) (by decide) (by decide) ?_
          show own_S p e below T28 m 145 #[iv xn, iv xt, iv xf, iv xd, rv a2, iv nd, iv ed, iv er, rv a26, rv a21, .unset, .unset, .unset] [] _
          refine XS.iconst X28.here hx rfl (hb hby at_145) ?_
          show own_S p e below T28 m 146 #[iv xn, iv xt, iv xf, iv xd, rv a2, iv nd, iv ed, iv er, rv a26, rv a21, .unset, .unset, .unset] [(.int (0 : Int32))] _
          rw [show oo = (0 : Int32) from by rw [hoo, if_neg hc30]] at kt
          exact kt
      refine own_st sg32 ?_
      have sg33 : own_V p e below T28 (mkF m 148 #[iv xn, iv xt, iv xf, iv xd, rv a2, iv nd, iv ed, iv er, rv a26, iv oo, .unset, .unset, .unset] []) (mkF m 146 #[iv xn, iv xt, iv xf, iv xd, rv a2, iv nd, iv ed, iv er, rv a26, rv a21, .unset, .unset, .unset] [(.int oo)]) := by
        intro t kt
        refine XS.istore X28.here hx rfl (hb hby at_146) rfl (l' := #[iv xn, iv xt, iv xf, iv xd, rv a2, iv nd, iv ed, iv er, rv a26, iv oo, .unset, .unset, .unset]) rfl ?_
        show own_S p e below T28 m 148 #[iv xn, iv xt, iv xf, iv xd, rv a2, iv nd, iv ed, iv er, rv a26, iv oo, .unset, .unset, .unset] [] _
        exact kt
      refine own_st sg33 ?_
      obtain ⟨T34, h34, X34, e34, E34, A34, D34, -, st34⟩ := newO X28 hx hZ hown (hw _ (List.mem_of_getElem? (i := 30) rfl)) (hw _ (List.mem_of_getElem? (i := 31) rfl)) (hw _ (List.mem_of_getElem? (i := 32) rfl)) rfl (g := (mkF m 148 #[iv xn, iv xt, iv xf, iv xd, rv a2, iv nd, iv ed, iv er, rv a26, iv oo, .unset, .unset, .unset] [])) rfl (hb hby at_148) (by decide) (by decide)
      obtain ⟨a34, g34⟩ : ∃ z, z = T28.heap.size := ⟨_, rfl⟩
      rw [← g34] at A34 D34 st34
      refine own_st st34 ?_
      have g_a34 : n0 ≤ a34 := by rw [g34]; exact Z28
      have Z34 : n0 ≤ h34.size := Nat.le_trans Z28 E34.1
      have kk34 : 0 ≤ h34.size := Nat.le_trans kk28 E34.1
      show own_Go p e below _ T34 (mkF m 151 #[iv xn, iv xt, iv xf, iv xd, rv a2, iv nd, iv ed, iv er, rv a26, iv oo, .unset, .unset, .unset] [(.ref a34)])
      have Fnumber : Fld Z h34 a34 "com/example/cytowire/cytowire/astm/Frame" "number" "I" (.int (0 : Int32)) := D34 (Or.inr (hw _ (List.mem_of_getElem? (i := 38) rfl))) (ty := .int) (by decide)
      have Ftext : Fld Z h34 a34 "com/example/cytowire/cytowire/astm/Frame" "text" "[B" .null := D34 (Or.inr (hw _ (List.mem_of_getElem? (i := 40) rfl))) (ty := (.array .byte)) (by decide)
      have FendsRecord : Fld Z h34 a34 "com/example/cytowire/cytowire/astm/Frame" "endsRecord" "Z" (.int (0 : Int32)) := D34 (Or.inr (hw _ (List.mem_of_getElem? (i := 42) rfl))) (ty := .boolean) (by decide)
      have Fdefect : Fld Z h34 a34 "com/example/cytowire/cytowire/astm/Frame" "defect" "Ljava/lang/String;" .null := D34 (Or.inr (hw _ (List.mem_of_getElem? (i := 44) rfl))) (ty := (.object "java/lang/String")) (by decide)
      have FoutOfRoom : Fld Z h34 a34 "com/example/cytowire/cytowire/astm/Frame" "outOfRoom" "Z" (.int (0 : Int32)) := D34 (Or.inr (hw _ (List.mem_of_getElem? (i := 46) rfl))) (ty := .boolean) (by decide)
      have sg35 : own_V p e below T34 (mkF m 161 #[iv xn, iv xt, iv xf, iv xd, rv a2, iv nd, iv ed, iv er, rv a26, iv oo, .unset, .unset, .unset] [(.int oo), (.ref a26), (.int er), (.ref a2), (.int xn), (.ref a34), (.ref a34)]) (mkF m 151 #[iv xn, iv xt, iv xf, iv xd, rv a2, iv nd, iv ed, iv er, rv a26, iv oo, .unset, .unset, .unset] [(.ref a34)]) := by
        intro t kt
        refine XS.dup X34.here hx rfl (hb hby at_151) rfl rfl ?_
        show own_S p e below T34 m 152 #[iv xn, iv xt, iv xf, iv xd, rv a2, iv nd, iv ed, iv er, rv a26, iv oo, .unset, .unset, .unset] [(.ref a34), (.ref a34)] _
        refine XS.iloadN X34.here hx rfl (hb hby at_152) rfl ?_
        show own_S p e below T34 m 153 #[iv xn, iv xt, iv xf, iv xd, rv a2, iv nd, iv ed, iv er, rv a26, iv oo, .unset, .unset, .unset] [(.int xn), (.ref a34), (.ref a34)] _
        refine XS.aload X34.here hx rfl (hb hby at_153) rfl rfl ?_
        show own_S p e below T34 m 155 #[iv xn, iv xt, iv xf, iv xd, rv a2, iv nd, iv ed, iv er, rv a26, iv oo, .unset, .unset, .unset] [(.ref a2), (.int xn), (.ref a34), (.ref a34)] _
        refine XS.iload X34.here hx rfl (hb hby at_155) rfl ?_
        show own_S p e below T34 m 157 #[iv xn, iv xt, iv xf, iv xd, rv a2, iv nd, iv ed, iv er, rv a26, iv oo, .unset, .unset, .unset] [(.int er), (.ref a2), (.int xn), (.ref a34), (.ref a34)] _
        refine XS.aload X34.here hx rfl (hb hby at_157) rfl rfl ?_
        show own_S p e below T34 m 159 #[iv xn, iv xt, iv xf, iv xd, rv a2, iv nd, iv ed, iv er, rv a26, iv oo, .unset, .unset, .unset] [(.ref a26), (.int er), (.ref a2), (.int xn), (.ref a34), (.ref a34)] _
        refine XS.iload X34.here hx rfl (hb hby at_159) rfl ?_
        show own_S p e below T34 m 161 #[iv xn, iv xt, iv xf, iv xd, rv a2, iv nd, iv ed, iv er, rv a26, iv oo, .unset, .unset, .unset] [(.int oo), (.ref a26), (.int er), (.ref a2), (.int xn), (.ref a34), (.ref a34)] _
        exact kt
      refine own_st sg35 ?_
      obtain ⟨_, T36, L36, X36, hQ36, st36⟩ := own_callI (y := (⟨"com/example/cytowire/cytowire/astm/Frame", "<init>", "(I[BZLjava/lang/String;Z)V"⟩ : MethodName)) (a := a34) X34 hx hZ hown rfl (hw _ (List.mem_of_getElem? (i := 33) rfl)) (hw _ (List.mem_of_getElem? (i := 34) rfl)) (hw _ (List.mem_of_getElem? (i := 32) rfl)) (hw _ (List.mem_of_getElem? (i := 35) rfl)) (by decide) (own_rmfiR l Z a0 hw a34 xn a2 er a26 oo h34 n0 Z34 A34 Fnumber Ftext FendsRecord Fdefect FoutOfRoom g_a34) e34 (g := (mkF m 161 #[iv xn, iv xt, iv xf, iv xd, rv a2, iv nd, iv ed, iv er, rv a26, iv oo, .unset, .unset, .unset] [(.int oo), (.ref a26), (.int er), (.ref a2), (.int xn), (.ref a34), (.ref a34)])) rfl (by rw [hml]; rfl) (argsL := [(.int xn), (.ref a2), (.int er), (.ref a26), (.int oo)]) (rest := [(.ref a34)]) (lenOf own_pd5 rfl) rfl (W := 1) (by show 2 * 0 + _ ≤ _; exact Nat.le_of_eq rfl) (hb hby at_161) (by decide) (by decide) (by decide) (by decide)
      obtain ⟨rfl, Nq36, K36, E36, F36⟩ := hQ36
      refine own_st st36 ?_
      have Z36 : n0 ≤ T36.heap.size := Nat.le_trans Z34 K36.1
      have kk36 : 0 ≤ T36.heap.size := Nat.le_trans kk34 K36.1
      have N36 := Fr.app N28 Nq36
      show own_Go p e below _ T36 (mkF m 164 #[iv xn, iv xt, iv xf, iv xd, rv a2, iv nd, iv ed, iv er, rv a26, iv oo, .unset, .unset, .unset] [(.ref a34)])
      have sg37 : own_V p e below T36 (mkF m 168 #[iv xn, iv xt, iv xf, iv xd, rv a2, iv nd, iv ed, iv er, rv a26, iv oo, rv a34, .unset, .unset] [(.ref a34)]) (mkF m 164 #[iv xn, iv xt, iv xf, iv xd, rv a2, iv nd, iv ed, iv er, rv a26, iv oo, .unset, .unset, .unset] [(.ref a34)]) := by
        intro t kt
        refine XS.astore X36.here hx rfl (hb hby at_164) rfl rfl (l' := #[iv xn, iv xt, iv xf, iv xd, rv a2, iv nd, iv ed, iv er, rv a26, iv oo, rv a34, .unset, .unset]) rfl ?_
        show own_S p e below T36 m 166 #[iv xn, iv xt, iv xf, iv xd, rv a2, iv nd, iv ed, iv er, rv a26, iv oo, rv a34, .unset, .unset] [] _
        refine XS.aload X36.here hx rfl (hb hby at_166) rfl rfl ?_
        show own_S p e below T36 m 168 #[iv xn, iv xt, iv xf, iv xd, rv a2, iv nd, iv ed, iv er, rv a26, iv oo, rv a34, .unset, .unset] [(.ref a34)] _
        exact kt
      refine own_st sg37 ?_
      obtain ⟨_, T38, L38, X38, hQ38, st38⟩ := own_callV (y := (⟨"com/example/cytowire/cytowire/astm/Frame", "isSound", "()Z"⟩ : MethodName)) (y0 := (⟨"com/example/cytowire/cytowire/astm/Frame", "isSound", "()Z"⟩ : MethodName)) (a := a34) (C := "com/example/cytowire/cytowire/astm/Frame") X36 hx hZ hown E36 (hw _ (List.mem_of_getElem? (i := 47) rfl)) (hw _ (List.mem_of_getElem? (i := 48) rfl)) (hw _ (List.mem_of_getElem? (i := 50) rfl)) (notFace_of_selects (args := #[]) (mvT hZ (hw _ (List.mem_of_getElem? (i := 50) rfl)))) (hw _ (List.mem_of_getElem? (i := 49) rfl)) (hw _ (List.mem_of_getElem? (i := 32) rfl)) (hw _ (List.mem_of_getElem? (i := 51) rfl)) (by decide) (own_rmisR l Z a0 hw a34 a26 T36.heap n0 Z36 F36) rfl (g := (mkF m 168 #[iv xn, iv xt, iv xf, iv xd, rv a2, iv nd, iv ed, iv er, rv a26, iv oo, rv a34, .unset, .unset] [(.ref a34)])) rfl (by rw [hml]; rfl) (argsL := []) (rest := []) (lenOf own_pd6 rfl) rfl (W := 0) (by show 2 * 0 + _ ≤ _; exact Nat.le_of_eq rfl) (hb hby at_168) (by decide) (by decide) (by decide) (by decide)
      obtain ⟨rfl, Nq38, e38⟩ := hQ38
      refine own_st st38 ?_
      have N38 := Fr.app N36 Nq38
      show own_Go p e below _ T38 (mkF m 171 #[iv xn, iv xt, iv xf, iv xd, rv a2, iv nd, iv ed, iv er, rv a26, iv oo, rv a34, .unset, .unset] [(.int (0 : Int32))])
      have sg39 : own_V p e below T38 (mkF m 175 #[iv xn, iv xt, iv xf, iv xd, rv a2, iv nd, iv ed, iv er, rv a26, iv oo, rv a34, iv (0 : Int32), .unset] [(.ref a34)]) (mkF m 171 #[iv xn, iv xt, iv xf, iv xd, rv a2, iv nd, iv ed, iv er, rv a26, iv oo, rv a34, .unset, .unset] [(.int (0 : Int32))]) := by
        intro t kt
        refine XS.istore X38.here hx rfl (hb hby at_171) rfl (l' := #[iv xn, iv xt, iv xf, iv xd, rv a2, iv nd, iv ed, iv er, rv a26, iv oo, rv a34, iv (0 : Int32), .unset]) rfl ?_
        show own_S p e below T38 m 173 #[iv xn, iv xt, iv xf, iv xd, rv a2, iv nd, iv ed, iv er, rv a26, iv oo, rv a34, iv (0 : Int32), .unset] [] _
        refine XS.aload X38.here hx rfl (hb hby at_173) rfl rfl ?_
        show own_S p e below T38 m 175 #[iv xn, iv xt, iv xf, iv xd, rv a2, iv nd, iv ed, iv er, rv a26, iv oo, rv a34, iv (0 : Int32), .unset] [(.ref a34)] _
        exact kt
      refine own_st sg39 ?_
      obtain ⟨_, T40, L40, X40, hQ40, st40⟩ := own_callV (y := (⟨"com/example/cytowire/cytowire/astm/Frame", "defect", "()Ljava/lang/String;"⟩ : MethodName)) (y0 := (⟨"com/example/cytowire/cytowire/astm/Frame", "defect", "()Ljava/lang/String;"⟩ : MethodName)) (a := a34) (C := "com/example/cytowire/cytowire/astm/Frame") X38 hx hZ hown E36 (hw _ (List.mem_of_getElem? (i := 52) rfl)) (hw _ (List.mem_of_getElem? (i := 53) rfl)) (hw _ (List.mem_of_getElem? (i := 55) rfl)) (notFace_of_selects (args := #[]) (mvT hZ (hw _ (List.mem_of_getElem? (i := 55) rfl)))) (hw _ (List.mem_of_getElem? (i := 54) rfl)) (hw _ (List.mem_of_getElem? (i := 32) rfl)) (hw _ (List.mem_of_getElem? (i := 56) rfl)) (by decide) (own_rmdfR l Z a0 hw a34 a26 T36.heap n0 Z36 F36) e38 (g := (mkF m 175 #[iv xn, iv xt, iv xf, iv xd, rv a2, iv nd, iv ed, iv er, rv a26, iv oo, rv a34, iv (0 : Int32), .unset] [(.ref a34)])) rfl (by rw [hml]; rfl) (argsL := []) (rest := []) (lenOf own_pd7 rfl) rfl (W := 0) (by show 2 * 0 + _ ≤ _; exact Nat.le_of_eq rfl) (hb hby at_175) (by decide) (by decide) (by decide) (by decide)
      obtain ⟨rfl, Nq40, e40⟩ := hQ40
      refine own_st st40 ?_
      have N40 := Fr.app N38 Nq40
      show own_Go p e below _ T40 (mkF m 178 #[iv xn, iv xt, iv xf, iv xd, rv a2, iv nd, iv ed, iv er, rv a26, iv oo, rv a34, iv (0 : Int32), .unset] [(.ref a26)])
      have sg41 : own_V p e below T40 (mkF m 215 #[iv xn, iv xt, iv xf, iv xd, rv a2, iv nd, iv ed, iv er, rv a26, iv oo, rv a34, iv (0 : Int32), rv a26] [(.int (1 : Int32))]) (mkF m 178 #[iv xn, iv xt, iv xf, iv xd, rv a2, iv nd, iv ed, iv er, rv a26, iv oo, rv a34, iv (0 : Int32), .unset] [(.ref a26)]) := by
        intro t kt
        refine XS.astore X40.here hx rfl (hb hby at_178) rfl rfl (l' := #[iv xn, iv xt, iv xf, iv xd, rv a2, iv nd, iv ed, iv er, rv a26, iv oo, rv a34, iv (0 : Int32), rv a26]) rfl ?_
        show own_S p e below T40 m 180 #[iv xn, iv xt, iv xf, iv xd, rv a2, iv nd, iv ed, iv er, rv a26, iv oo, rv a34, iv (0 : Int32), rv a26] [] _
        refine XS.iload X40.here hx rfl (hb hby at_180) rfl ?_
        show own_S p e below T40 m 182 #[iv xn, iv xt, iv xf, iv xd, rv a2, iv nd, iv ed, iv er, rv a26, iv oo, rv a34, iv (0 : Int32), rv a26] [(.int (0 : Int32))] _
        refine XS.aload X40.here hx rfl (hb hby at_182) rfl rfl ?_
        show own_S p e below T40 m 184 #[iv xn, iv xt, iv xf, iv xd, rv a2, iv nd, iv ed, iv er, rv a26, iv oo, rv a34, iv (0 : Int32), rv a26] [(.ref a26), (.int (0 : Int32))] _
        refine XS.ifnonnullYes X40.here hx rfl (pc0 := 184) (pc' := 191) rfl (hb hby at_184) rfl (by decide) (by decide) ?_
        show own_S p e below T40 m 191 #[iv xn, iv xt, iv xf, iv xd, rv a2, iv nd, iv ed, iv er, rv a26, iv oo, rv a34, iv (0 : Int32), rv a26] [(.int (0 : Int32))] _
        refine XS.iconst X40.here hx rfl (hb hby at_191) ?_
        show own_S p e below T40 m 192 #[iv xn, iv xt, iv xf, iv xd, rv a2, iv nd, iv ed, iv er, rv a26, iv oo, rv a34, iv (0 : Int32), rv a26] [(.int (0 : Int32)), (.int (0 : Int32))] _
        refine XS.icmpNo X40.here hx rfl (hb hby at_192) rfl (teq (by decide : (0 : Int32) = (0 : Int32))).2 ?_
        show own_S p e below T40 m 195 #[iv xn, iv xt, iv xf, iv xd, rv a2, iv nd, iv ed, iv er, rv a26, iv oo, rv a34, iv (0 : Int32), rv a26] [] _
        refine XS.iload X40.here hx rfl (hb hby at_195) rfl ?_
        show own_S p e below T40 m 197 #[iv xn, iv xt, iv xf, iv xd, rv a2, iv nd, iv ed, iv er, rv a26, iv oo, rv a34, iv (0 : Int32), rv a26] [(.int (0 : Int32))] _
        refine XS.aload X40.here hx rfl (hb hby at_197) rfl rfl ?_
        show own_S p e below T40 m 199 #[iv xn, iv xt, iv xf, iv xd, rv a2, iv nd, iv ed, iv er, rv a26, iv oo, rv a34, iv (0 : Int32), rv a26] [(.ref a26), (.int (0 : Int32))] _
        refine XS.ifnonnullYes X40.here hx rfl (pc0 := 199) (pc' := 206) rfl (hb hby at_199) rfl (by decide) (by decide) ?_
        show own_S p e below T40 m 206 #[iv xn, iv xt, iv xf, iv xd, rv a2, iv nd, iv ed, iv er, rv a26, iv oo, rv a34, iv (0 : Int32), rv a26] [(.int (0 : Int32))] _
        refine XS.iconst X40.here hx rfl (hb hby at_206) ?_
        show own_S p e below T40 m 207 #[iv xn, iv xt, iv xf, iv xd, rv a2, iv nd, iv ed, iv er, rv a26, iv oo, rv a34, iv (0 : Int32), rv a26] [(.int (0 : Int32)), (.int (0 : Int32))] _
        refine XS.icmpNo X40.here hx rfl (hb hby at_207) rfl (teq (by decide : (0 : Int32) = (0 : Int32))).2 ?_
        show own_S p e below T40 m 210 #[iv xn, iv xt, iv xf, iv xd, rv a2, iv nd, iv ed, iv er, rv a26, iv oo, rv a34, iv (0 : Int32), rv a26] [] _
        refine XS.iconst X40.here hx rfl (hb hby at_210) ?_
        show own_S p e below T40 m 211 #[iv xn, iv xt, iv xf, iv xd, rv a2, iv nd, iv ed, iv er, rv a26, iv oo, rv a34, iv (0 : Int32), rv a26] [(.int (1 : Int32))] _
        refine XS.goto X40.here hx rfl (pc0 := 211) (pc' := 215) rfl (hb hby at_211) (by decide) (by decide) ?_
        show own_S p e below T40 m 215 #[iv xn, iv xt, iv xf, iv xd, rv a2, iv nd, iv ed, iv er, rv a26, iv oo, rv a34, iv (0 : Int32), rv a26] [(.int (1 : Int32))] _
        exact kt
      refine own_st sg41 ?_
      exact own_retZJ (s := s) (vm1 := s.vm) X40 hx ((State.WarmedH.refl s).since 0) kk36 Bd.notSynchronized Bd.returns (hb hby at_215) (by decide) (by decide) (by decide) e40 ⟨rfl, N40⟩
    have sg42 : own_V p e below T7 (mkF m 76 #[iv xn, iv xt, iv xf, iv xd, rv a2, iv nd, iv ed, iv er, .unset, .unset, .unset, .unset, .unset] []) (mkF m 73 #[iv xn, iv xt, iv xf, iv xd, rv a2, iv nd, iv ed, iv er, .unset, .unset, .unset, .unset, .unset] [(.int ed)]) := by
      intro t kt
      refine XS.ifNo X7.here hx rfl (hb hby at_73) rfl ((if0 _ _).trans (feq hc18).1) ?_
      exact kt
    refine own_st sg42 ?_
    obtain ⟨T43, h43, X43, e43, E43, A43, D43, -, st43⟩ := newO X7 hx hZ hown (hw _ (List.mem_of_getElem? (i := 2) rfl)) (hw _ (List.mem_of_getElem? (i := 3) rfl)) (hw _ (List.mem_of_getElem? (i := 4) rfl)) e7 (g := (mkF m 76 #[iv xn, iv xt, iv xf, iv xd, rv a2, iv nd, iv ed, iv er, .unset, .unset, .unset, .unset, .unset] [])) rfl (hb hby at_76) (by decide) (by decide)
    obtain ⟨a43, g43⟩ : ∃ z, z = h7.size := ⟨_, rfl⟩
    rw [← g43] at A43 D43 st43
    refine own_st st43 ?_
    have g_a43 : n0 ≤ a43 := by rw [g43]; exact Z7
    have Z43 : n0 ≤ h43.size := Nat.le_trans Z7 E43.1
    have kk43 : 0 ≤ h43.size := Nat.le_trans kk7 E43.1
    show own_Go p e below _ T43 (mkF m 79 #[iv xn, iv xt, iv xf, iv xd, rv a2, iv nd, iv ed, iv er, .unset, .unset, .unset, .unset, .unset] [(.ref a43)])
    have K43 : Keep h0 h43 [] := K7.ext E43
    have Gvalue : Fld Z h43 a43 "java/lang/String" "value" "[B" .null := D43 (Or.inr (hw _ (List.mem_of_getElem? (i := 29) rfl))) (ty := (.array .byte)) (by decide)
    have Gcoder : Fld Z h43 a43 "java/lang/String" "coder" "B" (.int (0 : Int32)) := D43 (Or.inr (hw _ (List.mem_of_getElem? (i := 27) rfl))) (ty := .byte) (by decide)
    have sg44 : own_V p e below T43 (mkF m 81 #[iv xn, iv xt, iv xf, iv xd, rv a2, iv nd, iv ed, iv er, .unset, .unset, .unset, .unset, .unset] [(.int (0 : Int32)), (.ref a43), (.ref a43)]) (mkF m 79 #[iv xn, iv xt, iv xf, iv xd, rv a2, iv nd, iv ed, iv er, .unset, .unset, .unset, .unset, .unset] [(.ref a43)]) := by
      intro t kt
      refine XS.dup X43.here hx rfl (hb hby at_79) rfl rfl ?_
      show own_S p e below T43 m 80 #[iv xn, iv xt, iv xf, iv xd, rv a2, iv nd, iv ed, iv er, .unset, .unset, .unset, .unset, .unset] [(.ref a43), (.ref a43)] _
      refine XS.iconst X43.here hx rfl (hb hby at_80) ?_
      show own_S p e below T43 m 81 #[iv xn, iv xt, iv xf, iv xd, rv a2, iv nd, iv ed, iv er, .unset, .unset, .unset, .unset, .unset] [(.int (0 : Int32)), (.ref a43), (.ref a43)] _
      exact kt
    refine own_st sg44 ?_
    obtain ⟨T45, h45, a45, g45, X45, e45, E45, A45, st45⟩ := own_newP (n := 0) X43 hx hZ (hw _ (List.mem_of_getElem? (i := 1) rfl)) e43 (by decide) rfl (g := (mkF m 81 #[iv xn, iv xt, iv xf, iv xd, rv a2, iv nd, iv ed, iv er, .unset, .unset, .unset, .unset, .unset] [(.int (0 : Int32)), (.ref a43), (.ref a43)])) rfl rfl (hb hby at_81) (cap := 0) (by decide) (by decide) (by decide) (by decide)
    refine own_st st45 ?_
    have g_a45 : n0 ≤ a45 := by rw [g45]; exact Z43
    have Z45 : n0 ≤ h45.size := Nat.le_trans Z43 E45.1
    have kk45 : 0 ≤ h45.size := Nat.le_trans kk43 E45.1
    have B45 : own_AI Z h45 a45 .char 0 (fun _ => 0) := A45
    show own_Go p e below _ T45 (mkF m 83 #[iv xn, iv xt, iv xf, iv xd, rv a2, iv nd, iv ed, iv er, .unset, .unset, .unset, .unset, .unset] [(.ref a45), (.ref a43), (.ref a43)])
    have K45 : Keep h0 h45 [] := K43.ext E45
    obtain ⟨_, T46, L46, X46, I46, hZ, hown, hQ46, st46⟩ := own_callIJ (y := (⟨"java/lang/String", "<init>", "([C)V"⟩ : MethodName)) (a := a43) (s := s) (vm0 := s.vm) X45 ((State.WarmedH.refl s).since 0) kk45 hx hZ hown rfl (hw _ (List.mem_of_getElem? (i := 5) rfl)) (hw _ (List.mem_of_getElem? (i := 6) rfl)) (hw _ (List.mem_of_getElem? (i := 4) rfl)) (hw _ (List.mem_of_getElem? (i := 7) rfl)) (by decide) (own_rmsi_e l Z a0 hw a43 a45 _ h45 n0 Z45 (A43.ext E45) (Gvalue.ext E45) (Gcoder.ext E45) g_a43 (fun b cl q => K45.2.1 b cl (by rw [← HZ]; exact q) nin0) hh hcw B45) e45 (g := (mkF m 83 #[iv xn, iv xt, iv xf, iv xd, rv a2, iv nd, iv ed, iv er, .unset, .unset, .unset, .unset, .unset] [(.ref a45), (.ref a43), (.ref a43)])) rfl (by rw [hml]; rfl) (argsL := [(.ref a45)]) (rest := [(.ref a43)]) (lenOf own_pd4 rfl) rfl (W := 1) (by show 2 * 0 + _ ≤ _; exact Nat.le_of_eq rfl) (hb hby at_83) (by decide) (by decide) (by decide) (by decide) (fun vm1 hv => hv.interned_eq.trans hJ)
    obtain ⟨rfl, Nq46, R46⟩ := hQ46
    refine own_st st46 ?_
    have Z46 : n0 ≤ T46.heap.size := Nat.le_trans Z45 R46.1.1
    have kk46 : 0 ≤ T46.heap.size := Nat.le_trans kk45 R46.1.1
    have N46 := Fr.app N7 Nq46
    show own_Go p e below _ T46 (mkF m 86 #[iv xn, iv xt, iv xf, iv xd, rv a2, iv nd, iv ed, iv er, .unset, .unset, .unset, .unset, .unset] [(.ref a43)])
    have sg47 : own_V p e below T46 (mkF m 130 #[iv xn, iv xt, iv xf, iv xd, rv a2, iv nd, iv ed, iv er, rv a43, .unset, .unset, .unset, .unset] []) (mkF m 86 #[iv xn, iv xt, iv xf, iv xd, rv a2, iv nd, iv ed, iv er, .unset, .unset, .unset, .unset, .unset] [(.ref a43)]) := by
      intro t kt
      refine XS.astore X46.here hx rfl (hb hby at_86) rfl rfl (l' := #[iv xn, iv xt, iv xf, iv xd, rv a2, iv nd, iv ed, iv er, rv a43, .unset, .unset, .unset, .unset]) rfl ?_
      show own_S p e below T46 m 88 #[iv xn, iv xt, iv xf, iv xd, rv a2, iv nd, iv ed, iv er, rv a43, .unset, .unset, .unset, .unset] [] _
      refine XS.goto X46.here hx rfl (pc0 := 88) (pc' := 130) rfl (hb hby at_88) (by decide) (by decide) ?_
      show own_S p e below T46 m 130 #[iv xn, iv xt, iv xf, iv xd, rv a2, iv nd, iv ed, iv er, rv a43, .unset, .unset, .unset, .unset] [] _
      exact kt
    refine own_st sg47 ?_
    obtain ⟨oo, hoo⟩ : ∃ z : Int32, z = (if nd = (0 : Int32) then (if (xf &&& (2 : Int32)) = (0 : Int32) then (0 : Int32) else (1 : Int32)) else (0 : Int32)) := ⟨_, rfl⟩
    have sg50 : own_V p e below T46 (mkF m 146 #[iv xn, iv xt, iv xf, iv xd, rv a2, iv nd, iv ed, iv er, rv a43, .unset, .unset, .unset, .unset] [(.int oo)]) (mkF m 130 #[iv xn, iv xt, iv xf, iv xd, rv a2, iv nd, iv ed, iv er, rv a43, .unset, .unset, .unset, .unset] []) := by
      intro t kt
      refine XS.iload X46.here hx rfl (hb hby at_130) rfl ?_
      show own_S p e below T46 m 132 #[iv xn, iv xt, iv xf, iv xd, rv a2, iv nd, iv ed, iv er, rv a43, .unset, .unset, .unset, .unset] [(.int nd)] _
      by_cases hc48 : nd = (0 : Int32)
      · refine XS.ifNo X46.here hx rfl (hb hby at_132) rfl ((if0 _ _).trans (teq hc48).2) ?_
        show own_S p e below T46 m 135 #[iv xn, iv xt, iv xf, iv xd, rv a2, iv nd, iv ed, iv er, rv a43, .unset, .unset, .unset, .unset] [] _
        refine XS.iloadN X46.here hx rfl (hb hby at_135) rfl ?_
        show own_S p e below T46 m 136 #[iv xn, iv xt, iv xf, iv xd, rv a2, iv nd, iv ed, iv er, rv a43, .unset, .unset, .unset, .unset] [(.int xf)] _
        refine XS.iconst X46.here hx rfl (hb hby at_136) ?_
        show own_S p e below T46 m 137 #[iv xn, iv xt, iv xf, iv xd, rv a2, iv nd, iv ed, iv er, rv a43, .unset, .unset, .unset, .unset] [(.int (2 : Int32)), (.int xf)] _
        refine XS.iand X46.here hx rfl (hb hby at_137) rfl ?_
        show own_S p e below T46 m 138 #[iv xn, iv xt, iv xf, iv xd, rv a2, iv nd, iv ed, iv er, rv a43, .unset, .unset, .unset, .unset] [(.int (xf &&& (2 : Int32)))] _
        by_cases hc49 : (xf &&& (2 : Int32)) = (0 : Int32)
        · refine XS.ifYes X46.here hx rfl (pc0 := 138) (pc' := 145) rfl (hb hby at_138) rfl ((if0 _ _).trans (teq hc49).1) (by decide) (by decide) ?_
          show own_S p e below T46 m 145 #[iv xn, iv xt, iv xf, iv xd, rv a2, iv nd, iv ed, iv er, rv a43, .unset, .unset, .unset, .unset] [] _
          refine XS.iconst X46.here hx rfl (hb hby at_145) ?_
          show own_S p e below T46 m 146 #[iv xn, iv xt, iv xf, iv xd, rv a2, iv nd, iv ed, iv er, rv a43, .unset, .unset, .unset, .unset] [(.int (0 : Int32))] _
          rw [show oo = (0 : Int32) from by rw [hoo, if_pos hc48, if_pos hc49]] at kt
          exact kt
        · refine XS.ifNo X46.here hx rfl (hb hby at_138) rfl ((if0 _ _).trans (feq hc49).1) ?_
          show own_S p e below T46 m 141 #[iv xn, iv xt, iv xf, iv xd, rv a2, iv nd, iv ed, iv er, rv a43, .unset, .unset, .unset, .unset] [] _
          refine XS.iconst X46.here hx rfl (hb hby at_141) ?_
          show own_S p e below T46 m 142 #[iv xn, iv xt, iv xf, iv xd, rv a2, iv nd, iv ed, iv er, rv a43, .unset, .unset, .unset, .unset] [(.int (1 : Int32))] _
          refine XS.goto X46.here hx rfl (pc0 := 142) (pc' := 146) rfl (hb hby at_142) (by decide) (by decide) ?_
          show own_S p e below T46 m 146 #[iv xn, iv xt, iv xf, iv xd, rv a2, iv nd, iv ed, iv er, rv a43, .unset, .unset, .unset, .unset] [(.int (1 : Int32))] _
          rw [show oo = (1 : Int32) from by rw [hoo, if_pos hc48, if_neg hc49]] at kt
          exact kt
      · refine XS.ifYes X46.here hx rfl (pc0 := 132) (pc' := 145) rfl (hb hby at_132) rfl ((if0 _ _).trans (feq hc48).2) (by decide) (by decide) ?_
        show own_S p e below T46 m 145 #[iv xn, iv xt, iv xf, iv xd, rv a2, iv nd, iv ed, iv er, rv a43, .unset, .unset, .unset, .unset] [] _
        refine XS.iconst X46.here hx rfl (hb hby at_145) ?_
        show own_S p e below T46 m 146 #[iv xn, iv xt, iv xf, iv xd, rv a2, iv nd, iv ed, iv er, rv a43, .unset, .unset, .unset, .unset] [(.int (0 : Int32))] _
        rw [show oo = (0 : Int32) from by rw [hoo, if_neg hc48]] at kt
        exact kt
    refine own_st sg50 ?_
    have sg51 : own_V p e below T46 (mkF m 148 #[iv xn, iv xt, iv xf, iv xd, rv a2, iv nd, iv ed, iv er, rv a43, iv oo, .unset, .unset, .unset] []) (mkF m 146 #[iv xn, iv xt, iv xf, iv xd, rv a2, iv nd, iv ed, iv er, rv a43, .unset, .unset, .unset, .unset] [(.int oo)]) := by
      intro t kt
      refine XS.istore X46.here hx rfl (hb hby at_146) rfl (l' := #[iv xn, iv xt, iv xf, iv xd, rv a2, iv nd, iv ed, iv er, rv a43, iv oo, .unset, .unset, .unset]) rfl ?_
      show own_S p e below T46 m 148 #[iv xn, iv xt, iv xf, iv xd, rv a2, iv nd, iv ed, iv er, rv a43, iv oo, .unset, .unset, .unset] [] _
      exact kt
    refine own_st sg51 ?_
    obtain ⟨T52, h52, X52, e52, E52, A52, D52, -, st52⟩ := newO X46 hx hZ hown (hw _ (List.mem_of_getElem? (i := 30) rfl)) (hw _ (List.mem_of_getElem? (i := 31) rfl)) (hw _ (List.mem_of_getElem? (i := 32) rfl)) rfl (g := (mkF m 148 #[iv xn, iv xt, iv xf, iv xd, rv a2, iv nd, iv ed, iv er, rv a43, iv oo, .unset, .unset, .unset] [])) rfl (hb hby at_148) (by decide) (by decide)
    obtain ⟨a52, g52⟩ : ∃ z, z = T46.heap.size := ⟨_, rfl⟩
    rw [← g52] at A52 D52 st52
    refine own_st st52 ?_
    have g_a52 : n0 ≤ a52 := by rw [g52]; exact Z46
    have Z52 : n0 ≤ h52.size := Nat.le_trans Z46 E52.1
    have kk52 : T46.heap.size ≤ h52.size := Nat.le_trans (Nat.le_refl _) E52.1
    show own_Go p e below _ T52 (mkF m 151 #[iv xn, iv xt, iv xf, iv xd, rv a2, iv nd, iv ed, iv er, rv a43, iv oo, .unset, .unset, .unset] [(.ref a52)])
    have Fnumber : Fld Z h52 a52 "com/example/cytowire/cytowire/astm/Frame" "number" "I" (.int (0 : Int32)) := D52 (Or.inr (hw _ (List.mem_of_getElem? (i := 38) rfl))) (ty := .int) (by decide)
    have Ftext : Fld Z h52 a52 "com/example/cytowire/cytowire/astm/Frame" "text" "[B" .null := D52 (Or.inr (hw _ (List.mem_of_getElem? (i := 40) rfl))) (ty := (.array .byte)) (by decide)
    have FendsRecord : Fld Z h52 a52 "com/example/cytowire/cytowire/astm/Frame" "endsRecord" "Z" (.int (0 : Int32)) := D52 (Or.inr (hw _ (List.mem_of_getElem? (i := 42) rfl))) (ty := .boolean) (by decide)
    have Fdefect : Fld Z h52 a52 "com/example/cytowire/cytowire/astm/Frame" "defect" "Ljava/lang/String;" .null := D52 (Or.inr (hw _ (List.mem_of_getElem? (i := 44) rfl))) (ty := (.object "java/lang/String")) (by decide)
    have FoutOfRoom : Fld Z h52 a52 "com/example/cytowire/cytowire/astm/Frame" "outOfRoom" "Z" (.int (0 : Int32)) := D52 (Or.inr (hw _ (List.mem_of_getElem? (i := 46) rfl))) (ty := .boolean) (by decide)
    have sg53 : own_V p e below T52 (mkF m 161 #[iv xn, iv xt, iv xf, iv xd, rv a2, iv nd, iv ed, iv er, rv a43, iv oo, .unset, .unset, .unset] [(.int oo), (.ref a43), (.int er), (.ref a2), (.int xn), (.ref a52), (.ref a52)]) (mkF m 151 #[iv xn, iv xt, iv xf, iv xd, rv a2, iv nd, iv ed, iv er, rv a43, iv oo, .unset, .unset, .unset] [(.ref a52)]) := by
      intro t kt
      refine XS.dup X52.here hx rfl (hb hby at_151) rfl rfl ?_
      show own_S p e below T52 m 152 #[iv xn, iv xt, iv xf, iv xd, rv a2, iv nd, iv ed, iv er, rv a43, iv oo, .unset, .unset, .unset] [(.ref a52), (.ref a52)] _
      refine XS.iloadN X52.here hx rfl (hb hby at_152) rfl ?_
      show own_S p e below T52 m 153 #[iv xn, iv xt, iv xf, iv xd, rv a2, iv nd, iv ed, iv er, rv a43, iv oo, .unset, .unset, .unset] [(.int xn), (.ref a52), (.ref a52)] _
      refine XS.aload X52.here hx rfl (hb hby at_153) rfl rfl ?_
      show own_S p e below T52 m 155 #[iv xn, iv xt, iv xf, iv xd, rv a2, iv nd, iv ed, iv er, rv a43, iv oo, .unset, .unset, .unset] [(.ref a2), (.int xn), (.ref a52), (.ref a52)] _
      refine XS.iload X52.here hx rfl (hb hby at_155) rfl ?_
      show own_S p e below T52 m 157 #[iv xn, iv xt, iv xf, iv xd, rv a2, iv nd, iv ed, iv er, rv a43, iv oo, .unset, .unset, .unset] [(.int er), (.ref a2), (.int xn), (.ref a52), (.ref a52)] _
      refine XS.aload X52.here hx rfl (hb hby at_157) rfl rfl ?_
      show own_S p e below T52 m 159 #[iv xn, iv xt, iv xf, iv xd, rv a2, iv nd, iv ed, iv er, rv a43, iv oo, .unset, .unset, .unset] [(.ref a43), (.int er), (.ref a2), (.int xn), (.ref a52), (.ref a52)] _
      refine XS.iload X52.here hx rfl (hb hby at_159) rfl ?_
      show own_S p e below T52 m 161 #[iv xn, iv xt, iv xf, iv xd, rv a2, iv nd, iv ed, iv er, rv a43, iv oo, .unset, .unset, .unset] [(.int oo), (.ref a43), (.int er), (.ref a2), (.int xn), (.ref a52), (.ref a52)] _
      exact kt
    refine own_st sg53 ?_
    obtain ⟨_, T54, L54, X54, hQ54, st54⟩ := own_callI (y := (⟨"com/example/cytowire/cytowire/astm/Frame", "<init>", "(I[BZLjava/lang/String;Z)V"⟩ : MethodName)) (a := a52) X52 hx hZ hown rfl (hw _ (List.mem_of_getElem? (i := 33) rfl)) (hw _ (List.mem_of_getElem? (i := 34) rfl)) (hw _ (List.mem_of_getElem? (i := 32) rfl)) (hw _ (List.mem_of_getElem? (i := 35) rfl)) (by decide) (own_rmfiR l Z a0 hw a52 xn a2 er a43 oo h52 n0 Z52 A52 Fnumber Ftext FendsRecord Fdefect FoutOfRoom g_a52) e52 (g := (mkF m 161 #[iv xn, iv xt, iv xf, iv xd, rv a2, iv nd, iv ed, iv er, rv a43, iv oo, .unset, .unset, .unset] [(.int oo), (.ref a43), (.int er), (.ref a2), (.int xn), (.ref a52), (.ref a52)])) rfl (by rw [hml]; rfl) (argsL := [(.int xn), (.ref a2), (.int er), (.ref a43), (.int oo)]) (rest := [(.ref a52)]) (lenOf own_pd5 rfl) rfl (W := 1) (by show 2 * 0 + _ ≤ _; exact Nat.le_of_eq rfl) (hb hby at_161) (by decide) (by decide) (by decide) (by decide)
    obtain ⟨rfl, Nq54, K54, E54, F54⟩ := hQ54
    refine own_st st54 ?_
    have Z54 : n0 ≤ T54.heap.size := Nat.le_trans Z52 K54.1
    have kk54 : T46.heap.size ≤ T54.heap.size := Nat.le_trans kk52 K54.1
    have N54 := Fr.app N46 Nq54
    show own_Go p e below _ T54 (mkF m 164 #[iv xn, iv xt, iv xf, iv xd, rv a2, iv nd, iv ed, iv er, rv a43, iv oo, .unset, .unset, .unset] [(.ref a52)])
    have sg55 : own_V p e below T54 (mkF m 168 #[iv xn, iv xt, iv xf, iv xd, rv a2, iv nd, iv ed, iv er, rv a43, iv oo, rv a52, .unset, .unset] [(.ref a52)]) (mkF m 164 #[iv xn, iv xt, iv xf, iv xd, rv a2, iv nd, iv ed, iv er, rv a43, iv oo, .unset, .unset, .unset] [(.ref a52)]) := by
      intro t kt
      refine XS.astore X54.here hx rfl (hb hby at_164) rfl rfl (l' := #[iv xn, iv xt, iv xf, iv xd, rv a2, iv nd, iv ed, iv er, rv a43, iv oo, rv a52, .unset, .unset]) rfl ?_
      show own_S p e below T54 m 166 #[iv xn, iv xt, iv xf, iv xd, rv a2, iv nd, iv ed, iv er, rv a43, iv oo, rv a52, .unset, .unset] [] _
      refine XS.aload X54.here hx rfl (hb hby at_166) rfl rfl ?_
      show own_S p e below T54 m 168 #[iv xn, iv xt, iv xf, iv xd, rv a2, iv nd, iv ed, iv er, rv a43, iv oo, rv a52, .unset, .unset] [(.ref a52)] _
      exact kt
    refine own_st sg55 ?_
    obtain ⟨_, T56, L56, X56, hQ56, st56⟩ := own_callV (y := (⟨"com/example/cytowire/cytowire/astm/Frame", "isSound", "()Z"⟩ : MethodName)) (y0 := (⟨"com/example/cytowire/cytowire/astm/Frame", "isSound", "()Z"⟩ : MethodName)) (a := a52) (C := "com/example/cytowire/cytowire/astm/Frame") X54 hx hZ hown E54 (hw _ (List.mem_of_getElem? (i := 47) rfl)) (hw _ (List.mem_of_getElem? (i := 48) rfl)) (hw _ (List.mem_of_getElem? (i := 50) rfl)) (notFace_of_selects (args := #[]) (mvT hZ (hw _ (List.mem_of_getElem? (i := 50) rfl)))) (hw _ (List.mem_of_getElem? (i := 49) rfl)) (hw _ (List.mem_of_getElem? (i := 32) rfl)) (hw _ (List.mem_of_getElem? (i := 51) rfl)) (by decide) (own_rmisR l Z a0 hw a52 a43 T54.heap n0 Z54 F54) rfl (g := (mkF m 168 #[iv xn, iv xt, iv xf, iv xd, rv a2, iv nd, iv ed, iv er, rv a43, iv oo, rv a52, .unset, .unset] [(.ref a52)])) rfl (by rw [hml]; rfl) (argsL := []) (rest := []) (lenOf own_pd6 rfl) rfl (W := 0) (by show 2 * 0 + _ ≤ _; exact Nat.le_of_eq rfl) (hb hby at_168) (by decide) (by decide) (by decide) (by decide)
    obtain ⟨rfl, Nq56, e56⟩ := hQ56
    refine own_st st56 ?_
    have N56 := Fr.app N54 Nq56
    show own_Go p e below _ T56 (mkF m 171 #[iv xn, iv xt, iv xf, iv xd, rv a2, iv nd, iv ed, iv er, rv a43, iv oo, rv a52, .unset, .unset] [(.int (0 : Int32))])
    have sg57 : own_V p e below T56 (mkF m 175 #[iv xn, iv xt, iv xf, iv xd, rv a2, iv nd, iv ed, iv er, rv a43, iv oo, rv a52, iv (0 : Int32), .unset] [(.ref a52)]) (mkF m 171 #[iv xn, iv xt, iv xf, iv xd, rv a2, iv nd, iv ed, iv er, rv a43, iv oo, rv a52, .unset, .unset] [(.int (0 : Int32))]) := by
      intro t kt
      refine XS.istore X56.here hx rfl (hb hby at_171) rfl (l' := #[iv xn, iv xt, iv xf, iv xd, rv a2, iv nd, iv ed, iv er, rv a43, iv oo, rv a52, iv (0 : Int32), .unset]) rfl ?_
      show own_S p e below T56 m 173 #[iv xn, iv xt, iv xf, iv xd, rv a2, iv nd, iv ed, iv er, rv a43, iv oo, rv a52, iv (0 : Int32), .unset] [] _
      refine XS.aload X56.here hx rfl (hb hby at_173) rfl rfl ?_
      show own_S p e below T56 m 175 #[iv xn, iv xt, iv xf, iv xd, rv a2, iv nd, iv ed, iv er, rv a43, iv oo, rv a52, iv (0 : Int32), .unset] [(.ref a52)] _
      exact kt
    refine own_st sg57 ?_
    obtain ⟨_, T58, L58, X58, hQ58, st58⟩ := own_callV (y := (⟨"com/example/cytowire/cytowire/astm/Frame", "defect", "()Ljava/lang/String;"⟩ : MethodName)) (y0 := (⟨"com/example/cytowire/cytowire/astm/Frame", "defect", "()Ljava/lang/String;"⟩ : MethodName)) (a := a52) (C := "com/example/cytowire/cytowire/astm/Frame") X56 hx hZ hown E54 (hw _ (List.mem_of_getElem? (i := 52) rfl)) (hw _ (List.mem_of_getElem? (i := 53) rfl)) (hw _ (List.mem_of_getElem? (i := 55) rfl)) (notFace_of_selects (args := #[]) (mvT hZ (hw _ (List.mem_of_getElem? (i := 55) rfl)))) (hw _ (List.mem_of_getElem? (i := 54) rfl)) (hw _ (List.mem_of_getElem? (i := 32) rfl)) (hw _ (List.mem_of_getElem? (i := 56) rfl)) (by decide) (own_rmdfR l Z a0 hw a52 a43 T54.heap n0 Z54 F54) e56 (g := (mkF m 175 #[iv xn, iv xt, iv xf, iv xd, rv a2, iv nd, iv ed, iv er, rv a43, iv oo, rv a52, iv (0 : Int32), .unset] [(.ref a52)])) rfl (by rw [hml]; rfl) (argsL := []) (rest := []) (lenOf own_pd7 rfl) rfl (W := 0) (by show 2 * 0 + _ ≤ _; exact Nat.le_of_eq rfl) (hb hby at_175) (by decide) (by decide) (by decide) (by decide)
    obtain ⟨rfl, Nq58, e58⟩ := hQ58
    refine own_st st58 ?_
    have N58 := Fr.app N56 Nq58
    show own_Go p e below _ T58 (mkF m 178 #[iv xn, iv xt, iv xf, iv xd, rv a2, iv nd, iv ed, iv er, rv a43, iv oo, rv a52, iv (0 : Int32), .unset] [(.ref a43)])
    have sg59 : own_V p e below T58 (mkF m 215 #[iv xn, iv xt, iv xf, iv xd, rv a2, iv nd, iv ed, iv er, rv a43, iv oo, rv a52, iv (0 : Int32), rv a43] [(.int (1 : Int32))]) (mkF m 178 #[iv xn, iv xt, iv xf, iv xd, rv a2, iv nd, iv ed, iv er, rv a43, iv oo, rv a52, iv (0 : Int32), .unset] [(.ref a43)]) := by
      intro t kt
      refine XS.astore X58.here hx rfl (hb hby at_178) rfl rfl (l' := #[iv xn, iv xt, iv xf, iv xd, rv a2, iv nd, iv ed, iv er, rv a43, iv oo, rv a52, iv (0 : Int32), rv a43]) rfl ?_
      show own_S p e below T58 m 180 #[iv xn, iv xt, iv xf, iv xd, rv a2, iv nd, iv ed, iv er, rv a43, iv oo, rv a52, iv (0 : Int32), rv a43] [] _
      refine XS.iload X58.here hx rfl (hb hby at_180) rfl ?_
      show own_S p e below T58 m 182 #[iv xn, iv xt, iv xf, iv xd, rv a2, iv nd, iv ed, iv er, rv a43, iv oo, rv a52, iv (0 : Int32), rv a43] [(.int (0 : Int32))] _
      refine XS.aload X58.here hx rfl (hb hby at_182) rfl rfl ?_
      show own_S p e below T58 m 184 #[iv xn, iv xt, iv xf, iv xd, rv a2, iv nd, iv ed, iv er, rv a43, iv oo, rv a52, iv (0 : Int32), rv a43] [(.ref a43), (.int (0 : Int32))] _
      refine XS.ifnonnullYes X58.here hx rfl (pc0 := 184) (pc' := 191) rfl (hb hby at_184) rfl (by decide) (by decide) ?_
      show own_S p e below T58 m 191 #[iv xn, iv xt, iv xf, iv xd, rv a2, iv nd, iv ed, iv er, rv a43, iv oo, rv a52, iv (0 : Int32), rv a43] [(.int (0 : Int32))] _
      refine XS.iconst X58.here hx rfl (hb hby at_191) ?_
      show own_S p e below T58 m 192 #[iv xn, iv xt, iv xf, iv xd, rv a2, iv nd, iv ed, iv er, rv a43, iv oo, rv a52, iv (0 : Int32), rv a43] [(.int (0 : Int32)), (.int (0 : Int32))] _
      refine XS.icmpNo X58.here hx rfl (hb hby at_192) rfl (teq (by decide : (0 : Int32) = (0 : Int32))).2 ?_
      show own_S p e below T58 m 195 #[iv xn, iv xt, iv xf, iv xd, rv a2, iv nd, iv ed, iv er, rv a43, iv oo, rv a52, iv (0 : Int32), rv a43] [] _
      refine XS.iload X58.here hx rfl (hb hby at_195) rfl ?_
      show own_S p e below T58 m 197 #[iv xn, iv xt, iv xf, iv xd, rv a2, iv nd, iv ed, iv er, rv a43, iv oo, rv a52, iv (0 : Int32), rv a43] [(.int (0 : Int32))] _
      refine XS.aload X58.here hx rfl (hb hby at_197) rfl rfl ?_
      show own_S p e below T58 m 199 #[iv xn, iv xt, iv xf, iv xd, rv a2, iv nd, iv ed, iv er, rv a43, iv oo, rv a52, iv (0 : Int32), rv a43] [(.ref a43), (.int (0 : Int32))] _
      refine XS.ifnonnullYes X58.here hx rfl (pc0 := 199) (pc' := 206) rfl (hb hby at_199) rfl (by decide) (by decide) ?_
      show own_S p e below T58 m 206 #[iv xn, iv xt, iv xf, iv xd, rv a2, iv nd, iv ed, iv er, rv a43, iv oo, rv a52, iv (0 : Int32), rv a43] [(.int (0 : Int32))] _
      refine XS.iconst X58.here hx rfl (hb hby at_206) ?_
      show own_S p e below T58 m 207 #[iv xn, iv xt, iv xf, iv xd, rv a2, iv nd, iv ed, iv er, rv a43, iv oo, rv a52, iv (0 : Int32), rv a43] [(.int (0 : Int32)), (.int (0 : Int32))] _
      refine XS.icmpNo X58.here hx rfl (hb hby at_207) rfl (teq (by decide : (0 : Int32) = (0 : Int32))).2 ?_
      show own_S p e below T58 m 210 #[iv xn, iv xt, iv xf, iv xd, rv a2, iv nd, iv ed, iv er, rv a43, iv oo, rv a52, iv (0 : Int32), rv a43] [] _
      refine XS.iconst X58.here hx rfl (hb hby at_210) ?_
      show own_S p e below T58 m 211 #[iv xn, iv xt, iv xf, iv xd, rv a2, iv nd, iv ed, iv er, rv a43, iv oo, rv a52, iv (0 : Int32), rv a43] [(.int (1 : Int32))] _
      refine XS.goto X58.here hx rfl (pc0 := 211) (pc' := 215) rfl (hb hby at_211) (by decide) (by decide) ?_
      show own_S p e below T58 m 215 #[iv xn, iv xt, iv xf, iv xd, rv a2, iv nd, iv ed, iv er, rv a43, iv oo, rv a52, iv (0 : Int32), rv a43] [(.int (1 : Int32))] _
      exact kt
    refine own_st sg59 ?_
    exact own_retZJ (s := s) (vm1 := T46.vm) X58 hx I46 kk54 Bd.notSynchronized Bd.returns (hb hby at_215) (by decide) (by decide) (by decide) e58 ⟨rfl, N58⟩
  have sg60 : own_V p e below T7 (mkF m 65 #[iv xn, iv xt, iv xf, iv xd, rv a2, iv nd, iv ed, iv er, .unset, .unset, .unset, .unset, .unset] []) (mkF m 62 #[iv xn, iv xt, iv xf, iv xd, rv a2, iv nd, iv ed, iv er, .unset, .unset, .unset, .unset, .unset] [(.int nd)]) := by
    intro t kt
    refine XS.ifNo X7.here hx rfl (hb hby at_62) rfl ((if0 _ _).trans (feq hc15).1) ?_
    exact kt
  refine own_st sg60 ?_
  have sg61 : own_V p e below T7 (mkF m 130 #[iv xn, iv xt, iv xf, iv xd, rv a2, iv nd, iv ed, iv er, .val .null, .unset, .unset, .unset, .unset] []) (mkF m 65 #[iv xn, iv xt, iv xf, iv xd, rv a2, iv nd, iv ed, iv er, .unset, .unset, .unset, .unset, .unset] []) := by
    intro t kt
    refine XS.aconstNull X7.here hx rfl (hb hby at_65) ?_
    show own_S p e below T7 m 66 #[iv xn, iv xt, iv xf, iv xd, rv a2, iv nd, iv ed, iv er, .unset, .unset, .unset, .unset, .unset] [.null] _
    refine XS.astore X7.here hx rfl (hb hby at_66) rfl rfl (l' := #[iv xn, iv xt, iv xf, iv xd, rv a2, iv nd, iv ed, iv er, .val .null, .unset, .unset, .unset, .unset]) rfl ?_
    show own_S p e below T7 m 68 #[iv xn, iv xt, iv xf, iv xd, rv a2, iv nd, iv ed, iv er, .val .null, .unset, .unset, .unset, .unset] [] _
    refine XS.goto X7.here hx rfl (pc0 := 68) (pc' := 130) rfl (hb hby at_68) (by decide) (by decide) ?_
    show own_S p e below T7 m 130 #[iv xn, iv xt, iv xf, iv xd, rv a2, iv nd, iv ed, iv er, .val .null, .unset, .unset, .unset, .unset] [] _
    exact kt
  refine own_st sg61 ?_
  obtain ⟨oo, hoo⟩ : ∃ z : Int32, z = (if nd = (0 : Int32) then (if (xf &&& (2 : Int32)) = (0 : Int32) then (0 : Int32) else (1 : Int32)) else (0 : Int32)) := ⟨_, rfl⟩
  have sg64 : own_V p e below T7 (mkF m 146 #[iv xn, iv xt, iv xf, iv xd, rv a2, iv nd, iv ed, iv er, .val .null, .unset, .unset, .unset, .unset] [(.int oo)]) (mkF m 130 #[iv xn, iv xt, iv xf, iv xd, rv a2, iv nd, iv ed, iv er, .val .null, .unset, .unset, .unset, .unset] []) := by
    intro t kt
    refine XS.iload X7.here hx rfl (hb hby at_130) rfl ?_
    show own_S p e below T7 m 132 #[iv xn, iv xt, iv xf, iv xd, rv a2, iv nd, iv ed, iv er, .val .null, .unset, .unset, .unset, .unset] [(.int nd)] _
    by_cases hc62 : nd = (0 : Int32)
    · refine XS.ifNo X7.here hx rfl (hb hby at_132) rfl ((if0 _ _).trans (teq hc62).2) ?_
      show own_S p e below T7 m 135 #[iv xn, iv xt, iv xf, iv xd, rv a2, iv nd, iv ed, iv er, .val .null, .unset, .unset, .unset, .unset] [] _
      refine XS.iloadN X7.here hx rfl (hb hby at_135) rfl ?_
      show own_S p e below T7 m 136 #[iv xn, iv xt, iv xf, iv xd, rv a2, iv nd, iv ed, iv er, .val .null, .unset, .unset, .unset, .unset] [(.int xf)] _
      refine XS.iconst X7.here hx rfl (hb hby at_136) ?_
      show own_S p e below T7 m 137 #[iv xn, iv xt, iv xf, iv xd, rv a2, iv nd, iv ed, iv er, .val .null, .unset, .unset, .unset, .unset] [(.int (2 : Int32)), (.int xf)] _
      refine XS.iand X7.here hx rfl (hb hby at_137) rfl ?_
      show own_S p e below T7 m 138 #[iv xn, iv xt, iv xf, iv xd, rv a2, iv nd, iv ed, iv er, .val .null, .unset, .unset, .unset, .unset] [(.int (xf &&& (2 : Int32)))] _
      by_cases hc63 : (xf &&& (2 : Int32)) = (0 : Int32)
      · refine XS.ifYes X7.here hx rfl (pc0 := 138) (pc' := 145) rfl (hb hby at_138) rfl ((if0 _ _).trans (teq hc63).1) (by decide) (by decide) ?_
        show own_S p e below T7 m 145 #[iv xn, iv xt, iv xf, iv xd, rv a2, iv nd, iv ed, iv er, .val .null, .unset, .unset, .unset, .unset] [] _
        refine XS.iconst X7.here hx rfl (hb hby at_145) ?_
        show own_S p e below T7 m 146 #[iv xn, iv xt, iv xf, iv xd, rv a2, iv nd, iv ed, iv er, .val .null, .unset, .unset, .unset, .unset] [(.int (0 : Int32))] _
        rw [show oo = (0 : Int32) from by rw [hoo, if_pos hc62, if_pos hc63]] at kt
        exact kt
      · refine XS.ifNo X7.here hx rfl (hb hby at_138) rfl ((if0 _ _).trans (feq hc63).1) ?_
        show own_S p e below T7 m 141 #[iv xn, iv xt, iv xf, iv xd, rv a2, iv nd, iv ed, iv er, .val .null, .unset, .unset, .unset, .unset] [] _
        refine XS.iconst X7.here hx rfl (hb hby at_141) ?_
        show own_S p e below T7 m 142 #[iv xn, iv xt, iv xf, iv xd, rv a2, iv nd, iv ed, iv er, .val .null, .unset, .unset, .unset, .unset] [(.int (1 : Int32))] _
        refine XS.goto X7.here hx rfl (pc0 := 142) (pc' := 146) rfl (hb hby at_142) (by decide) (by decide) ?_
        show own_S p e below T7 m 146 #[iv xn, iv xt, iv xf, iv xd, rv a2, iv nd, iv ed, iv er, .val .null, .unset, .unset, .unset, .unset] [(.int (1 : Int32))] _
        rw [show oo = (1 : Int32) from by rw [hoo, if_pos hc62, if_neg hc63]] at kt
        exact kt
    · refine XS.ifYes X7.here hx rfl (pc0 := 132) (pc' := 145) rfl (hb hby at_132) rfl ((if0 _ _).trans (feq hc62).2) (by decide) (by decide) ?_
      show own_S p e below T7 m 145 #[iv xn, iv xt, iv xf, iv xd, rv a2, iv nd, iv ed, iv er, .val .null, .unset, .unset, .unset, .unset] [] _
      refine XS.iconst X7.here hx rfl (hb hby at_145) ?_
      show own_S p e below T7 m 146 #[iv xn, iv xt, iv xf, iv xd, rv a2, iv nd, iv ed, iv er, .val .null, .unset, .unset, .unset, .unset] [(.int (0 : Int32))] _
      rw [show oo = (0 : Int32) from by rw [hoo, if_neg hc62]] at kt
      exact kt
  refine own_st sg64 ?_
  have sg65 : own_V p e below T7 (mkF m 148 #[iv xn, iv xt, iv xf, iv xd, rv a2, iv nd, iv ed, iv er, .val .null, iv oo, .unset, .unset, .unset] []) (mkF m 146 #[iv xn, iv xt, iv xf, iv xd, rv a2, iv nd, iv ed, iv er, .val .null, .unset, .unset, .unset, .unset] [(.int oo)]) := by
    intro t kt
    refine XS.istore X7.here hx rfl (hb hby at_146) rfl (l' := #[iv xn, iv xt, iv xf, iv xd, rv a2, iv nd, iv ed, iv er, .val .null, iv oo, .unset, .unset, .unset]) rfl ?_
    show own_S p e below T7 m 148 #[iv xn, iv xt, iv xf, iv xd, rv a2, iv nd, iv ed, iv er, .val .null, iv oo, .unset, .unset, .unset] [] _
    exact kt
  refine own_st sg65 ?_
  obtain ⟨T66, h66, X66, e66, E66, A66, D66, -, st66⟩ := newO X7 hx hZ hown (hw _ (List.mem_of_getElem? (i := 30) rfl)) (hw _ (List.mem_of_getElem? (i := 31) rfl)) (hw _ (List.mem_of_getElem? (i := 32) rfl)) e7 (g := (mkF m 148 #[iv xn, iv xt, iv xf, iv xd, rv a2, iv nd, iv ed, iv er, .val .null, iv oo, .unset, .unset, .unset] [])) rfl (hb hby at_148) (by decide) (by decide)
  obtain ⟨a66, g66⟩ : ∃ z, z = h7.size := ⟨_, rfl⟩
  rw [← g66] at A66 D66 st66
  refine own_st st66 ?_
  have g_a66 : n0 ≤ a66 := by rw [g66]; exact Z7
  have Z66 : n0 ≤ h66.size := Nat.le_trans Z7 E66.1
  have kk66 : 0 ≤ h66.size := Nat.le_trans kk7 E66.1
  show own_Go p e below _ T66 (mkF m 151 #[iv xn, iv xt, iv xf, iv xd, rv a2, iv nd, iv ed, iv er, .val .null, iv oo, .unset, .unset, .unset] [(.ref a66)])
  have Fnumber : Fld Z h66 a66 "com/example/cytowire/cytowire/astm/Frame" "number" "I" (.int (0 : Int32)) := D66 (Or.inr (hw _ (List.mem_of_getElem? (i := 38) rfl))) (ty := .int) (by decide)
  have Ftext : Fld Z h66 a66 "com/example/cytowire/cytowire/astm/Frame" "text" "[B" .null := D66 (Or.inr (hw _ (List.mem_of_getElem? (i := 40) rfl))) (ty := (.array .byte)) (by decide)
  have FendsRecord : Fld Z h66 a66 "com/example/cytowire/cytowire/astm/Frame" "endsRecord" "Z" (.int (0 : Int32)) := D66 (Or.inr (hw _ (List.mem_of_getElem? (i := 42) rfl))) (ty := .boolean) (by decide)
  have Fdefect : Fld Z h66 a66 "com/example/cytowire/cytowire/astm/Frame" "defect" "Ljava/lang/String;" .null := D66 (Or.inr (hw _ (List.mem_of_getElem? (i := 44) rfl))) (ty := (.object "java/lang/String")) (by decide)
  have FoutOfRoom : Fld Z h66 a66 "com/example/cytowire/cytowire/astm/Frame" "outOfRoom" "Z" (.int (0 : Int32)) := D66 (Or.inr (hw _ (List.mem_of_getElem? (i := 46) rfl))) (ty := .boolean) (by decide)
  have sg67 : own_V p e below T66 (mkF m 161 #[iv xn, iv xt, iv xf, iv xd, rv a2, iv nd, iv ed, iv er, .val .null, iv oo, .unset, .unset, .unset] [(.int oo), .null, (.int er), (.ref a2), (.int xn), (.ref a66), (.ref a66)]) (mkF m 151 #[iv xn, iv xt, iv xf, iv xd, rv a2, iv nd, iv ed, iv er, .val .null, iv oo, .unset, .unset, .unset] [(.ref a66)]) := by
    intro t kt
    refine XS.dup X66.here hx rfl (hb hby at_151) rfl rfl ?_
    show own_S p e below T66 m 152 #[iv xn, iv xt, iv xf, iv xd, rv a2, iv nd, iv ed, iv er, .val .null, iv oo, .unset, .unset, .unset] [(.ref a66), (.ref a66)] _
    refine XS.iloadN X66.here hx rfl (hb hby at_152) rfl ?_
    show own_S p e below T66 m 153 #[iv xn, iv xt, iv xf, iv xd, rv a2, iv nd, iv ed, iv er, .val .null, iv oo, .unset, .unset, .unset] [(.int xn), (.ref a66), (.ref a66)] _
    refine XS.aload X66.here hx rfl (hb hby at_153) rfl rfl ?_
    show own_S p e below T66 m 155 #[iv xn, iv xt, iv xf, iv xd, rv a2, iv nd, iv ed, iv er, .val .null, iv oo, .unset, .unset, .unset] [(.ref a2), (.int xn), (.ref a66), (.ref a66)] _
    refine XS.iload X66.here hx rfl (hb hby at_155) rfl ?_
    show own_S p e below T66 m 157 #[iv xn, iv xt, iv xf, iv xd, rv a2, iv nd, iv ed, iv er, .val .null, iv oo, .unset, .unset, .unset] [(.int er), (.ref a2), (.int xn), (.ref a66), (.ref a66)] _
    refine XS.aload X66.here hx rfl (hb hby at_157) rfl rfl ?_
    show own_S p e below T66 m 159 #[iv xn, iv xt, iv xf, iv xd, rv a2, iv nd, iv ed, iv er, .val .null, iv oo, .unset, .unset, .unset] [.null, (.int er), (.ref a2), (.int xn), (.ref a66), (.ref a66)] _
    refine XS.iload X66.here hx rfl (hb hby at_159) rfl ?_
    show own_S p e below T66 m 161 #[iv xn, iv xt, iv xf, iv xd, rv a2, iv nd, iv ed, iv er, .val .null, iv oo, .unset, .unset, .unset] [(.int oo), .null, (.int er), (.ref a2), (.int xn), (.ref a66), (.ref a66)] _
    exact kt
  refine own_st sg67 ?_
  obtain ⟨_, T68, L68, X68, hQ68, st68⟩ := own_callI (y := (⟨"com/example/cytowire/cytowire/astm/Frame", "<init>", "(I[BZLjava/lang/String;Z)V"⟩ : MethodName)) (a := a66) X66 hx hZ hown rfl (hw _ (List.mem_of_getElem? (i := 33) rfl)) (hw _ (List.mem_of_getElem? (i := 34) rfl)) (hw _ (List.mem_of_getElem? (i := 32) rfl)) (hw _ (List.mem_of_getElem? (i := 35) rfl)) (by decide) (own_rmfiN l Z a0 hw a66 xn a2 er oo h66 n0 Z66 A66 Fnumber Ftext FendsRecord Fdefect FoutOfRoom g_a66) e66 (g := (mkF m 161 #[iv xn, iv xt, iv xf, iv xd, rv a2, iv nd, iv ed, iv er, .val .null, iv oo, .unset, .unset, .unset] [(.int oo), .null, (.int er), (.ref a2), (.int xn), (.ref a66), (.ref a66)])) rfl (by rw [hml]; rfl) (argsL := [(.int xn), (.ref a2), (.int er), .null, (.int oo)]) (rest := [(.ref a66)]) (lenOf own_pd5 rfl) rfl (W := 1) (by show 2 * 0 + _ ≤ _; exact Nat.le_of_eq rfl) (hb hby at_161) (by decide) (by decide) (by decide) (by decide)
  obtain ⟨rfl, Nq68, K68, E68, F68⟩ := hQ68
  refine own_st st68 ?_
  have Z68 : n0 ≤ T68.heap.size := Nat.le_trans Z66 K68.1
  have kk68 : 0 ≤ T68.heap.size := Nat.le_trans kk66 K68.1
  have N68 := Fr.app N7 Nq68
  show own_Go p e below _ T68 (mkF m 164 #[iv xn, iv xt, iv xf, iv xd, rv a2, iv nd, iv ed, iv er, .val .null, iv oo, .unset, .unset, .unset] [(.ref a66)])
  have sg69 : own_V p e below T68 (mkF m 168 #[iv xn, iv xt, iv xf, iv xd, rv a2, iv nd, iv ed, iv er, .val .null, iv oo, rv a66, .unset, .unset] [(.ref a66)]) (mkF m 164 #[iv xn, iv xt, iv xf, iv xd, rv a2, iv nd, iv ed, iv er, .val .null, iv oo, .unset, .unset, .unset] [(.ref a66)]) := by
    intro t kt
    refine XS.astore X68.here hx rfl (hb hby at_164) rfl rfl (l' := #[iv xn, iv xt, iv xf, iv xd, rv a2, iv nd, iv ed, iv er, .val .null, iv oo, rv a66, .unset, .unset]) rfl ?_
    show own_S p e below T68 m 166 #[iv xn, iv xt, iv xf, iv xd, rv a2, iv nd, iv ed, iv er, .val .null, iv oo, rv a66, .unset, .unset] [] _
    refine XS.aload X68.here hx rfl (hb hby at_166) rfl rfl ?_
    show own_S p e below T68 m 168 #[iv xn, iv xt, iv xf, iv xd, rv a2, iv nd, iv ed, iv er, .val .null, iv oo, rv a66, .unset, .unset] [(.ref a66)] _
    exact kt
  refine own_st sg69 ?_
  obtain ⟨_, T70, L70, X70, hQ70, st70⟩ := own_callV (y := (⟨"com/example/cytowire/cytowire/astm/Frame", "isSound", "()Z"⟩ : MethodName)) (y0 := (⟨"com/example/cytowire/cytowire/astm/Frame", "isSound", "()Z"⟩ : MethodName)) (a := a66) (C := "com/example/cytowire/cytowire/astm/Frame") X68 hx hZ hown E68 (hw _ (List.mem_of_getElem? (i := 47) rfl)) (hw _ (List.mem_of_getElem? (i := 48) rfl)) (hw _ (List.mem_of_getElem? (i := 50) rfl)) (notFace_of_selects (args := #[]) (mvT hZ (hw _ (List.mem_of_getElem? (i := 50) rfl)))) (hw _ (List.mem_of_getElem? (i := 49) rfl)) (hw _ (List.mem_of_getElem? (i := 32) rfl)) (hw _ (List.mem_of_getElem? (i := 51) rfl)) (by decide) (own_rmisN l Z a0 hw a66 T68.heap n0 Z68 F68) rfl (g := (mkF m 168 #[iv xn, iv xt, iv xf, iv xd, rv a2, iv nd, iv ed, iv er, .val .null, iv oo, rv a66, .unset, .unset] [(.ref a66)])) rfl (by rw [hml]; rfl) (argsL := []) (rest := []) (lenOf own_pd6 rfl) rfl (W := 0) (by show 2 * 0 + _ ≤ _; exact Nat.le_of_eq rfl) (hb hby at_168) (by decide) (by decide) (by decide) (by decide)
  obtain ⟨rfl, Nq70, e70⟩ := hQ70
  refine own_st st70 ?_
  have N70 := Fr.app N68 Nq70
  show own_Go p e below _ T70 (mkF m 171 #[iv xn, iv xt, iv xf, iv xd, rv a2, iv nd, iv ed, iv er, .val .null, iv oo, rv a66, .unset, .unset] [(.int (1 : Int32))])
  have sg71 : own_V p e below T70 (mkF m 175 #[iv xn, iv xt, iv xf, iv xd, rv a2, iv nd, iv ed, iv er, .val .null, iv oo, rv a66, iv (1 : Int32), .unset] [(.ref a66)]) (mkF m 171 #[iv xn, iv xt, iv xf, iv xd, rv a2, iv nd, iv ed, iv er, .val .null, iv oo, rv a66, .unset, .unset] [(.int (1 : Int32))]) := by
    intro t kt
    refine XS.istore X70.here hx rfl (hb hby at_171) rfl (l' := #[iv xn, iv xt, iv xf, iv xd, rv a2, iv nd, iv ed, iv er, .val .null, iv oo, rv a66, iv (1 : Int32), .unset]) rfl ?_
    show own_S p e below T70 m 173 #[iv xn, iv xt, iv xf, iv xd, rv a2, iv nd, iv ed, iv er, .val .null, iv oo, rv a66, iv (1 : Int32), .unset] [] _
    refine XS.aload X70.here hx rfl (hb hby at_173) rfl rfl ?_
    show own_S p e below T70 m 175 #[iv xn, iv xt, iv xf, iv xd, rv a2, iv nd, iv ed, iv er, .val .null, iv oo, rv a66, iv (1 : Int32), .unset] [(.ref a66)] _
    exact kt
  refine own_st sg71 ?_
  obtain ⟨_, T72, L72, X72, hQ72, st72⟩ := own_callV (y := (⟨"com/example/cytowire/cytowire/astm/Frame", "defect", "()Ljava/lang/String;"⟩ : MethodName)) (y0 := (⟨"com/example/cytowire/cytowire/astm/Frame", "defect", "()Ljava/lang/String;"⟩ : MethodName)) (a := a66) (C := "com/example/cytowire/cytowire/astm/Frame") X70 hx hZ hown E68 (hw _ (List.mem_of_getElem? (i := 52) rfl)) (hw _ (List.mem_of_getElem? (i := 53) rfl)) (hw _ (List.mem_of_getElem? (i := 55) rfl)) (notFace_of_selects (args := #[]) (mvT hZ (hw _ (List.mem_of_getElem? (i := 55) rfl)))) (hw _ (List.mem_of_getElem? (i := 54) rfl)) (hw _ (List.mem_of_getElem? (i := 32) rfl)) (hw _ (List.mem_of_getElem? (i := 56) rfl)) (by decide) (own_rmdfN l Z a0 hw a66 T68.heap n0 Z68 F68) e70 (g := (mkF m 175 #[iv xn, iv xt, iv xf, iv xd, rv a2, iv nd, iv ed, iv er, .val .null, iv oo, rv a66, iv (1 : Int32), .unset] [(.ref a66)])) rfl (by rw [hml]; rfl) (argsL := []) (rest := []) (lenOf own_pd7 rfl) rfl (W := 0) (by show 2 * 0 + _ ≤ _; exact Nat.le_of_eq rfl) (hb hby at_175) (by decide) (by decide) (by decide) (by decide)
  obtain ⟨rfl, Nq72, e72⟩ := hQ72
  refine own_st st72 ?_
  have N72 := Fr.app N70 Nq72
  show own_Go p e below _ T72 (mkF m 178 #[iv xn, iv xt, iv xf, iv xd, rv a2, iv nd, iv ed, iv er, .val .null, iv oo, rv a66, iv (1 : Int32), .unset] [.null])
  have sg73 : own_V p e below T72 (mkF m 215 #[iv xn, iv xt, iv xf, iv xd, rv a2, iv nd, iv ed, iv er, .val .null, iv oo, rv a66, iv (1 : Int32), .val .null] [(.int (1 : Int32))]) (mkF m 178 #[iv xn, iv xt, iv xf, iv xd, rv a2, iv nd, iv ed, iv er, .val .null, iv oo, rv a66, iv (1 : Int32), .unset] [.null]) := by
    intro t kt
    refine XS.astore X72.here hx rfl (hb hby at_178) rfl rfl (l' := #[iv xn, iv xt, iv xf, iv xd, rv a2, iv nd, iv ed, iv er, .val .null, iv oo, rv a66, iv (1 : Int32), .val .null]) rfl ?_
    show own_S p e below T72 m 180 #[iv xn, iv xt, iv xf, iv xd, rv a2, iv nd, iv ed, iv er, .val .null, iv oo, rv a66, iv (1 : Int32), .val .null] [] _
    refine XS.iload X72.here hx rfl (hb hby at_180) rfl ?_
    show own_S p e below T72 m 182 #[iv xn, iv xt, iv xf, iv xd, rv a2, iv nd, iv ed, iv er, .val .null, iv oo, rv a66, iv (1 : Int32), .val .null] [(.int (1 : Int32))] _
    refine XS.aload X72.here hx rfl (hb hby at_182) rfl rfl ?_
    show own_S p e below T72 m 184 #[iv xn, iv xt, iv xf, iv xd, rv a2, iv nd, iv ed, iv er, .val .null, iv oo, rv a66, iv (1 : Int32), .val .null] [.null, (.int (1 : Int32))] _
    refine XS.ifnonnullNo X72.here hx rfl (hb hby at_184) rfl ?_
    show own_S p e below T72 m 187 #[iv xn, iv xt, iv xf, iv xd, rv a2, iv nd, iv ed, iv er, .val .null, iv oo, rv a66, iv (1 : Int32), .val .null] [(.int (1 : Int32))] _
    refine XS.iconst X72.here hx rfl (hb hby at_187) ?_
    show own_S p e below T72 m 188 #[iv xn, iv xt, iv xf, iv xd, rv a2, iv nd, iv ed, iv er, .val .null, iv oo, rv a66, iv (1 : Int32), .val .null] [(.int (1 : Int32)), (.int (1 : Int32))] _
    refine XS.goto X72.here hx rfl (pc0 := 188) (pc' := 192) rfl (hb hby at_188) (by decide) (by decide) ?_
    show own_S p e below T72 m 192 #[iv xn, iv xt, iv xf, iv xd, rv a2, iv nd, iv ed, iv er, .val .null, iv oo, rv a66, iv (1 : Int32), .val .null] [(.int (1 : Int32)), (.int (1 : Int32))] _
    refine XS.icmpNo X72.here hx rfl (hb hby at_192) rfl (teq (by decide : (1 : Int32) = (1 : Int32))).2 ?_
    show own_S p e below T72 m 195 #[iv xn, iv xt, iv xf, iv xd, rv a2, iv nd, iv ed, iv er, .val .null, iv oo, rv a66, iv (1 : Int32), .val .null] [] _
    refine XS.iload X72.here hx rfl (hb hby at_195) rfl ?_
    show own_S p e below T72 m 197 #[iv xn, iv xt, iv xf, iv xd, rv a2, iv nd, iv ed, iv er, .val .null, iv oo, rv a66, iv (1 : Int32), .val .null] [(.int (1 : Int32))] _
    refine XS.aload X72.here hx rfl (hb hby at_197) rfl rfl ?_
    show own_S p e below T72 m 199 #[iv xn, iv xt, iv xf, iv xd, rv a2, iv nd, iv ed, iv er, .val .null, iv oo, rv a66, iv (1 : Int32), .val .null] [.null, (.int (1 : Int32))] _
    refine XS.ifnonnullNo X72.here hx rfl (hb hby at_199) rfl ?_
    show own_S p e below T72 m 202 #[iv xn, iv xt, iv xf, iv xd, rv a2, iv nd, iv ed, iv er, .val .null, iv oo, rv a66, iv (1 : Int32), .val .null] [(.int (1 : Int32))] _
    refine XS.iconst X72.here hx rfl (hb hby at_202) ?_
    show own_S p e below T72 m 203 #[iv xn, iv xt, iv xf, iv xd, rv a2, iv nd, iv ed, iv er, .val .null, iv oo, rv a66, iv (1 : Int32), .val .null] [(.int (1 : Int32)), (.int (1 : Int32))] _
    refine XS.goto X72.here hx rfl (pc0 := 203) (pc' := 207) rfl (hb hby at_203) (by decide) (by decide) ?_
    show own_S p e below T72 m 207 #[iv xn, iv xt, iv xf, iv xd, rv a2, iv nd, iv ed, iv er, .val .null, iv oo, rv a66, iv (1 : Int32), .val .null] [(.int (1 : Int32)), (.int (1 : Int32))] _
    refine XS.icmpNo X72.here hx rfl (hb hby at_207) rfl (teq (by decide : (1 : Int32) = (1 : Int32))).2 ?_
    show own_S p e below T72 m 210 #[iv xn, iv xt, iv xf, iv xd, rv a2, iv nd, iv ed, iv er, .val .null, iv oo, rv a66, iv (1 : Int32), .val .null] [] _
    refine XS.iconst X72.here hx rfl (hb hby at_210) ?_
    show own_S p e below T72 m 211 #[iv xn, iv xt, iv xf, iv xd, rv a2, iv nd, iv ed, iv er, .val .null, iv oo, rv a66, iv (1 : Int32), .val .null] [(.int (1 : Int32))] _
    refine XS.goto X72.here hx rfl (pc0 := 211) (pc' := 215) rfl (hb hby at_211) (by decide) (by decide) ?_
    show own_S p e below T72 m 215 #[iv xn, iv xt, iv xf, iv xd, rv a2, iv nd, iv ed, iv er, .val .null, iv oo, rv a66, iv (1 : Int32), .val .null] [(.int (1 : Int32))] _
    exact kt
  refine own_st sg73 ?_
  exact own_retZJ (s := s) (vm1 := s.vm) X72 hx ((State.WarmedH.refl s).since 0) kk68 Bd.notSynchronized Bd.returns (hb hby at_215) (by decide) (by decide) (by decide) e72 ⟨rfl, N72⟩
set_option maxRecDepth 65536 in
set_option maxHeartbeats 40000000 in
theorem comes_1 {Post : Tables → Env → Array Value → State → Outcome → State → Prop} (hpost : ∀ tb e args s v u, (limb_1_1.after args s (.returned v) u = true ∧ limb_1_2.after args s (.returned v) u = true ∧ True) → ReturnedEndW s (.returned v) u (Jvm.fieldLocs frame_1_writes args s ++ Jvm.arrayLocs frame_1_arrays args s ++ Jvm.staticLocs frame_1_statics s) 24 1152 → Post tb e args s (.returned v) u) :
    ArmFor flags0 classFile x code maxLocals ret World_1 tables_1 room_1 Calls_1 rest_1 Pre_1 Post := by
  intro l hfl _ _ p e ha hc hk s m args below hf hA hF happ hP
  obtain ⟨hcalls, hrest, hpre⟩ := hP
  obtain ⟨-, -, -, hnamed, -, -, -, hat⟩ := (Spec.applies_iff hf).mp happ
  obtain ⟨hg, hn⟩ := and_e (Cond.before_iff.mp (show (Jvm.Cond.and given_1 narrow_1).before args s = true from hpre))
  obtain ⟨g1, g2⟩ := and_e hg
  obtain ⟨g3, g4⟩ := and_e g2
  obtain ⟨g5, g6⟩ := and_e g4
  obtain ⟨g7, g8⟩ := and_e g6
  obtain ⟨w0, w1, w2, w3, rfl⟩ : ∃ w0 w1 w2 w3 : Value, args = #[w0, w1, w2, w3] := by
    have hs : args.size = 4 := by simpa [Cond.value, given_1] using g1
    obtain ⟨L⟩ := args
    match L, hs with
    | [w0, w1, w2, w3], _ => exact ⟨w0, w1, w2, w3, rfl⟩
  have hw := fun d (hd : d ∈ tables_1) => atoms_spec (ws := Jvm.Cond.code x code maxLocals ret :: tables_1) hat d (List.mem_cons_of_mem _ hd)
  have hfit : Fit s := fun {y c} hc i hi => by
    obtain ⟨ha, rfl⟩ := Array.getElem?_eq_some_iff.mp hc
    have q := List.all_eq_true.mp ((Array.all_eq_true_iff_forall_mem.mp hF) _ (Array.getElem_mem ha)) i (List.mem_range.mpr hi)
    simpa [Array.getElem?_eq_getElem hi] using q
  obtain ⟨hsets, hown0⟩ := atoms_of _ (rest_1_c_eq ▸ (show rest_1_c.before _ s = true from hrest))
  have hr0 := Cond.before_iff.mp hown0
  obtain ⟨i0, ei0⟩ := is_v g3
  obtain rfl : w0 = (.int i0) := Option.some.inj ei0
  obtain ⟨i1, ei1⟩ := is_v g5
  obtain rfl : w1 = (.int i1) := Option.some.inj ei1
  obtain ⟨i2, ei2⟩ := is_v g7
  obtain rfl : w2 = (.int i2) := Option.some.inj ei2
  obtain ⟨i3, ei3⟩ := is_v g8
  obtain rfl : w3 = (.int i3) := Option.some.inj ei3
  have ss1 := Cond.before_iff.mp (hsets _ (List.mem_of_getElem? (i := 1) rfl))
  obtain ⟨cc, ecc⟩ := is_v ss1
  have SC := Sta.start ecc (Or.inl (hsets _ (List.mem_of_getElem? (i := 0) rfl)))
  have hcw : Jvm.Lit.compactW.before _ s = true := hsets _ (List.mem_of_getElem? (i := 2) rfl)
  have hcc : ¬ cc = 0 := fun z => by
    have q := not_v (Cond.before_iff.mp hcw)
    rw [Cond.eq_ints ecc (Term.int_eval 0)] at q
    simp [z] at q
  have hh : Jvm.Lit.constHeld s "java/lang/String" 7 := hcalls.1 _ (List.mem_of_getElem? (i := 0) rfl)
  obtain ⟨n, o, h1, h2, h3, _, L, rfl, ⟨rfl, N⟩, hq⟩ := own_rmlaw l s _ hw i0 i1 i2 i3 cc s.heap s.heap.size (Nat.le_refl _) SC hcc rfl hh hcw p e ha hc hk s m _ below hf ((Spec.applies_iff_loose hf).mp happ).1 ⟨rfl, State.Warmed39.refl s, rfl, rfl⟩ trivial
  refine ⟨n, _, h1, h2, h3, hpost _ _ _ _ _ _ ⟨Cond.after_iff.mpr rfl, Cond.after_iff.mpr (eq_i res_at (Term.int_eval (1)) rfl), trivial⟩ ⟨hq.1, hq.2.1, hq.2.2.1, (hq.2.2.2.sift fun y hy => Or.inr (N y hy)).mono (by decide) (by decide)⟩⟩
theorem main_1_1 : Claimed_1_1 := comes_1 fun _ _ _ _ _ _ h hF => ⟨h.1, hF⟩
theorem main_1_2 : Claimed_1_2 := comes_1 fun _ _ _ _ _ _ h hF => ⟨h.2.1, hF⟩
end Jvm.Pilot.@@N@@
namespace Jvm.Pilot.@@N@@
open Jvm Jvm.ClassFile Sem Op Lib Jvm.Free Jvm.Stand Jvm.Pilot.@@N@@.Jvm.D
/-! MADE BY PROGRAM (witnessworld.py) out of the Statement's table words and the real class files: 21 classes; the members and pool entries that the words name. The judged class is class 1, her method 1. -/
namespace start1
open Jvm.ClassFile
def u (s : String) : CpInfo := .utf8 (stringToUtf16 s)
/-- a pool by its gaps: so many unusable entries, then the entry; so many at the end -/
def gap : Nat → List CpInfo → List CpInfo
  | 0, r => r
  | n + 1, r => .unusable :: gap n r
def poolList (es : List (Nat × CpInfo)) (last : Nat) : List CpInfo := es.foldr (fun e r => gap e.1 (e.2 :: r)) (gap last [])
def pool (es : List (Nat × CpInfo)) (last : Nat) : Array CpInfo := ⟨poolList es last⟩
def fileOf (pool : Array CpInfo) (this : Nat) (attrs : Array Attribute := #[]) (ms : Array MethodInfo := #[]) (fl : Nat := 33) (sup : Nat := 0) (ifs : Array Nat := #[]) (fds : Array FieldInfo := #[]) : ClassFile where
  minorVersion := 0
  majorVersion := 65
  constantPool := pool
  accessFlags := fl
  thisClass := this
  superClass := sup
  interfaces := ifs
  fields := fds
  methods := ms
  attributes := attrs
def plain (name : String) (sup : Option ClassId) : Class where
  name := name
  kind := .ordinary
  loader := none
  accessFlags := 33
  super := sup
  interfaces := #[]
  cf := none
  fields := #[]
  methods := #[]
  instanceTypes := #[]
  staticTypes := #[]
  resolved := #[]
  callSites := []
  init := .initialized
  statics := none
  mirror := none

def pool0 : Array CpInfo := pool [(5, u "<init>"), (0, u "()V"), (1, .class_ 10), (1, u "java/lang/Object")] 113

def k0c0 : Code := { maxStack := 0, maxLocals := 1, code := object_method_1_code, exceptionTable := #[], attributes := #[] }
def k0m0 : Method := { name := "<init>", desc := "()V", sig := { parameters := [], returnType := none }, accessFlags := 1, code := some k0c0 }
/-- java/lang/Object -/
def k0 : Class := { plain "java/lang/Object" none with
  accessFlags := 33
  interfaces := #[]
  cf := some (fileOf pool0 8 #[] #[{ accessFlags := 1, nameIndex := 5, descriptorIndex := 6, attributes := #[] }] 33 0 #[] #[])
  fields := #[]
  methods := #[k0m0]
  instanceTypes := #[]
  staticTypes := #[]
  resolved := Array.replicate 124 none
  statics := none }

def pool1 : Array CpInfo := pool [(2, .class_ 4), (1, u "java/lang/Object"), (0, u "<init>"), (0, u "()V"), (0, .class_ 8), (0, u "java/lang/String"), (0, .methodref 7 10), (0, .nameAndType 5 11), (0, u "([C)V"), (0, .class_ 13), (0, u "com/example/cytowire/cytowire/astm/Frame"), (0, .methodref 12 15), (0, .nameAndType 5 16), (0, u "(I[BZLjava/lang/String;Z)V"), (0, .methodref 12 18), (0, .nameAndType 19 20), (0, u "isSound"), (0, u "()Z"), (0, .methodref 12 22), (0, .nameAndType 23 24), (0, u "defect"), (0, u "()Ljava/lang/String;"), (0, .class_ 26), (0, u "com/example/cytowire/cytowire/astm/FrameIsSoundPinLaw"), (2, u "law"), (0, u "(IIII)Z")] 5

def k1m0 : Method := { name := "<init>", desc := "()V", sig := { parameters := [], returnType := none }, accessFlags := 1, code := none }
def k1c1 : Code := { maxStack := 7, maxLocals := 13, code := code, exceptionTable := #[], attributes := #[] }
def k1m1 : Method := { name := "law", desc := "(IIII)Z", sig := { parameters := [.int, .int, .int, .int], returnType := some .boolean }, accessFlags := 9, code := some k1c1 }
/-- com/example/cytowire/cytowire/astm/FrameIsSoundPinLaw -/
def k1 : Class := { plain "com/example/cytowire/cytowire/astm/FrameIsSoundPinLaw" (some 0) with
  accessFlags := 49
  interfaces := #[]
  cf := some (fileOf pool1 25 #[] #[{ accessFlags := 1, nameIndex := 5, descriptorIndex := 6, attributes := #[] }, { accessFlags := 9, nameIndex := 29, descriptorIndex := 30, attributes := #[] }] 49 2 #[] #[])
  fields := #[]
  methods := #[k1m0, k1m1]
  instanceTypes := #[]
  staticTypes := #[]
  resolved := Array.replicate 36 none
  statics := none }

def pool2 : Array CpInfo := pool [(1, .class_ 2), (0, u "java/io/Serializable"), (0, .class_ 4), (0, u "java/lang/Object")] 2

/-- java/io/Serializable -/
def k2 : Class := { plain "java/io/Serializable" (some 0) with
  accessFlags := 1537
  interfaces := #[]
  cf := some (fileOf pool2 1 #[] #[] 1537 3 #[] #[])
  fields := #[]
  methods := #[]
  instanceTypes := #[]
  staticTypes := #[]
  resolved := Array.replicate 7 none
  statics := none }

def pool3 : Array CpInfo := pool [(1, .class_ 2), (0, u "java/lang/Comparable"), (0, .class_ 4), (0, u "java/lang/Object")] 7

/-- java/lang/Comparable -/
def k3 : Class := { plain "java/lang/Comparable" (some 0) with
  accessFlags := 1537
  interfaces := #[]
  cf := some (fileOf pool3 1 #[] #[] 1537 3 #[] #[])
  fields := #[]
  methods := #[]
  instanceTypes := #[]
  staticTypes := #[]
  resolved := Array.replicate 12 none
  statics := none }

def pool4 : Array CpInfo := pool [(2, .class_ 4), (1, u "java/lang/CharSequence"), (42, .class_ 48), (0, u "java/lang/CharSequence$1CodePointIterator"), (10, .class_ 60), (0, u "java/lang/CharSequence$1CharIterator"), (5, .class_ 67), (0, u "java/lang/Object")] 63

/-- java/lang/CharSequence -/
def k4 : Class := { plain "java/lang/CharSequence" (some 0) with
  accessFlags := 1537
  interfaces := #[]
  cf := some (fileOf pool4 2 #[.nestMembers #[47, 59]] #[] 1537 66 #[] #[])
  fields := #[]
  methods := #[]
  instanceTypes := #[]
  staticTypes := #[]
  resolved := Array.replicate 131 none
  statics := none }

def pool5 : Array CpInfo := pool [(1, .class_ 2), (0, u "java/lang/constant/Constable"), (0, .class_ 4), (0, u "java/lang/Object")] 6

/-- java/lang/constant/Constable -/
def k5 : Class := { plain "java/lang/constant/Constable" (some 0) with
  accessFlags := 1537
  interfaces := #[]
  cf := some (fileOf pool5 1 #[] #[] 1537 3 #[] #[])
  fields := #[]
  methods := #[]
  instanceTypes := #[]
  staticTypes := #[]
  resolved := Array.replicate 11 none
  statics := none }

def pool6 : Array CpInfo := pool [(1, .class_ 2), (0, u "java/lang/constant/ConstantDesc"), (0, .class_ 4), (0, u "java/lang/Object")] 32

/-- java/lang/constant/ConstantDesc -/
def k6 : Class := { plain "java/lang/constant/ConstantDesc" (some 0) with
  accessFlags := 1537
  interfaces := #[]
  cf := some (fileOf pool6 1 #[] #[] 1537 3 #[] #[])
  fields := #[]
  methods := #[]
  instanceTypes := #[]
  staticTypes := #[]
  resolved := Array.replicate 37 none
  statics := none }

def pool7 : Array CpInfo := pool [(1, .methodref 2 3), (0, .class_ 4), (0, .nameAndType 5 6), (0, u "java/lang/Object"), (0, u "<init>"), (0, u "()V"), (0, .string 8), (0, u ""), (0, .fieldref 10 11), (0, .class_ 12), (0, .nameAndType 13 14), (0, u "java/lang/String"), (0, u "value"), (0, u "[B"), (0, .fieldref 10 16), (0, .nameAndType 17 18), (0, u "coder"), (0, u "B"), (2, u "hash"), (0, u "I"), (2, u "hashIsZero"), (0, u "Z"), (0, .methodref 10 28), (0, .nameAndType 5 29), (0, u "([CIILjava/lang/Void;)V"), (8, .fieldref 10 39), (0, .nameAndType 40 26), (0, u "COMPACT_STRINGS"), (1, .class_ 44), (1, u "java/lang/StringUTF16"), (0, u "compress"), (1, .methodref 42 48), (0, .nameAndType 49 50), (0, u "coderFromArrayLen"), (0, u "([BI)B"), (126, .methodref 42 178), (0, .nameAndType 45 179), (0, u "([CII)[B"), (395, .class_ 576), (0, u "java/lang/CharSequence"), (22, u "CASE_INSENSITIVE_ORDER"), (0, u "Ljava/util/Comparator;"), (409, u "([C)V"), (90, u "serialPersistentFields"), (0, u "[Ljava/io/ObjectStreamField;"), (0, .class_ 1104), (0, u "java/lang/String$CaseInsensitiveComparator"), (1, .class_ 1107), (0, u "java/io/Serializable"), (0, .class_ 1109), (0, u "java/lang/Comparable"), (0, .class_ 1111), (0, u "java/lang/constant/Constable"), (0, .class_ 1113), (0, u "java/lang/constant/ConstantDesc"), (2, u "serialVersionUID"), (0, u "J"), (3, u "REPL"), (0, u "C"), (2, u "LATIN1"), (1, u "UTF16")] 323

def k7m0 : Method := { name := "<init>", desc := "()V", sig := { parameters := [], returnType := none }, accessFlags := 1, code := none }
def k7c1 : Code := { maxStack := 5, maxLocals := 2, code := jdk_42_method_3_code, exceptionTable := #[], attributes := #[] }
def k7m1 : Method := { name := "<init>", desc := "([C)V", sig := { parameters := [(.array .char)], returnType := none }, accessFlags := 1, code := some k7c1 }
def k7c2 : Code := { maxStack := 4, maxLocals := 6, code := jdk_42_method_149_code, exceptionTable := #[], attributes := #[] }
def k7m2 : Method := { name := "<init>", desc := "([CIILjava/lang/Void;)V", sig := { parameters := [(.array .char), .int, .int, (.object "java/lang/Void")], returnType := none }, accessFlags := 2, code := some k7c2 }
/-- java/lang/String -/
def k7 : Class := { plain "java/lang/String" (some 0) with
  accessFlags := 49
  interfaces := #[2, 3, 4, 5, 6]
  cf := some (fileOf pool7 10 #[.nestMembers #[1103]] #[{ accessFlags := 1, nameIndex := 5, descriptorIndex := 6, attributes := #[] }, { accessFlags := 1, nameIndex := 5, descriptorIndex := 1010, attributes := #[] }, { accessFlags := 2, nameIndex := 5, descriptorIndex := 29, attributes := #[] }] 49 2 #[1106, 1108, 575, 1110, 1112] #[{ accessFlags := 18, nameIndex := 13, descriptorIndex := 14, attributes := #[] }, { accessFlags := 18, nameIndex := 17, descriptorIndex := 18, attributes := #[] }, { accessFlags := 2, nameIndex := 21, descriptorIndex := 22, attributes := #[] }, { accessFlags := 2, nameIndex := 25, descriptorIndex := 26, attributes := #[] }, { accessFlags := 26, nameIndex := 1116, descriptorIndex := 1117, attributes := #[] }, { accessFlags := 24, nameIndex := 40, descriptorIndex := 26, attributes := #[] }, { accessFlags := 26, nameIndex := 1101, descriptorIndex := 1102, attributes := #[] }, { accessFlags := 26, nameIndex := 1121, descriptorIndex := 1122, attributes := #[] }, { accessFlags := 25, nameIndex := 599, descriptorIndex := 600, attributes := #[] }, { accessFlags := 24, nameIndex := 1125, descriptorIndex := 18, attributes := #[] }, { accessFlags := 24, nameIndex := 1127, descriptorIndex := 18, attributes := #[] }])
  fields := #[{ name := "value", type := (.array .byte), accessFlags := 18, slot := 0, constantValue := 0 }, { name := "coder", type := .byte, accessFlags := 18, slot := 1, constantValue := 0 }, { name := "hash", type := .int, accessFlags := 2, slot := 2, constantValue := 0 }, { name := "hashIsZero", type := .boolean, accessFlags := 2, slot := 3, constantValue := 0 }, { name := "serialVersionUID", type := .long, accessFlags := 26, slot := 0, constantValue := 0 }, { name := "COMPACT_STRINGS", type := .boolean, accessFlags := 24, slot := 1, constantValue := 0 }, { name := "serialPersistentFields", type := (.array (.object "java/io/ObjectStreamField")), accessFlags := 26, slot := 2, constantValue := 0 }, { name := "REPL", type := .char, accessFlags := 26, slot := 3, constantValue := 0 }, { name := "CASE_INSENSITIVE_ORDER", type := (.object "java/util/Comparator"), accessFlags := 25, slot := 4, constantValue := 0 }, { name := "LATIN1", type := .byte, accessFlags := 24, slot := 5, constantValue := 0 }, { name := "UTF16", type := .byte, accessFlags := 24, slot := 6, constantValue := 0 }]
  methods := #[k7m0, k7m1, k7m2]
  instanceTypes := #[(.array .byte), .byte, .int, .boolean]
  staticTypes := #[.long, .boolean, (.array (.object "java/io/ObjectStreamField")), .char, (.object "java/util/Comparator"), .byte, .byte]
  resolved := Array.replicate 1451 none
  statics := some 0 }

def pool8 : Array CpInfo := pool [(6, .class_ 8), (1, u "java/lang/Object"), (0, u "<init>"), (0, u "()V"), (1, .class_ 14), (1, u "java/lang/StringUTF16"), (31, u "$assertionsDisabled"), (0, u "Z"), (13, u "HI_BYTE_SHIFT"), (0, u "I"), (2, u "LO_BYTE_SHIFT"), (49, .methodref 12 116), (0, .nameAndType 117 118), (0, u "compress"), (0, u "([CI[BII)I"), (3, u "([CII)[B"), (138, u "coderFromArrayLen"), (0, u "([BI)B"), (106, .class_ 371), (1, u "java/lang/StringUTF16$LinesSpliterator"), (58, u "MAX_LENGTH"), (196, .class_ 628), (0, u "java/lang/StringUTF16$CodePointsSpliterator"), (0, .class_ 630), (0, u "java/lang/StringUTF16$CharsSpliterator")] 4

def k8m0 : Method := { name := "<init>", desc := "()V", sig := { parameters := [], returnType := none }, accessFlags := 0, code := none }
def k8c1 : Code := { maxStack := 2, maxLocals := 2, code := jdk_52_method_15_code, exceptionTable := #[], attributes := #[] }
def k8m1 : Method := { name := "coderFromArrayLen", desc := "([BI)B", sig := { parameters := [(.array .byte), .int], returnType := some .byte }, accessFlags := 8, code := some k8c1 }
def k8c2 : Code := { maxStack := 5, maxLocals := 6, code := jdk_52_method_16_code, exceptionTable := #[], attributes := #[] }
def k8m2 : Method := { name := "compress", desc := "([CII)[B", sig := { parameters := [(.array .char), .int, .int], returnType := some (.array .byte) }, accessFlags := 9, code := some k8c2 }
def k8c3 : Code := { maxStack := 3, maxLocals := 7, code := jdk_52_method_21_code, exceptionTable := #[], attributes := #[] }
def k8m3 : Method := { name := "compress", desc := "([CI[BII)I", sig := { parameters := [(.array .char), .int, (.array .byte), .int, .int], returnType := some .int }, accessFlags := 9, code := some k8c3 }
/-- java/lang/StringUTF16 -/
def k8 : Class := { plain "java/lang/StringUTF16" (some 0) with
  accessFlags := 48
  interfaces := #[]
  cf := some (fileOf pool8 12 #[.nestMembers #[627, 629, 369]] #[{ accessFlags := 0, nameIndex := 9, descriptorIndex := 10, attributes := #[] }, { accessFlags := 8, nameIndex := 261, descriptorIndex := 262, attributes := #[] }, { accessFlags := 9, nameIndex := 117, descriptorIndex := 122, attributes := #[] }, { accessFlags := 9, nameIndex := 117, descriptorIndex := 118, attributes := #[] }] 48 6 #[] #[{ accessFlags := 26, nameIndex := 61, descriptorIndex := 62, attributes := #[] }, { accessFlags := 26, nameIndex := 65, descriptorIndex := 62, attributes := #[] }, { accessFlags := 24, nameIndex := 430, descriptorIndex := 62, attributes := #[] }, { accessFlags := 4120, nameIndex := 46, descriptorIndex := 47, attributes := #[] }])
  fields := #[{ name := "HI_BYTE_SHIFT", type := .int, accessFlags := 26, slot := 0, constantValue := 0 }, { name := "LO_BYTE_SHIFT", type := .int, accessFlags := 26, slot := 1, constantValue := 0 }, { name := "MAX_LENGTH", type := .int, accessFlags := 24, slot := 2, constantValue := 0 }, { name := "$assertionsDisabled", type := .boolean, accessFlags := 4120, slot := 3, constantValue := 0 }]
  methods := #[k8m0, k8m1, k8m2, k8m3]
  instanceTypes := #[]
  staticTypes := #[.int, .int, .int, .boolean]
  resolved := Array.replicate 635 none
  statics := none }

def pool9 : Array CpInfo := pool [(1, .class_ 2), (0, u "com/example/cytowire/cytowire/astm/LineEvent"), (0, .class_ 4), (0, u "java/lang/Object"), (3, .class_ 9), (0, u "com/example/cytowire/cytowire/astm/LineEvent$Control")] 5

/-- com/example/cytowire/cytowire/astm/LineEvent -/
def k9 : Class := { plain "com/example/cytowire/cytowire/astm/LineEvent" (some 0) with
  accessFlags := 1537
  interfaces := #[]
  cf := some (fileOf pool9 1 #[.nestMembers #[8]] #[] 1537 3 #[] #[])
  fields := #[]
  methods := #[]
  instanceTypes := #[]
  staticTypes := #[]
  resolved := Array.replicate 15 none
  statics := none }

def pool10 : Array CpInfo := pool [(1, .methodref 2 3), (0, .class_ 4), (0, .nameAndType 5 6), (0, u "java/lang/Object"), (0, u "<init>"), (0, u "()V"), (0, .fieldref 8 9), (0, .class_ 10), (0, .nameAndType 11 12), (0, u "com/example/cytowire/cytowire/astm/Frame"), (0, u "number"), (0, u "I"), (0, .fieldref 8 14), (0, .nameAndType 15 16), (0, u "text"), (0, u "[B"), (0, .fieldref 8 18), (0, .nameAndType 19 20), (0, u "endsRecord"), (0, u "Z"), (0, .fieldref 8 22), (0, .nameAndType 23 24), (0, u "defect"), (0, u "Ljava/lang/String;"), (0, .fieldref 8 26), (0, .nameAndType 27 20), (0, u "outOfRoom"), (43, u "isSound"), (0, u "()Z"), (9, .class_ 83), (0, u "com/example/cytowire/cytowire/astm/LineEvent"), (0, u "NO_NUMBER"), (2, u "FIRST_NUMBER"), (1, u "NUMBERS"), (1, u "(I[BZLjava/lang/String;Z)V"), (10, u "()Ljava/lang/String;")] 23

def k10c0 : Code := { maxStack := 2, maxLocals := 6, code := prog_14_method_1_code, exceptionTable := #[], attributes := #[] }
def k10m0 : Method := { name := "<init>", desc := "(I[BZLjava/lang/String;Z)V", sig := { parameters := [.int, (.array .byte), .boolean, (.object "java/lang/String"), .boolean], returnType := none }, accessFlags := 0, code := some k10c0 }
def k10c1 : Code := { maxStack := 1, maxLocals := 1, code := prog_14_method_9_code, exceptionTable := #[], attributes := #[] }
def k10m1 : Method := { name := "isSound", desc := "()Z", sig := { parameters := [], returnType := some .boolean }, accessFlags := 1, code := some k10c1 }
def k10c2 : Code := { maxStack := 1, maxLocals := 1, code := prog_14_method_10_code, exceptionTable := #[], attributes := #[] }
def k10m2 : Method := { name := "defect", desc := "()Ljava/lang/String;", sig := { parameters := [], returnType := some (.object "java/lang/String") }, accessFlags := 1, code := some k10c2 }
/-- com/example/cytowire/cytowire/astm/Frame -/
def k10 : Class := { plain "com/example/cytowire/cytowire/astm/Frame" (some 0) with
  accessFlags := 49
  interfaces := #[9]
  cf := some (fileOf pool10 8 #[] #[{ accessFlags := 0, nameIndex := 5, descriptorIndex := 91, attributes := #[] }, { accessFlags := 1, nameIndex := 71, descriptorIndex := 72, attributes := #[] }, { accessFlags := 1, nameIndex := 23, descriptorIndex := 102, attributes := #[] }] 49 2 #[82] #[{ accessFlags := 25, nameIndex := 84, descriptorIndex := 12, attributes := #[] }, { accessFlags := 24, nameIndex := 87, descriptorIndex := 12, attributes := #[] }, { accessFlags := 26, nameIndex := 89, descriptorIndex := 12, attributes := #[] }, { accessFlags := 18, nameIndex := 11, descriptorIndex := 12, attributes := #[] }, { accessFlags := 18, nameIndex := 15, descriptorIndex := 16, attributes := #[] }, { accessFlags := 18, nameIndex := 19, descriptorIndex := 20, attributes := #[] }, { accessFlags := 18, nameIndex := 23, descriptorIndex := 24, attributes := #[] }, { accessFlags := 18, nameIndex := 27, descriptorIndex := 20, attributes := #[] }])
  fields := #[{ name := "NO_NUMBER", type := .int, accessFlags := 25, slot := 0, constantValue := 0 }, { name := "FIRST_NUMBER", type := .int, accessFlags := 24, slot := 1, constantValue := 0 }, { name := "NUMBERS", type := .int, accessFlags := 26, slot := 2, constantValue := 0 }, { name := "number", type := .int, accessFlags := 18, slot := 0, constantValue := 0 }, { name := "text", type := (.array .byte), accessFlags := 18, slot := 1, constantValue := 0 }, { name := "endsRecord", type := .boolean, accessFlags := 18, slot := 2, constantValue := 0 }, { name := "defect", type := (.object "java/lang/String"), accessFlags := 18, slot := 3, constantValue := 0 }, { name := "outOfRoom", type := .boolean, accessFlags := 18, slot := 4, constantValue := 0 }]
  methods := #[k10m0, k10m1, k10m2]
  instanceTypes := #[.int, (.array .byte), .boolean, (.object "java/lang/String"), .boolean]
  staticTypes := #[.int, .int, .int]
  resolved := Array.replicate 126 none
  statics := none }

def pool11 : Array CpInfo := pool [(4, .class_ 6), (1, u "java/lang/Object"), (0, u "<init>"), (0, u "()V"), (5, .class_ 16), (1, u "java/lang/StringLatin1"), (104, u "$assertionsDisabled"), (0, u "Z"), (98, .class_ 223), (1, u "java/lang/StringLatin1$LinesSpliterator"), (166, .class_ 391), (0, u "java/lang/StringLatin1$CharsSpliterator")] 3

def k11m0 : Method := { name := "<init>", desc := "()V", sig := { parameters := [], returnType := none }, accessFlags := 0, code := none }
/-- java/lang/StringLatin1 -/
def k11 : Class := { plain "java/lang/StringLatin1" (some 0) with
  accessFlags := 48
  interfaces := #[]
  cf := some (fileOf pool11 14 #[.nestMembers #[390, 221]] #[{ accessFlags := 0, nameIndex := 7, descriptorIndex := 8, attributes := #[] }] 48 4 #[] #[{ accessFlags := 4120, nameIndex := 121, descriptorIndex := 122, attributes := #[] }])
  fields := #[{ name := "$assertionsDisabled", type := .boolean, accessFlags := 4120, slot := 0, constantValue := 0 }]
  methods := #[k11m0]
  instanceTypes := #[]
  staticTypes := #[.boolean]
  resolved := Array.replicate 395 none
  statics := none }

def pool12 : Array CpInfo := pool [(2, .class_ 4), (1, u "java/lang/Object"), (0, u "<init>"), (0, u "()V"), (17, .class_ 26), (1, u "jdk/internal/util/Preconditions"), (28, .class_ 56), (0, u "jdk/internal/util/Preconditions$4"), (57, .class_ 115), (0, u "jdk/internal/util/Preconditions$1"), (7, u "SIOOBE_FORMATTER"), (0, u "Ljava/util/function/BiFunction;"), (0, .class_ 126), (0, u "jdk/internal/util/Preconditions$2"), (3, u "AIOOBE_FORMATTER"), (0, .class_ 132), (0, u "jdk/internal/util/Preconditions$3"), (3, u "IOOBE_FORMATTER")] 57

def k12m0 : Method := { name := "<init>", desc := "()V", sig := { parameters := [], returnType := none }, accessFlags := 1, code := none }
/-- jdk/internal/util/Preconditions -/
def k12 : Class := { plain "jdk/internal/util/Preconditions" (some 0) with
  accessFlags := 33
  interfaces := #[]
  cf := some (fileOf pool12 24 #[.nestMembers #[55, 131, 125, 114]] #[{ accessFlags := 1, nameIndex := 5, descriptorIndex := 6, attributes := #[] }] 33 2 #[] #[{ accessFlags := 25, nameIndex := 123, descriptorIndex := 124, attributes := #[] }, { accessFlags := 25, nameIndex := 130, descriptorIndex := 124, attributes := #[] }, { accessFlags := 25, nameIndex := 136, descriptorIndex := 124, attributes := #[] }])
  fields := #[{ name := "SIOOBE_FORMATTER", type := (.object "java/util/function/BiFunction"), accessFlags := 25, slot := 0, constantValue := 0 }, { name := "AIOOBE_FORMATTER", type := (.object "java/util/function/BiFunction"), accessFlags := 25, slot := 1, constantValue := 0 }, { name := "IOOBE_FORMATTER", type := (.object "java/util/function/BiFunction"), accessFlags := 25, slot := 2, constantValue := 0 }]
  methods := #[k12m0]
  instanceTypes := #[]
  staticTypes := #[(.object "java/util/function/BiFunction"), (.object "java/util/function/BiFunction"), (.object "java/util/function/BiFunction")]
  resolved := Array.replicate 194 none
  statics := some 1 }

def pool13 : Array CpInfo := pool [(9, u "<init>"), (6, .class_ 18), (1, u "java/lang/Object"), (0, u "()V"), (1, .class_ 23), (1, u "jdk/internal/util/ArraysSupport"), (0, u "LOG2_ARRAY_LONG_INDEX_SCALE"), (0, u "I"), (2, u "U"), (0, u "Ljdk/internal/misc/Unsafe;"), (8, u "BIG_ENDIAN"), (0, u "Z"), (8, u "LOG2_BYTE_BIT_SIZE"), (4, u "LOG2_ARRAY_INT_INDEX_SCALE"), (54, u "JLA"), (0, u "Ljdk/internal/access/JavaLangAccess;"), (11, u "LOG2_ARRAY_BOOLEAN_INDEX_SCALE"), (9, u "LOG2_ARRAY_BYTE_INDEX_SCALE"), (5, u "LOG2_ARRAY_CHAR_INDEX_SCALE"), (5, u "LOG2_ARRAY_SHORT_INDEX_SCALE"), (18, u "LOG2_ARRAY_FLOAT_INDEX_SCALE"), (24, u "LOG2_ARRAY_DOUBLE_INDEX_SCALE"), (89, u "T_BOOLEAN"), (2, u "T_CHAR"), (1, u "T_FLOAT"), (1, u "T_DOUBLE"), (1, u "T_BYTE"), (1, u "T_SHORT"), (1, u "T_INT"), (1, u "T_LONG"), (1, u "SOFT_MAX_ARRAY_LENGTH")] 83

def k13m0 : Method := { name := "<init>", desc := "()V", sig := { parameters := [], returnType := none }, accessFlags := 2, code := none }
/-- jdk/internal/util/ArraysSupport -/
def k13 : Class := { plain "jdk/internal/util/ArraysSupport" (some 0) with
  accessFlags := 33
  interfaces := #[]
  cf := some (fileOf pool13 21 #[] #[{ accessFlags := 2, nameIndex := 9, descriptorIndex := 19, attributes := #[] }] 33 16 #[] #[{ accessFlags := 24, nameIndex := 28, descriptorIndex := 29, attributes := #[] }, { accessFlags := 26, nameIndex := 38, descriptorIndex := 39, attributes := #[] }, { accessFlags := 25, nameIndex := 121, descriptorIndex := 25, attributes := #[] }, { accessFlags := 25, nameIndex := 131, descriptorIndex := 25, attributes := #[] }, { accessFlags := 25, nameIndex := 137, descriptorIndex := 25, attributes := #[] }, { accessFlags := 25, nameIndex := 143, descriptorIndex := 25, attributes := #[] }, { accessFlags := 25, nameIndex := 53, descriptorIndex := 25, attributes := #[] }, { accessFlags := 25, nameIndex := 24, descriptorIndex := 25, attributes := #[] }, { accessFlags := 25, nameIndex := 162, descriptorIndex := 25, attributes := #[] }, { accessFlags := 25, nameIndex := 187, descriptorIndex := 25, attributes := #[] }, { accessFlags := 26, nameIndex := 48, descriptorIndex := 25, attributes := #[] }, { accessFlags := 25, nameIndex := 277, descriptorIndex := 25, attributes := #[] }, { accessFlags := 25, nameIndex := 280, descriptorIndex := 25, attributes := #[] }, { accessFlags := 25, nameIndex := 282, descriptorIndex := 25, attributes := #[] }, { accessFlags := 25, nameIndex := 284, descriptorIndex := 25, attributes := #[] }, { accessFlags := 25, nameIndex := 286, descriptorIndex := 25, attributes := #[] }, { accessFlags := 25, nameIndex := 288, descriptorIndex := 25, attributes := #[] }, { accessFlags := 25, nameIndex := 290, descriptorIndex := 25, attributes := #[] }, { accessFlags := 25, nameIndex := 292, descriptorIndex := 25, attributes := #[] }, { accessFlags := 26, nameIndex := 108, descriptorIndex := 109, attributes := #[] }, { accessFlags := 25, nameIndex := 294, descriptorIndex := 25, attributes := #[] }])
  fields := #[{ name := "U", type := (.object "jdk/internal/misc/Unsafe"), accessFlags := 24, slot := 0, constantValue := 0 }, { name := "BIG_ENDIAN", type := .boolean, accessFlags := 26, slot := 1, constantValue := 0 }, { name := "LOG2_ARRAY_BOOLEAN_INDEX_SCALE", type := .int, accessFlags := 25, slot := 2, constantValue := 0 }, { name := "LOG2_ARRAY_BYTE_INDEX_SCALE", type := .int, accessFlags := 25, slot := 3, constantValue := 0 }, { name := "LOG2_ARRAY_CHAR_INDEX_SCALE", type := .int, accessFlags := 25, slot := 4, constantValue := 0 }, { name := "LOG2_ARRAY_SHORT_INDEX_SCALE", type := .int, accessFlags := 25, slot := 5, constantValue := 0 }, { name := "LOG2_ARRAY_INT_INDEX_SCALE", type := .int, accessFlags := 25, slot := 6, constantValue := 0 }, { name := "LOG2_ARRAY_LONG_INDEX_SCALE", type := .int, accessFlags := 25, slot := 7, constantValue := 0 }, { name := "LOG2_ARRAY_FLOAT_INDEX_SCALE", type := .int, accessFlags := 25, slot := 8, constantValue := 0 }, { name := "LOG2_ARRAY_DOUBLE_INDEX_SCALE", type := .int, accessFlags := 25, slot := 9, constantValue := 0 }, { name := "LOG2_BYTE_BIT_SIZE", type := .int, accessFlags := 26, slot := 10, constantValue := 0 }, { name := "T_BOOLEAN", type := .int, accessFlags := 25, slot := 11, constantValue := 0 }, { name := "T_CHAR", type := .int, accessFlags := 25, slot := 12, constantValue := 0 }, { name := "T_FLOAT", type := .int, accessFlags := 25, slot := 13, constantValue := 0 }, { name := "T_DOUBLE", type := .int, accessFlags := 25, slot := 14, constantValue := 0 }, { name := "T_BYTE", type := .int, accessFlags := 25, slot := 15, constantValue := 0 }, { name := "T_SHORT", type := .int, accessFlags := 25, slot := 16, constantValue := 0 }, { name := "T_INT", type := .int, accessFlags := 25, slot := 17, constantValue := 0 }, { name := "T_LONG", type := .int, accessFlags := 25, slot := 18, constantValue := 0 }, { name := "JLA", type := (.object "jdk/internal/access/JavaLangAccess"), accessFlags := 26, slot := 19, constantValue := 0 }, { name := "SOFT_MAX_ARRAY_LENGTH", type := .int, accessFlags := 25, slot := 20, constantValue := 0 }]
  methods := #[k13m0]
  instanceTypes := #[]
  staticTypes := #[(.object "jdk/internal/misc/Unsafe"), .boolean, .int, .int, .int, .int, .int, .int, .int, .int, .int, .int, .int, .int, .int, .int, .int, .int, .int, (.object "jdk/internal/access/JavaLangAccess"), .int]
  resolved := Array.replicate 378 none
  statics := none }

def pool14 : Array CpInfo := pool [(1, u "java/lang/Cloneable"), (0, .class_ 1), (0, u "java/lang/Object"), (0, .class_ 3)] 3

/-- java/lang/Cloneable -/
def k14 : Class := { plain "java/lang/Cloneable" (some 0) with
  accessFlags := 1537
  interfaces := #[]
  cf := some (fileOf pool14 2 #[] #[] 1537 4 #[] #[])
  fields := #[]
  methods := #[]
  instanceTypes := #[]
  staticTypes := #[]
  resolved := Array.replicate 8 none
  statics := none }

/-- the primitive byte -/
def k15 : Class := { plain "byte" none with kind := .primitive 'B', accessFlags := 0x411 }
/-- [B -/
def k16 : Class := { plain "[B" (some 0) with kind := .array 15 .byte, interfaces := #[14, 2], accessFlags := 1041 }

/-- the primitive char -/
def k17 : Class := { plain "char" none with kind := .primitive 'C', accessFlags := 0x411 }
/-- [C -/
def k18 : Class := { plain "[C" (some 0) with kind := .array 17 .char, interfaces := #[14, 2], accessFlags := 1041 }

/-- the primitive int -/
def k19 : Class := { plain "int" none with kind := .primitive 'I', accessFlags := 0x411 }
/-- [I -/
def k20 : Class := { plain "[I" (some 0) with kind := .array 19 .int, interfaces := #[14, 2], accessFlags := 1041 }

def heap : Heap := #[{ cls := 7, slots := #[.long 0, .int 1, .null, .int 0, .null, .int 0, .int 0], vm := .statics 7 },
  { cls := 12, slots := #[.null, .null, .null], vm := .statics 12 }]
def classes : Array Class := #[k0, k1, k2, k3, k4, k5, k6, k7, k8, k9, k10, k11, k12, k13, k14, k15, k16, k17, k18, k19, k20]
def interned : List (Array UInt16 × Addr) := []
def slotsUsed : Nat := 10
def theMethod : MethodId := ⟨1, 1⟩
def args0 : Array Value := #[.int 1, .int 1, .int 1, .int 1]
def aboutOver (below : List Frame) : State where
  vm := { classes := classes, interned := interned.toArray }
  heap := heap
  slotsUsed := slotsUsed
  threads := #[{ frames := .invoking theMethod args0 :: below }]
def below0 : List Frame := [.native { method := ⟨0, 0⟩, args := #[] }]
def about1 : State := aboutOver below0
def p0 : Program := .bare "" "" ""
def e0 : Env := launch0.env 0 0 0
theorem w_frames : about1.frames = Frame.invoking theMethod args0 :: below0 := rfl
set_option maxRecDepth 65536 in
theorem w_args : argsFit about1.vm theMethod args0 = true := by decide +kernel
set_option maxRecDepth 65536 in
theorem w_heap : heapFits about1 = true := by decide +kernel
set_option maxRecDepth 65536 in
theorem w_runnable : about1.curStatus? = some .runnable := by decide +kernel
set_option maxRecDepth 65536 in
theorem w_alone : about1.alone = true := by decide +kernel
set_option maxRecDepth 65536 in
theorem w_named : about1.methodNamed? x = some theMethod := by decide +kernel
set_option maxRecDepth 65536 in
theorem w_hears : about1.hears theMethod below0 = true := by decide +kernel
set_option maxRecDepth 65536 in
theorem w_ripe : about1.ripe theMethod args0 below0 = true := by decide +kernel
theorem w_running : about1.status = .running := rfl
set_option maxRecDepth 65536 in
theorem w_room : about1.hasRoom e0.platform room_1 = true :=
  launch0.hasRoom_least _ room_1 (by decide +kernel) (by decide +kernel) (by decide +kernel) (by decide +kernel) (by decide +kernel) (by decide +kernel)
theorem allAtoms_all (ts : List Jvm.Cond) (a : Array Jvm.Value) (st : Jvm.State) : (allAtoms ts).before a st = ts.all (fun c => c.before a st) := by
  induction ts with
  | nil => rfl
  | cons c t ih =>
    show (Jvm.Cond.and c (allAtoms t)).before a st = _
    rw [Jvm.Cond.before_and, ih, List.all_cons]
def words1 : List Jvm.Cond := Jvm.Cond.code x code maxLocals ret :: tables_1
/-- a 'code' word, met by the world's own term for the bytes: nothing is compared byte by byte -/
theorem code_word {y : MethodName} {bytes : ByteArray} {mx : Nat} {rt : Option FieldType} {a : Array Value} {s : State} {m : MethodId} {meth : Method} {c : Code} (h1 : s.methodNamed? y = some m) (h2 : s.vm.method? m = some meth) (h3 : meth.code = some c) (h4 : c.code = bytes)
    (h5 : (c.maxLocals == mx && c.exceptionTable.isEmpty && decide (c.maxStack ≤ mostOperands) && decide (meth.sig.returnType = rt) && !meth.locks && decide (parseMethodDescriptor y.desc = some meth.sig)) = true) : (Jvm.Cond.code y bytes mx rt).before a s = true := by
  simp only [Bool.and_eq_true, beq_iff_eq, Bool.not_eq_true', decide_eq_true_eq] at h5
  obtain ⟨⟨⟨⟨⟨g1, g2⟩, g3⟩, g4⟩, g5⟩, g6⟩ := h5
  simp [Cond.before, Cond.holds, Cond.value, h1, h2, h3, h4, g1, g2, g3, g4, g5, g6]
def isCode : Jvm.Cond → Bool
  | .code _ _ _ _ => true
  | _ => false
theorem all_split {L : List Jvm.Cond} {P : Jvm.Cond → Bool} (h1 : L.all (fun c => isCode c || P c) = true) (h2 : ∀ c ∈ L.filter isCode, P c = true) : L.all P = true := by
  refine List.all_eq_true.mpr fun c hc => ?_
  have h := List.all_eq_true.mp h1 c hc
  rcases Bool.eq_false_or_eq_true (isCode c) with hi | hi
  · exact h2 c (List.mem_filter.mpr ⟨hc, hi⟩)
  · simpa [hi] using h
set_option maxRecDepth 65536 in
theorem w_c0 : (Jvm.Cond.code x code maxLocals ret).before args0 about1 = true := code_word (m := ⟨1, 1⟩) (meth := k1m1) (c := k1c1) (by decide +kernel) rfl rfl rfl (by decide +kernel)
set_option maxRecDepth 65536 in
theorem w_c1 : (Jvm.Cond.code ({ cls := "java/lang/String", name := "<init>", desc := "([C)V" } : Jvm.MethodName) jdk_42_method_3_code (2 : Nat) (Option.none : Option Jvm.ClassFile.FieldType)).before args0 about1 = true := code_word (m := ⟨7, 1⟩) (meth := k7m1) (c := k7c1) (by decide +kernel) rfl rfl rfl (by decide +kernel)
set_option maxRecDepth 65536 in
theorem w_c2 : (Jvm.Cond.code ({ cls := "java/lang/String", name := "<init>", desc := "([CIILjava/lang/Void;)V" } : Jvm.MethodName) jdk_42_method_149_code (6 : Nat) (Option.none : Option Jvm.ClassFile.FieldType)).before args0 about1 = true := code_word (m := ⟨7, 2⟩) (meth := k7m2) (c := k7c2) (by decide +kernel) rfl rfl rfl (by decide +kernel)
set_option maxRecDepth 65536 in
theorem w_c3 : (Jvm.Cond.code ({ cls := "java/lang/Object", name := "<init>", desc := "()V" } : Jvm.MethodName) object_method_1_code (1 : Nat) (Option.none : Option Jvm.ClassFile.FieldType)).before args0 about1 = true := code_word (m := ⟨0, 0⟩) (meth := k0m0) (c := k0c0) (by decide +kernel) rfl rfl rfl (by decide +kernel)
set_option maxRecDepth 65536 in
theorem w_c4 : (Jvm.Cond.code ({ cls := "java/lang/StringUTF16", name := "compress", desc := "([CII)[B" } : Jvm.MethodName) jdk_52_method_16_code (6 : Nat) (Option.some (Jvm.ClassFile.FieldType.array Jvm.ClassFile.FieldType.byte))).before args0 about1 = true := code_word (m := ⟨8, 2⟩) (meth := k8m2) (c := k8c2) (by decide +kernel) rfl rfl rfl (by decide +kernel)
set_option maxRecDepth 65536 in
theorem w_c5 : (Jvm.Cond.code ({ cls := "java/lang/StringUTF16", name := "compress", desc := "([CI[BII)I" } : Jvm.MethodName) jdk_52_method_21_code (7 : Nat) (Option.some Jvm.ClassFile.FieldType.int)).before args0 about1 = true := code_word (m := ⟨8, 3⟩) (meth := k8m3) (c := k8c3) (by decide +kernel) rfl rfl rfl (by decide +kernel)
set_option maxRecDepth 65536 in
theorem w_c6 : (Jvm.Cond.code ({ cls := "java/lang/StringUTF16", name := "coderFromArrayLen", desc := "([BI)B" } : Jvm.MethodName) jdk_52_method_15_code (2 : Nat) (Option.some Jvm.ClassFile.FieldType.byte)).before args0 about1 = true := code_word (m := ⟨8, 1⟩) (meth := k8m1) (c := k8c1) (by decide +kernel) rfl rfl rfl (by decide +kernel)
set_option maxRecDepth 65536 in
theorem w_c7 : (Jvm.Cond.code ({ cls := "com/example/cytowire/cytowire/astm/Frame", name := "<init>", desc := "(I[BZLjava/lang/String;Z)V" } : Jvm.MethodName) prog_14_method_1_code (6 : Nat) (Option.none : Option Jvm.ClassFile.FieldType)).before args0 about1 = true := code_word (m := ⟨10, 0⟩) (meth := k10m0) (c := k10c0) (by decide +kernel) rfl rfl rfl (by decide +kernel)
set_option maxRecDepth 65536 in
theorem w_c8 : (Jvm.Cond.code ({ cls := "com/example/cytowire/cytowire/astm/Frame", name := "isSound", desc := "()Z" } : Jvm.MethodName) prog_14_method_9_code (1 : Nat) (Option.some Jvm.ClassFile.FieldType.boolean)).before args0 about1 = true := code_word (m := ⟨10, 1⟩) (meth := k10m1) (c := k10c1) (by decide +kernel) rfl rfl rfl (by decide +kernel)
set_option maxRecDepth 65536 in
theorem w_c9 : (Jvm.Cond.code ({ cls := "com/example/cytowire/cytowire/astm/Frame", name := "defect", desc := "()Ljava/lang/String;" } : Jvm.MethodName) prog_14_method_10_code (1 : Nat) (Option.some (Jvm.ClassFile.FieldType.object "java/lang/String"))).before args0 about1 = true := code_word (m := ⟨10, 2⟩) (meth := k10m2) (c := k10c2) (by decide +kernel) rfl rfl rfl (by decide +kernel)
def codes1 : List Jvm.Cond := [Jvm.Cond.code x code maxLocals ret, Jvm.Cond.code ({ cls := "java/lang/String", name := "<init>", desc := "([C)V" } : Jvm.MethodName) jdk_42_method_3_code (2 : Nat) (Option.none : Option Jvm.ClassFile.FieldType), Jvm.Cond.code ({ cls := "java/lang/String", name := "<init>", desc := "([CIILjava/lang/Void;)V" } : Jvm.MethodName) jdk_42_method_149_code (6 : Nat) (Option.none : Option Jvm.ClassFile.FieldType), Jvm.Cond.code ({ cls := "java/lang/Object", name := "<init>", desc := "()V" } : Jvm.MethodName) object_method_1_code (1 : Nat) (Option.none : Option Jvm.ClassFile.FieldType), Jvm.Cond.code ({ cls := "java/lang/StringUTF16", name := "compress", desc := "([CII)[B" } : Jvm.MethodName) jdk_52_method_16_code (6 : Nat) (Option.some (Jvm.ClassFile.FieldType.array Jvm.ClassFile.FieldType.byte)), Jvm.Cond.code ({ cls := "java/lang/StringUTF16", name := "compress", desc := "([CI[BII)I" } : Jvm.MethodName) jdk_52_method_21_code (7 : Nat) (Option.some Jvm.ClassFile.FieldType.int), Jvm.Cond.code ({ cls := "java/lang/StringUTF16", name := "coderFromArrayLen", desc := "([BI)B" } : Jvm.MethodName) jdk_52_method_15_code (2 : Nat) (Option.some Jvm.ClassFile.FieldType.byte), Jvm.Cond.code ({ cls := "com/example/cytowire/cytowire/astm/Frame", name := "<init>", desc := "(I[BZLjava/lang/String;Z)V" } : Jvm.MethodName) prog_14_method_1_code (6 : Nat) (Option.none : Option Jvm.ClassFile.FieldType), Jvm.Cond.code ({ cls := "com/example/cytowire/cytowire/astm/Frame", name := "isSound", desc := "()Z" } : Jvm.MethodName) prog_14_method_9_code (1 : Nat) (Option.some Jvm.ClassFile.FieldType.boolean), Jvm.Cond.code ({ cls := "com/example/cytowire/cytowire/astm/Frame", name := "defect", desc := "()Ljava/lang/String;" } : Jvm.MethodName) prog_14_method_10_code (1 : Nat) (Option.some (Jvm.ClassFile.FieldType.object "java/lang/String"))]
set_option maxRecDepth 65536 in
theorem codes_eq : words1.filter isCode = codes1 := rfl
theorem w_codes : ∀ c ∈ words1.filter isCode, c.before args0 about1 = true := by
  rw [codes_eq]
  intro c hc
  simp only [codes1, List.mem_cons, List.not_mem_nil, or_false] at hc
  rcases hc with rfl | rfl | rfl | rfl | rfl | rfl | rfl | rfl | rfl | rfl
  · exact w_c0
  · exact w_c1
  · exact w_c2
  · exact w_c3
  · exact w_c4
  · exact w_c5
  · exact w_c6
  · exact w_c7
  · exact w_c8
  · exact w_c9
set_option maxRecDepth 65536 in
theorem w_t1 : (words1.take 24).all (fun c => isCode c || c.before args0 about1) = true := by decide +kernel
set_option maxRecDepth 65536 in
theorem w_t2 : ((words1.drop 24).take 24).all (fun c => isCode c || c.before args0 about1) = true := by decide +kernel
set_option maxRecDepth 65536 in
theorem w_t3 : ((words1.drop 24).drop 24).all (fun c => isCode c || c.before args0 about1) = true := by decide +kernel
theorem w_tables : (allAtoms (Jvm.Cond.code x code maxLocals ret :: tables_1)).before args0 about1 = true := by
  rw [allAtoms_all]
  show words1.all (fun c => c.before args0 about1) = true
  refine all_split ?_ w_codes
  rw [← List.take_append_drop 24 words1, List.all_append, w_t1, ← List.take_append_drop 24 (words1.drop 24), List.all_append, w_t2, w_t3]
  rfl
set_option maxRecDepth 65536 in
theorem w_rest : rest_1_c.before args0 about1 = true := by decide +kernel
set_option maxRecDepth 65536 in
theorem w_case : (Jvm.Cond.and given_1 narrow_1).before args0 about1 = true := by decide +kernel
set_option maxRecDepth 65536 in
theorem w_consts : constsHeld consts_1 about1 := Jvm.Lit.constsHeldB_iff.mp (by decide +kernel)
theorem w_applies : (headSpec (Jvm.Cond.code x code maxLocals ret :: tables_1) room_1).applies x e0.platform about1 = true :=
  (Spec.applies_iff w_frames).mpr ⟨w_running, w_runnable, w_alone, w_named, w_hears, w_ripe, w_room, w_tables⟩
theorem atStart : AtStart classFile x code maxLocals ret World_1 tables_1 room_1 Calls_1 rest_1 Pre_1 launch0 p0 e0 about1 theMethod args0 below0 :=
  ⟨lists_1, trivial, launch0.admits_env _ _ _, launch0.least_env, fairChoices_fair.cas, fairChoices_fair.clock, w_frames, w_args, w_heap, w_applies, ⟨w_consts, trivial⟩, w_rest, w_case⟩
end start1
theorem witness_1 : WitnessClaimed_1 := ⟨start1.p0, start1.e0, start1.about1, start1.theMethod, start1.args0, start1.below0, start1.atStart⟩
end Jvm.Pilot.@@N@@
