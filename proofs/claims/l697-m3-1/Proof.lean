import JvmDerived
import JvmDerived.Pilot.@@N@@Statement
import JvmDerived.Pilot.@@N@@Code
set_option linter.unusedVariables false
set_option linter.unusedSimpArgs false
namespace Jvm.RoadKit
open Sem ClassFile Op Lib Jvm.Stand Jvm.Free Jvm.LawKit
section Own
variable {p : Program} {l : Launch} {e : Env} {R : Room} {s : State} {m : MethodId} {args : Array Value} {below : List Frame} {meth : Method} {c : Code} {T T' : State} {locs : List Loc} {cells slots : Nat} {Z : State} {a0 : Array Value} {h h' : Heap}
abbrev own_lv (x : Int64) : Slot := .val (.long x)
abbrev own_S (p : Program) (e : Env) (below : List Frame) (T : State) (m : MethodId) (pc : Nat) (L : Array Slot) (S : List Value) (t : State) : Prop := Steps p.tables e below (T.setTop (mkF m pc L S)) t
/-- in one state, from the second frame to the first -/
abbrev own_V (p : Program) (e : Env) (below : List Frame) (T : State) (f' f : JFrame) : Prop := ∀ t, Steps p.tables e below (T.setTop f') t → Steps p.tables e below (T.setTop f) t
/-- from this frame on the run comes to an end that G says -/
def own_Go (p : Program) (e : Env) (below : List Frame) (G : State → Outcome → Prop) (T : State) (f : JFrame) : Prop :=
  ∃ t o, Steps p.tables e below (T.setTop f) t ∧ G t o
theorem own_st {G : State → Outcome → Prop} {f f' : JFrame} (st : ∀ t, Steps p.tables e below (T'.setTop f') t → Steps p.tables e below (T.setTop f) t) (k : own_Go p e below G T' f') : own_Go p e below G T f := by
  obtain ⟨t, o, h1, h2⟩ := k
  exact ⟨t, o, st t h1, h2⟩
/-- from this frame on the run comes to a state and a frame that P says -/
def own_Pk (p : Program) (e : Env) (below : List Frame) (P : State → JFrame → Prop) (T : State) (f : JFrame) : Prop :=
  ∃ T' f', P T' f' ∧ ∀ t, Steps p.tables e below (T'.setTop f') t → Steps p.tables e below (T.setTop f) t
theorem own_sp {P : State → JFrame → Prop} {f f' : JFrame} (st : ∀ t, Steps p.tables e below (T'.setTop f') t → Steps p.tables e below (T.setTop f) t) (k : own_Pk p e below P T' f') : own_Pk p e below P T f := by
  obtain ⟨T2, f2, h1, h2⟩ := k
  exact ⟨T2, f2, h1, fun t q => st t (h2 t q)⟩
theorem own_pm {P P' : State → JFrame → Prop} {f : JFrame} (k : own_Pk p e below P T f) (q : ∀ T' f', P T' f' → P' T' f') : own_Pk p e below P' T f := by
  obtain ⟨T2, f2, h1, h2⟩ := k
  exact ⟨T2, f2, q _ _ h1, h2⟩
/-- it returned, Q says what, and the frame is kept -/
def own_End (s : State) (below : List Frame) (Q : Option Value → Heap → List Loc → Prop) (C S : Nat) : State → Outcome → Prop := fun t o =>
  t.status = .running ∧ Ended t below o ∧ ∃ v L, o = .returned v ∧ Q v t.heap L ∧ FrameEnd s o t L C S
theorem own_body {y : MethodName} {bytes : ByteArray} {ml : Nat} {rt : Option FieldType} {rm : Room} {as' : Array Value} {h0 : Heap} {Q : Option Value → Heap → List Loc → Prop} {C S : Nat} {ws : List Jvm.Cond} (hp : plainFor y = true)
    (H : ∀ p e s m below meth c s₁, BodyLoose p l y (head1 (Jvm.Cond.code y bytes ml rt :: ws) rm) bytes ml rt e s m as' below meth c s₁ → c.maxLocals = ml → Z.Warmed39 s.vm → s₁.heap = h0 → own_Go p e below (own_End s below Q C S) s₁ (entryFrame m as' ml)) :
    MetFree l y (head1 (Jvm.Cond.code y bytes ml rt :: ws) rm) (fun a U => a = as' ∧ Z.Warmed39 U.vm ∧ U.heap = h0) (fun _ _ _ _ _ => True) (fun _ U o U' => ∃ v L, o = .returned v ∧ Q v U'.heap L ∧ FrameEnd U o U' L C S) := by
  refine MetFree.of_bodySF hp hisR ?_
  intro p e s m args below meth c s₁ Bd hml hP hK
  obtain ⟨rfl, hZ, hh⟩ := hP
  have e0 : s₁.heap = h0 := by rw [← hh, Bd.state]; rfl
  obtain ⟨t, o, h1, h2, h3, h4⟩ := H p e s m below meth c s₁ Bd hml hZ e0
  exact ⟨t, o, h1, h2, h3, h4⟩
/-- a callee's contract -/
abbrev own_Ct (l : Launch) (Z : State) (y : MethodName) (bytes : ByteArray) (ml : Nat) (rt : Option FieldType) (rm : Room) (as' : Array Value) (h0 : Heap) (Q : Option Value → Heap → List Loc → Prop) : Prop :=
  MetFree l y (head1 [Jvm.Cond.code y bytes ml rt] rm) (fun a U => a = as' ∧ Z.Warmed39 U.vm ∧ U.heap = h0) (fun _ _ _ _ _ => True) (fun _ U o U' => ∃ v L, o = .returned v ∧ Q v U'.heap L ∧ FrameEnd U o U' L rm.cells rm.slots)
section Ret
variable {Q : Option Value → Heap → List Loc → Prop} {C S : Nat}
theorem own_out {v : Option Value} {f : JFrame} (X : Stand p l e R s m args below meth c T locs cells slots) (hv : meth.sig.returnType = none → v = none) (hlocks : meth.locks = false) (hC : cells ≤ C) (hS : slots ≤ S) (eT : T.heap = h) (hq : Q v h locs)
    (go : ∀ fs, (∀ (f : JFrame) (acts : List Action), f.method = m → f.locked = none → f.entered = [] → (doReturn e (T.setTop f) acts v).1 = T.setFrames fs) → Steps p.tables e below (T.setTop f) (T.setFrames fs)) :
    own_Go p e below (own_End s below Q C S) T f := by
  obtain ⟨fs, hr, hrun, hended, hW, hsame⟩ := X.leave (v := v) hv hlocks
  refine ⟨_, _, go fs hr, hrun, hended, _, _, rfl, ?_, ⟨_, rfl⟩, hW, hsame.mono hC hS⟩
  show Q v T.heap locs
  rw [eT]; exact hq
theorem own_retI (X : Stand p l e R s m args below meth c T locs cells slots) (hx : p.tables.exec = Jvm.exec) (hlocks : meth.locks = false) (hret : meth.sig.returnType = some .int) {pc : Nat} {Ls : Array Slot} {z : Int32} {rest : List Value} (hd : decode c.code pc = .ok (.ireturn, 1)) (hC : cells ≤ C) (hS : slots ≤ S) (eT : T.heap = h) (hq : Q (some (.int z)) h locs) :
    own_Go p e below (own_End s below Q C S) T (mkF m pc Ls (.int z :: rest)) :=
  own_out X (fun q => by rw [hret] at q; cases q) hlocks hC hS eT hq fun fs hr => retOut X hx hret rfl (Or.inl ⟨rfl, Or.inl rfl, z, rfl⟩) hd hr
theorem own_retZ (X : Stand p l e R s m args below meth c T locs cells slots) (hx : p.tables.exec = Jvm.exec) (hlocks : meth.locks = false) (hret : meth.sig.returnType = some .boolean) {pc : Nat} {Ls : Array Slot} {z : Int32} {rest : List Value} (hd : decode c.code pc = .ok (.ireturn, 1)) (hz : z = 0 ∨ z = 1) (hC : cells ≤ C) (hS : slots ≤ S) (eT : T.heap = h) (hq : Q (some (.int z)) h locs) :
    own_Go p e below (own_End s below Q C S) T (mkF m pc Ls (.int z :: rest)) :=
  own_out X (fun q => by rw [hret] at q; cases q) hlocks hC hS eT hq fun fs hr => retN X hx hret (Or.inl rfl) hd (by
    have : nar .boolean z = z := by rcases hz with rfl | rfl <;> decide
    rw [this]; exact hr)
theorem own_retB (X : Stand p l e R s m args below meth c T locs cells slots) (hx : p.tables.exec = Jvm.exec) (hlocks : meth.locks = false) (hret : meth.sig.returnType = some .byte) {pc : Nat} {Ls : Array Slot} {z : Int32} {rest : List Value} (hd : decode c.code pc = .ok (.ireturn, 1)) (hz : nar .byte z = z) (hC : cells ≤ C) (hS : slots ≤ S) (eT : T.heap = h) (hq : Q (some (.int z)) h locs) :
    own_Go p e below (own_End s below Q C S) T (mkF m pc Ls (.int z :: rest)) :=
  own_out X (fun q => by rw [hret] at q; cases q) hlocks hC hS eT hq fun fs hr => retN X hx hret (Or.inr (Or.inl rfl)) hd (by rw [hz]; exact hr)
theorem own_retJ (X : Stand p l e R s m args below meth c T locs cells slots) (hx : p.tables.exec = Jvm.exec) (hlocks : meth.locks = false) (hret : meth.sig.returnType = some .long) {pc : Nat} {Ls : Array Slot} {z : Int64} {rest : List Value} (hd : decode c.code pc = .ok (.lreturn, 1)) (hC : cells ≤ C) (hS : slots ≤ S) (eT : T.heap = h) (hq : Q (some (.long z)) h locs) :
    own_Go p e below (own_End s below Q C S) T (mkF m pc Ls (.long z :: rest)) :=
  own_out X (fun q => by rw [hret] at q; cases q) hlocks hC hS eT hq fun fs hr => retOut X hx hret rfl (Or.inr (Or.inl ⟨rfl, rfl, z, rfl⟩)) hd hr
theorem own_retR {t : FieldType} {w : Value} (X : Stand p l e R s m args below meth c T locs cells slots) (hx : p.tables.exec = Jvm.exec) (hlocks : meth.locks = false) (hret : meth.sig.returnType = some t) (ht : t.isReference = true) (hw : w.isRef = true) {pc : Nat} {Ls : Array Slot} {rest : List Value} (hd : decode c.code pc = .ok (.areturn, 1)) (hC : cells ≤ C) (hS : slots ≤ S) (eT : T.heap = h) (hq : Q (some w) h locs) :
    own_Go p e below (own_End s below Q C S) T (mkF m pc Ls (w :: rest)) :=
  own_out X (fun q => by rw [hret] at q; cases q) hlocks hC hS eT hq fun fs hr => retOut X hx hret (by cases t <;> cases w <;> first | rfl | (cases ht; done) | (cases hw; done)) (Or.inr (Or.inr (Or.inr (Or.inr ⟨rfl, ht, hw⟩)))) hd hr
theorem own_retV (X : Stand p l e R s m args below meth c T locs cells slots) (hx : p.tables.exec = Jvm.exec) (hlocks : meth.locks = false) (hret : meth.sig.returnType = none) {pc : Nat} {Ls : Array Slot} (hd : decode c.code pc = .ok (.return_, 1)) (hC : cells ≤ C) (hS : slots ≤ S) (eT : T.heap = h) (hq : Q none h locs) :
    own_Go p e below (own_End s below Q C S) T (mkF m pc Ls []) :=
  own_out X (fun _ => rfl) hlocks hC hS eT hq fun fs hr => X.returnOut hx hret hd hr
end Ret
section Call
variable {own : String} {index : Nat} {y : MethodName} {bytes : ByteArray} {ml : Nat} {rt : Option FieldType} {rm : Room} {Q : Option Value → Heap → List Loc → Prop} {g : JFrame} {argsL rest : List Value} {W : Nat}
theorem own_callS (X : Stand p l e R s m args below meth c T locs cells slots) (hx : p.tables.exec = Jvm.exec) (hZ : Z.Warmed39 s.vm) (hown : s.vm.findClass own = some m.cls)
    (w1 : (Jvm.Cond.methodLink own index y).before a0 Z = true) (w2 : (Jvm.Cond.static y).before a0 Z = true) (w3 : (Jvm.Cond.initialized y.cls).before a0 Z = true) (w4 : (Jvm.Cond.code y bytes ml rt).before a0 Z = true)
    (hy : y.cls ≠ "java/lang/invoke/MethodHandle" ∧ y.cls ≠ "java/lang/invoke/VarHandle") (ct : own_Ct l Z y bytes ml rt rm argsL.toArray h Q) (eT : T.heap = h) (hg : g.method = m) (hsize : g.locals.size = c.maxLocals)
    (hlen : ∀ sig, parseMethodDescriptor y.desc = some sig → argsL.length = sig.parameters.length) (hstack : g.stack = argsL.reverse ++ rest) (hW : 2 * g.monitorRoom + (rest.map fun v => v.category).sum ≤ W) (hdg : decode c.code g.pc = .ok (.invokestatic index, 3))
    (hf : rm.frames + 1 ≤ R.frames) (hl : W + (ml + 11) + rm.locals ≤ R.locals) (hc : cells + rm.cells ≤ R.cells) (hs : slots + rm.slots ≤ R.slots) :
    ∃ v T' L, Stand p l e R s m args below meth c T' (locs ++ L) (cells + rm.cells) (slots + rm.slots) ∧ Q v T'.heap L ∧ ∀ target, Steps p.tables e below (T'.setTop { g with pc := g.pc + 3, stack := v.toList ++ rest }) target → Steps p.tables e below (T.setTop g) target := by
  obtain ⟨v, vm1, ⟨T1, L1, k1, n1⟩, -, X1, ⟨L, hQ, h1, h2, h3⟩, st⟩ := Jvm.LawKit.callS X hx hown (mvT hZ w1) (mvT hZ w2) (mvT hZ w3) (mvT hZ w4) hy (backOf (W := W) ct hZ w4 w3 hf hl) hg hsize hlen hstack hW hdg (fun _ _ => ⟨rfl, eT, hc, hs⟩)
  dsimp only [Pt.U, Pt.locs, Pt.cells, Pt.slots] at X1 h1 h2 h3 hQ st
  subst h1 h2 h3
  exact ⟨v, T1, L, X1, hQ, st⟩
theorem own_callI {a : Addr} (X : Stand p l e R s m args below meth c T locs cells slots) (hx : p.tables.exec = Jvm.exec) (hZ : Z.Warmed39 s.vm) (hown : s.vm.findClass own = some m.cls) (hy1 : y.name = "<init>")
    (w1 : (Jvm.Cond.methodLink own index y).before a0 Z = true) (w2 : (Jvm.Cond.instanceMethod y).before a0 Z = true) (w3 : (Jvm.Cond.initialized y.cls).before a0 Z = true) (w4 : (Jvm.Cond.code y bytes ml none).before a0 Z = true)
    (hy : y.cls ≠ "java/lang/invoke/MethodHandle" ∧ y.cls ≠ "java/lang/invoke/VarHandle") (ct : own_Ct l Z y bytes ml none rm (.ref a :: argsL).toArray h Q) (eT : T.heap = h) (hg : g.method = m) (hsize : g.locals.size = c.maxLocals)
    (hlen : ∀ sig, parseMethodDescriptor y.desc = some sig → argsL.length = sig.parameters.length) (hstack : g.stack = argsL.reverse ++ .ref a :: rest) (hW : 2 * g.monitorRoom + (rest.map fun v => v.category).sum ≤ W) (hdg : decode c.code g.pc = .ok (.invokespecial index, 3))
    (hf : rm.frames + 1 ≤ R.frames) (hl : W + (ml + 11) + rm.locals ≤ R.locals) (hc : cells + rm.cells ≤ R.cells) (hs : slots + rm.slots ≤ R.slots) :
    ∃ v T' L, Stand p l e R s m args below meth c T' (locs ++ L) (cells + rm.cells) (slots + rm.slots) ∧ Q v T'.heap L ∧ ∀ target, Steps p.tables e below (T'.setTop { g with pc := g.pc + 3, stack := v.toList ++ rest }) target → Steps p.tables e below (T.setTop g) target := by
  obtain ⟨v, vm1, ⟨T1, L1, k1, n1⟩, -, X1, ⟨L, hQ, h1, h2, h3⟩, st⟩ := X.specialBack hx hy1 hown (mvT hZ w1) (mvT hZ w2) (mvT hZ w4) hy (backOf (W := W) ct hZ w4 w3 hf hl) hg hsize (Steps.refl _) hlen hstack hW hdg (fun _ _ => ⟨rfl, eT, hc, hs⟩)
  dsimp only [Pt.U, Pt.locs, Pt.cells, Pt.slots] at X1 h1 h2 h3 hQ st
  subst h1 h2 h3
  exact ⟨v, T1, L, X1, hQ, fun t k => st.trans k⟩
theorem own_callV {a : Addr} {C : String} (X : Stand p l e R s m args below meth c T locs cells slots) (hx : p.tables.exec = Jvm.exec) (hZ : Z.Warmed39 s.vm) (hown : s.vm.findClass own = some m.cls) (E : Exa Z h a C) {y0 : MethodName}
    (w1 : (Jvm.Cond.methodLink own index y0).before a0 Z = true) (w2 : (Jvm.Cond.declares y0).before a0 Z = true) (w5 : (Jvm.Cond.selects C y0 y).before a0 Z = true) (nf : NotFace s y0) (w6 : (Jvm.Cond.instanceMethod y).before a0 Z = true) (w3 : (Jvm.Cond.initialized y.cls).before a0 Z = true) (w4 : (Jvm.Cond.code y bytes ml rt).before a0 Z = true)
    (hy : y0.cls ≠ "java/lang/invoke/MethodHandle" ∧ y0.cls ≠ "java/lang/invoke/VarHandle") (ct : own_Ct l Z y bytes ml rt rm (.ref a :: argsL).toArray h Q) (eT : T.heap = h) (hg : g.method = m) (hsize : g.locals.size = c.maxLocals)
    (hlen : ∀ sig, parseMethodDescriptor y0.desc = some sig → argsL.length = sig.parameters.length) (hstack : g.stack = argsL.reverse ++ .ref a :: rest) (hW : 2 * g.monitorRoom + (rest.map fun v => v.category).sum ≤ W) (hdg : decode c.code g.pc = .ok (.invokevirtual index, 3))
    (hf : rm.frames + 1 ≤ R.frames) (hl : W + (ml + 11) + rm.locals ≤ R.locals) (hc : cells + rm.cells ≤ R.cells) (hs : slots + rm.slots ≤ R.slots) :
    ∃ v T' L, Stand p l e R s m args below meth c T' (locs ++ L) (cells + rm.cells) (slots + rm.slots) ∧ Q v T'.heap L ∧ ∀ target, Steps p.tables e below (T'.setTop { g with pc := g.pc + 3, stack := v.toList ++ rest }) target → Steps p.tables e below (T.setTop g) target := by
  obtain ⟨cq, kq, qa, qb, qc⟩ := isOf hZ eT E
  obtain ⟨v, vm1, ⟨T1, L1, k1, n1⟩, -, X1, ⟨L, hQ, h1, h2, h3⟩, st⟩ := X.virtualBack hx (y := y0) (z := y) hown (mvT hZ w1) (mvT hZ w2) nf (mvT hZ w5) (mvT hZ w6) hy (backOf (W := W) ct hZ w4 w3 hf hl) qa qc hg hsize (Steps.refl _) hlen hstack hW hdg (fun _ _ => ⟨rfl, eT, hc, hs⟩)
  dsimp only [Pt.U, Pt.locs, Pt.cells, Pt.slots] at X1 h1 h2 h3 hQ st
  subst h1 h2 h3
  exact ⟨v, T1, L, X1, hQ, fun t k => st.trans k⟩
theorem own_callP {a : Addr} {C C0 : String} {x z : MethodName} (X : Stand p l e R s m args below meth c T locs cells slots) (hx : p.tables.exec = Jvm.exec) (hZ : Z.Warmed39 s.vm) (hown : s.vm.findClass own = some m.cls) (E : Exa Z h a C0) (hz : z.cls = y.cls)
    (w1 : (Jvm.Cond.methodLink own index y).before a0 Z = true) (w2 : (Jvm.Cond.instanceMethod y).before a0 Z = true) (w5 : (Jvm.Cond.selects C x z).before a0 Z = true) (wp : (Jvm.Cond.privateMethod y).before a0 Z = true) (w3 : (Jvm.Cond.initialized y.cls).before a0 Z = true) (w4 : (Jvm.Cond.code y bytes ml rt).before a0 Z = true)
    (hy : y.cls ≠ "java/lang/invoke/MethodHandle" ∧ y.cls ≠ "java/lang/invoke/VarHandle") (ct : own_Ct l Z y bytes ml rt rm (.ref a :: argsL).toArray h Q) (eT : T.heap = h) (hg : g.method = m) (hsize : g.locals.size = c.maxLocals)
    (hlen : ∀ sig, parseMethodDescriptor y.desc = some sig → argsL.length = sig.parameters.length) (hstack : g.stack = argsL.reverse ++ .ref a :: rest) (hW : 2 * g.monitorRoom + (rest.map fun v => v.category).sum ≤ W) (hdg : decode c.code g.pc = .ok (.invokevirtual index, 3))
    (hf : rm.frames + 1 ≤ R.frames) (hl : W + (ml + 11) + rm.locals ≤ R.locals) (hc : cells + rm.cells ≤ R.cells) (hs : slots + rm.slots ≤ R.slots) :
    ∃ v T' L, Stand p l e R s m args below meth c T' (locs ++ L) (cells + rm.cells) (slots + rm.slots) ∧ Q v T'.heap L ∧ ∀ target, Steps p.tables e below (T'.setTop { g with pc := g.pc + 3, stack := v.toList ++ rest }) target → Steps p.tables e below (T.setTop g) target := by
  obtain ⟨cq, q1, q2⟩ := E.cell
  have hp : s.PrivateAt y := Cond.privateMethod_at (mvP hZ wp (args := #[]))
  have w5' : (Jvm.Cond.selects C x z).before args s = true := mvT hZ w5
  obtain ⟨c2, r2, m2, -, -, q3, -, kP, hkP, hkPi⟩ := Cond.selects_spec w5'
  have hcl : s.vm.findClass y.cls = some m2.cls := hz ▸ findClass_of_methodNamed q3
  have hsel : (Jvm.Cond.selects y.cls y y).before args s = true := selects_self_of_private hcl hkP hkPi hp (mvT hZ w2) hy
  obtain ⟨v, vm1, ⟨T1, L1, k1, n1⟩, -, X1, ⟨L, hQ, h1, h2, h3⟩, st⟩ := X.privateBack hx hown (mvT hZ w1) (mvT hZ w2) hsel hp (mvT hZ w4) hy (backOf (W := W) ct hZ w4 w3 hf hl) hg hsize (Steps.refl _) (a := a) (by rw [eT]; exact q1) q2 hlen hstack hW hdg (fun _ _ => ⟨rfl, eT, hc, hs⟩)
  dsimp only [Pt.U, Pt.locs, Pt.cells, Pt.slots] at X1 h1 h2 h3 hQ st
  subst h1 h2 h3
  exact ⟨v, T1, L, X1, hQ, fun t k => st.trans k⟩
theorem own_callF {a : Addr} {C : String} {count : Nat} (X : Stand p l e R s m args below meth c T locs cells slots) (hx : p.tables.exec = Jvm.exec) (hZ : Z.Warmed39 s.vm) (hown : s.vm.findClass own = some m.cls) (E : Exa Z h a C) {y0 : MethodName}
    (w1 : (Jvm.Cond.methodLink own index y0).before a0 Z = true) (w2 : (Jvm.Cond.declares y0).before a0 Z = true) (wf : (Jvm.Cond.interfaceMethod y0.cls y0.cls y0.name y0.desc).before args s = true) (w5 : (Jvm.Cond.selects C y0 y).before a0 Z = true) (w6 : (Jvm.Cond.instanceMethod y).before a0 Z = true) (wp : (Jvm.Cond.publicMethod y).before a0 Z = true) (wu : (Jvm.Cond.unhidden C y0.name y0.desc).before a0 Z = true) (wk : (Jvm.Cond.castable C y0.cls).before a0 Z = true) (w3 : (Jvm.Cond.initialized y.cls).before a0 Z = true) (w4 : (Jvm.Cond.code y bytes ml rt).before a0 Z = true)
    (hy : y0.cls ≠ "java/lang/invoke/MethodHandle" ∧ y0.cls ≠ "java/lang/invoke/VarHandle") (ct : own_Ct l Z y bytes ml rt rm (.ref a :: argsL).toArray h Q) (eT : T.heap = h) (hg : g.method = m) (hsize : g.locals.size = c.maxLocals)
    (hlen : ∀ sig, parseMethodDescriptor y0.desc = some sig → argsL.length = sig.parameters.length) (hstack : g.stack = argsL.reverse ++ .ref a :: rest) (hW : 2 * g.monitorRoom + (rest.map fun v => v.category).sum ≤ W) (hdg : decode c.code g.pc = .ok (.invokeinterface index count, 5))
    (hf : rm.frames + 1 ≤ R.frames) (hl : W + (ml + 11) + rm.locals ≤ R.locals) (hc : cells + rm.cells ≤ R.cells) (hs : slots + rm.slots ≤ R.slots) :
    ∃ v T' L, Stand p l e R s m args below meth c T' (locs ++ L) (cells + rm.cells) (slots + rm.slots) ∧ Q v T'.heap L ∧ ∀ target, Steps p.tables e below (T'.setTop { g with pc := g.pc + 5, stack := v.toList ++ rest }) target → Steps p.tables e below (T.setTop g) target := by
  obtain ⟨cq, kq, qa, qb, qc⟩ := isOf hZ eT E
  obtain ⟨v, vm1, ⟨T1, L1, k1, n1⟩, -, X1, ⟨L, hQ, h1, h2, h3⟩, st⟩ := X.interfaceBack hx (xi := y0) (y := y) hown (mvT hZ w1) (mvT hZ w2) wf (mvT hZ w5) (mvT hZ w6) (mvT hZ wp) (mvT hZ wu) (mvT hZ wk) hy (backOf (W := W) ct hZ w4 w3 hf hl) qa qb qc hg hsize (Steps.refl _) hlen hstack hW hdg (fun _ _ => ⟨rfl, eT, hc, hs⟩)
  dsimp only [Pt.U, Pt.locs, Pt.cells, Pt.slots] at X1 h1 h2 h3 hQ st
  subst h1 h2 h3
  exact ⟨v, T1, L, X1, hQ, fun t k => st.trans k⟩
end Call
/-- getfield by an entry that is resolved already -/
theorem own_getR {O n d : String} {a : Addr} {v : Value} (X : Stand p l e R s m args below meth c T locs cells slots) (hx : p.tables.exec = Jvm.exec) (hZ : Z.Warmed39 s.vm) {own : String} {index : Nat} (hown : s.vm.findClass own = some m.cls) (w : (Jvm.Cond.fieldRef own index O n d).before a0 Z = true) (eT : T.heap = h) (F : Fld Z h a O n d v)
    {g : JFrame} (hg : g.method = m) {rest : List Value} (hs : g.stack = .ref a :: rest) (hd : decode c.code g.pc = .ok (.getfield index, 3)) :
    ∀ t, Steps p.tables e below (T.setTop { g with pc := g.pc + 3, stack := v :: rest }) t → Steps p.tables e below (T.setTop g) t := by
  have hT : Z.Warmed39 T.vm := wtrans hZ X.warmed
  have w' := Cond.fieldRef_warmed39 hT w
  have hownT : (Z.setVm T.vm).vm.findClass own = some m.cls := by
    show T.vm.findClass own = _
    rw [X.warmed.alike.findClass]; exact hown
  obtain ⟨c1, k1, i1, f1, q1, q2⟩ := Cond.fieldRef_spec hownT w'
  obtain ⟨cell, cf, k, i, f, h1, h2, h3, h4, -, -, h7⟩ := F
  obtain ⟨k', hi, -⟩ := State.fieldFound?_setVm (s := Z) hT.alike h2
  cases q1.symm.trans hi
  exact fun t kt => (X.getfieldR hx hg q2 h3 hs (by rw [eT]; exact h1) h4 h7 hd (Steps.refl _)).trans kt
theorem own_Sta.keep {C n d : String} {v : Value} (S : Sta Z h C n d v) (K : Keep h h' []) : Sta Z h' C n d v := by
  obtain ⟨cf, i, k, f, st, cell, h1, h2, h3, h4, h5, h6, h7⟩ := S
  exact ⟨cf, i, k, f, st, cell, h1, h2, h3, h4, K.2.1 _ _ h5 nin0, h6, h7⟩
theorem own_imod (x y : Int32) : x - (x / y) * y = x % y := by
  apply Int32.toInt_inj.mp
  have h1 := rng32 (x % y)
  rw [Int32.toInt_sub, Int32.toInt_mul, Int32.toInt_div, Int.bmod_mul_bmod, Int.sub_bmod_bmod, Int.mul_comm (x.toInt.tdiv y.toInt), ← Int.tmod_def, ← Int32.toInt_mod]
  exact Int.bmod_eq_of_le_mul_two (by omega) (by omega)
theorem own_irem {T target : State} {g : JFrame} (h : At T m c below) (hx : p.tables.exec = Jvm.exec) (hg : g.method = m) {x y : Int32} {rest : List Value} (hd : decode c.code g.pc = .ok (.irem, 1)) (hs : g.stack = .int y :: .int x :: rest) (hy : y ≠ 0)
    (hr : Steps p.tables e below (T.setTop { g with pc := g.pc + 1, stack := .int (x % y) :: rest }) target) : Steps p.tables e below (T.setTop g) target := by
  refine XS.irem h hx hg hd hs hy ?_
  rw [own_imod x y]
  exact hr
section Cmp
theorem own_tltL {x y : Int64} (h : x < y) : ifCond.holds .lt (lcmpW x y) = true ∧ ifCond.holds .ge (lcmpW x y) = false := by
  rw [if0, if0]; exact ⟨(tlt ((lw_lt x y).mpr h)).1, (tlt ((lw_lt x y).mpr h)).2.1⟩
theorem own_fltL {x y : Int64} (h : ¬ x < y) : ifCond.holds .lt (lcmpW x y) = false ∧ ifCond.holds .ge (lcmpW x y) = true := by
  have q : ¬ lcmpW x y < 0 := fun q => h ((lw_lt x y).mp q)
  rw [if0, if0]; exact ⟨(flt q).1, (flt q).2.1⟩
theorem own_tgtL {x y : Int64} (h : y < x) : ifCond.holds .gt (lcmpW x y) = true ∧ ifCond.holds .le (lcmpW x y) = false := by
  rw [if0, if0]; exact ⟨(tlt ((lw_gt x y).mpr h)).2.2.1, (tlt ((lw_gt x y).mpr h)).2.2.2⟩
theorem own_fgtL {x y : Int64} (h : ¬ y < x) : ifCond.holds .gt (lcmpW x y) = false ∧ ifCond.holds .le (lcmpW x y) = true := by
  have q : ¬ 0 < lcmpW x y := fun q => h ((lw_gt x y).mp q)
  rw [if0, if0]; exact ⟨(flt q).2.2.1, (flt q).2.2.2⟩
theorem own_teqL {x y : Int64} (h : x = y) : ifCond.holds .eq (lcmpW x y) = true ∧ ifCond.holds .ne (lcmpW x y) = false := by
  rw [if0, if0]; exact ⟨(teq ((lw_eq x y).mpr h)).1, (teq ((lw_eq x y).mpr h)).2⟩
theorem own_feqL {x y : Int64} (h : ¬ x = y) : ifCond.holds .eq (lcmpW x y) = false ∧ ifCond.holds .ne (lcmpW x y) = true := by
  have q : ¬ lcmpW x y = 0 := fun q => h ((lw_eq x y).mp q)
  rw [if0, if0]; exact ⟨(feq q).1, (feq q).2⟩
end Cmp
/-- an array: its kind, its length, its values -/
def own_AV (Z : State) (h : Heap) (a : Addr) (ty : FieldType) (n : Nat) (f : Nat → Value) : Prop :=
  ∃ cl : Cell, Arr Z h a cl ty ∧ cl.slots.size = n ∧ (∀ i, i < n → cl.slots[i]? = some (f i)) ∧ ∀ i, i < n → fits ty (f i) = true
/-- an array of int-like values -/
def own_AI (Z : State) (h : Heap) (a : Addr) (ty : FieldType) (n : Nat) (f : Nat → Int32) : Prop := own_AV Z h a ty n (fun i => .int (f i))
def own_AL (Z : State) (h : Heap) (a : Addr) (n : Nat) (f : Nat → Int64) : Prop := own_AV Z h a .long n (fun i => .long (f i))
def own_updV (f : Nat → Value) (k : Nat) (v : Value) : Nat → Value := fun i => if i = k then v else f i
def own_upd (f : Nat → Int32) (k : Nat) (v : Int32) : Nat → Int32 := fun i => if i = k then v else f i
def own_updL (f : Nat → Int64) (k : Nat) (v : Int64) : Nat → Int64 := fun i => if i = k then v else f i
theorem own_idx {j : Int32} {k n : Nat} {cl : Cell} (S : cl.slots.size = n) (hj : j.toInt = (k : Int)) (hk : k < n) : ¬ (j < 0 ∨ cl.slots.size ≤ j.toNatClampNeg) ∧ j.toNatClampNeg = k := by
  have e0 : (0 : Int32).toInt = 0 := by decide
  have e1 : j.toNatClampNeg = k := by
    show j.toInt.toNat = k
    rw [hj]; rfl
  refine ⟨?_, e1⟩
  rintro (q | q)
  · rw [Int32.lt_iff_toInt_lt, e0, hj] at q; omega
  · rw [e1, S] at q; omega
section AV
variable {a b : Addr} {ty : FieldType} {n : Nat} {f : Nat → Value}
theorem own_AV.lt (A : own_AV Z h a ty n f) : a < h.size := by obtain ⟨cl, h1, -⟩ := A; exact h1.lt
theorem own_AV.ext (A : own_AV Z h a ty n f) (E : Ext h h') : own_AV Z h' a ty n f := by obtain ⟨cl, h1, r⟩ := A; exact ⟨cl, h1.ext E, r⟩
theorem own_AV.other (A : own_AV Z h b ty n f) {sl : Nat} {v : Value} (W : Wr h h' a sl v) (q : b ≠ a) : own_AV Z h' b ty n f := by obtain ⟨cl, h1, r⟩ := A; exact ⟨cl, h1.other W q, r⟩
theorem own_AV.keep {ws : List Addr} (A : own_AV Z h a ty n f) (K : Keep h h' ws) (q : a ∉ ws) : own_AV Z h' a ty n f := by obtain ⟨cl, h1, r⟩ := A; exact ⟨cl, ⟨K.2.1 a cl h1.1 q, h1.2⟩, r⟩
theorem own_AV.congr {g : Nat → Value} (A : own_AV Z h a ty n f) (q : ∀ i, i < n → f i = g i) : own_AV Z h a ty n g := by
  obtain ⟨cl, h1, h2, h3, h4⟩ := A
  exact ⟨cl, h1, h2, fun i hi => by rw [← q i hi]; exact h3 i hi, fun i hi => by rw [← q i hi]; exact h4 i hi⟩
theorem own_AV.new {cA : ClassId} {z : Int32} (A : Arr Z h a (newA cA ty z) ty) (hn : z.toNatClampNeg = n) (hf : fits ty (defaultValue ty) = true) : own_AV Z h a ty n (fun _ => defaultValue ty) :=
  ⟨_, A, by rw [sz_new, hn], fun i hi => by subst hn; simp only [newA, Array.getElem?_replicate, hi, if_true], fun _ _ => hf⟩
theorem own_AV.set {k : Nat} {v : Value} (F : own_AV Z h a ty n f) (hk : k < n) (hv : fits ty v = true) (W : Wr h h' a k v) : own_AV Z h' a ty n (own_updV f k v) := by
  obtain ⟨cl, A, S, H, G⟩ := F
  refine ⟨_, A.same W, by rw [sz_set, S], fun i hi => ?_, fun i hi => ?_⟩
  · by_cases q : i = k
    · subst q; simp [Cell.setSlot, own_updV, S, hk]
    · have q' : ¬ k = i := fun r => q r.symm
      simp only [Cell.setSlot, own_updV, q, if_false]
      rw [Array.getElem?_setIfInBounds_ne q']
      exact H i hi
  · by_cases q : i = k
    · simp only [own_updV, q, if_true]; exact hv
    · simp only [own_updV, q, if_false]; exact G i hi
end AV
section AI
variable {a b : Addr} {ty : FieldType} {n : Nat} {f : Nat → Int32}
theorem own_AI.lt (A : own_AI Z h a ty n f) : a < h.size := own_AV.lt A
theorem own_AI.ext (A : own_AI Z h a ty n f) (E : Ext h h') : own_AI Z h' a ty n f := own_AV.ext A E
theorem own_AI.other (A : own_AI Z h b ty n f) {sl : Nat} {v : Value} (W : Wr h h' a sl v) (q : b ≠ a) : own_AI Z h' b ty n f := own_AV.other A W q
theorem own_AI.keep {ws : List Addr} (A : own_AI Z h a ty n f) (K : Keep h h' ws) (q : a ∉ ws) : own_AI Z h' a ty n f := own_AV.keep A K q
theorem own_AI.congr {g : Nat → Int32} (A : own_AI Z h a ty n f) (q : ∀ i, i < n → f i = g i) : own_AI Z h a ty n g := own_AV.congr A fun i hi => congrArg Value.int (q i hi)
theorem own_AI.set {k : Nat} {v : Int32} (F : own_AI Z h a ty n f) (hk : k < n) (hv : fits ty (.int v) = true) (W : Wr h h' a k (.int v)) : own_AI Z h' a ty n (own_upd f k v) :=
  (own_AV.set F hk hv W).congr fun i _ => by
    by_cases q : i = k <;> simp [own_updV, own_upd, q]
end AI
section Rd
variable {a : Addr} {n k : Nat} {j : Int32} {g : JFrame} {rest : List Value}
theorem own_rdI {f : Nat → Int32} (X : Stand p l e R s m args below meth c T locs cells slots) (hx : p.tables.exec = Jvm.exec) (hZ : Z.Warmed39 s.vm) (eT : T.heap = h) (A : own_AI Z h a .int n f) (hj : j.toInt = (k : Int)) (hk : k < n) (hg : g.method = m) (hs : g.stack = .int j :: .ref a :: rest) (hd : decode c.code g.pc = .ok (.iaload, 1)) :
    ∀ t, Steps p.tables e below (T.setTop { g with pc := g.pc + 1, stack := .int (f k) :: rest }) t → Steps p.tables e below (T.setTop g) t := by
  obtain ⟨cl, A1, S, H, -⟩ := A
  obtain ⟨hin, e1⟩ := own_idx S hj hk
  exact X.iaload hx (by rw [eT]; exact A1.1) (State.isArrayOf_alike hZ.alike A1.2.1) A1.2.2 hin (by rw [e1]; exact H k hk) hg hs hd
theorem own_rdB {f : Nat → Int32} (X : Stand p l e R s m args below meth c T locs cells slots) (hx : p.tables.exec = Jvm.exec) (hZ : Z.Warmed39 s.vm) (eT : T.heap = h) (A : own_AI Z h a .byte n f) (hj : j.toInt = (k : Int)) (hk : k < n) (hg : g.method = m) (hs : g.stack = .int j :: .ref a :: rest) (hd : decode c.code g.pc = .ok (.baload, 1)) :
    ∀ t, Steps p.tables e below (T.setTop { g with pc := g.pc + 1, stack := .int (f k) :: rest }) t → Steps p.tables e below (T.setTop g) t := by
  obtain ⟨cl, A1, S, H, -⟩ := A
  obtain ⟨hin, e1⟩ := own_idx S hj hk
  exact X.baloadBytes hx (by rw [eT]; exact A1.1) (State.isArrayOf_alike hZ.alike A1.2.1) A1.2.2 hin (by rw [e1]; exact H k hk) hg hs hd
theorem own_rdZ {f : Nat → Int32} (X : Stand p l e R s m args below meth c T locs cells slots) (hx : p.tables.exec = Jvm.exec) (hZ : Z.Warmed39 s.vm) (eT : T.heap = h) (A : own_AI Z h a .boolean n f) (hj : j.toInt = (k : Int)) (hk : k < n) (hg : g.method = m) (hs : g.stack = .int j :: .ref a :: rest) (hd : decode c.code g.pc = .ok (.baload, 1)) :
    ∀ t, Steps p.tables e below (T.setTop { g with pc := g.pc + 1, stack := .int (f k) :: rest }) t → Steps p.tables e below (T.setTop g) t := by
  obtain ⟨cl, A1, S, H, -⟩ := A
  obtain ⟨hin, e1⟩ := own_idx S hj hk
  exact X.baloadBooleans hx (by rw [eT]; exact A1.1) (State.isArrayOf_alike hZ.alike A1.2.1) A1.2.2 hin (by rw [e1]; exact H k hk) hg hs hd
theorem own_rdC {f : Nat → Int32} (X : Stand p l e R s m args below meth c T locs cells slots) (hx : p.tables.exec = Jvm.exec) (hZ : Z.Warmed39 s.vm) (eT : T.heap = h) (A : own_AI Z h a .char n f) (hj : j.toInt = (k : Int)) (hk : k < n) (hg : g.method = m) (hs : g.stack = .int j :: .ref a :: rest) (hd : decode c.code g.pc = .ok (.caload, 1)) :
    ∀ t, Steps p.tables e below (T.setTop { g with pc := g.pc + 1, stack := .int (f k) :: rest }) t → Steps p.tables e below (T.setTop g) t := by
  obtain ⟨cl, A1, S, H, -⟩ := A
  obtain ⟨hin, e1⟩ := own_idx S hj hk
  exact X.caload hx (by rw [eT]; exact A1.1) (State.isArrayOf_alike hZ.alike A1.2.1) A1.2.2 hin (by rw [e1]; exact H k hk) hg hs hd
theorem own_wrC {f : Nat → Int32} {x : Int32} (X : Stand p l e R s m args below meth c T locs cells slots) (hx : p.tables.exec = Jvm.exec) (hZ : Z.Warmed39 s.vm) (eT : T.heap = h) (A : own_AI Z h a .char n f) (hj : j.toInt = (k : Int)) (hk : k < n) (hg : g.method = m) (hs : g.stack = .int x :: .int j :: .ref a :: rest) (hd : decode c.code g.pc = .ok (.castore, 1)) :
    ∃ T' h', Stand p l e R s m args below meth c T' (locs ++ [⟨a, k⟩]) cells slots ∧ T'.heap = h' ∧ Wr h h' a k (.int (nar .char x)) ∧ own_AI Z h' a .char n (own_upd f k (nar .char x)) ∧ ∀ t, Steps p.tables e below (T'.setTop { g with pc := g.pc + 1, stack := rest }) t → Steps p.tables e below (T.setTop g) t := by
  have A0 := A
  obtain ⟨cl, A1, S, H, -⟩ := A
  obtain ⟨hin, e1⟩ := own_idx S hj hk
  obtain ⟨T', h', X', e', W', st⟩ := stC X hx hZ eT A1 hin hg hs hd
  rw [e1] at X' W'
  exact ⟨T', h', X', e', W', A0.set hk (fits_nar_char x) W', st⟩
theorem own_rdL {f : Nat → Int64} (X : Stand p l e R s m args below meth c T locs cells slots) (hx : p.tables.exec = Jvm.exec) (hZ : Z.Warmed39 s.vm) (eT : T.heap = h) (A : own_AL Z h a n f) (hj : j.toInt = (k : Int)) (hk : k < n) (hg : g.method = m) (hs : g.stack = .int j :: .ref a :: rest) (hd : decode c.code g.pc = .ok (.laload, 1)) :
    ∀ t, Steps p.tables e below (T.setTop { g with pc := g.pc + 1, stack := .long (f k) :: rest }) t → Steps p.tables e below (T.setTop g) t := by
  obtain ⟨cl, A1, S, H, -⟩ := A
  obtain ⟨hin, e1⟩ := own_idx S hj hk
  exact X.laload hx (by rw [eT]; exact A1.1) (State.isArrayOf_alike hZ.alike A1.2.1) A1.2.2 hin (by rw [e1]; exact H k hk) hg hs hd
theorem own_rdR {f : Nat → Value} {ty : FieldType} (X : Stand p l e R s m args below meth c T locs cells slots) (hx : p.tables.exec = Jvm.exec) (hZ : Z.Warmed39 s.vm) (eT : T.heap = h) (A : own_AV Z h a ty n f) (ht : ty.isReference = true) (hj : j.toInt = (k : Int)) (hk : k < n) (hg : g.method = m) (hs : g.stack = .int j :: .ref a :: rest) (hd : decode c.code g.pc = .ok (.aaload, 1)) :
    ∀ t, Steps p.tables e below (T.setTop { g with pc := g.pc + 1, stack := f k :: rest }) t → Steps p.tables e below (T.setTop g) t := by
  obtain ⟨cl, A1, S, H, -⟩ := A
  obtain ⟨hin, e1⟩ := own_idx S hj hk
  exact X.aaload hx (by rw [eT]; exact A1.1) (State.isArrayOf_alike hZ.alike A1.2.1) ht A1.2.2 hin (by rw [e1]; exact H k hk) hg hs hd
theorem own_len {f : Nat → Value} {ty : FieldType} {z : Int32} (X : Stand p l e R s m args below meth c T locs cells slots) (hx : p.tables.exec = Jvm.exec) (hZ : Z.Warmed39 s.vm) (eT : T.heap = h) (A : own_AV Z h a ty n f) (hz : n.toInt32 = z) (hg : g.method = m) (hs : g.stack = .ref a :: rest) (hd : decode c.code g.pc = .ok (.arraylength, 1)) :
    ∀ t, Steps p.tables e below (T.setTop { g with pc := g.pc + 1, stack := .int z :: rest }) t → Steps p.tables e below (T.setTop g) t := by
  obtain ⟨cl, A1, S, -, -⟩ := A
  subst hz S
  exact X.arraylength hx (by rw [eT]; exact A1.1) (State.isArrayOf_alike hZ.alike A1.2.1) hg hs hd
theorem own_wrI {f : Nat → Int32} {x : Int32} (X : Stand p l e R s m args below meth c T locs cells slots) (hx : p.tables.exec = Jvm.exec) (hZ : Z.Warmed39 s.vm) (eT : T.heap = h) (A : own_AI Z h a .int n f) (hj : j.toInt = (k : Int)) (hk : k < n) (hg : g.method = m) (hs : g.stack = .int x :: .int j :: .ref a :: rest) (hd : decode c.code g.pc = .ok (.iastore, 1)) :
    ∃ T' h', Stand p l e R s m args below meth c T' (locs ++ [⟨a, k⟩]) cells slots ∧ T'.heap = h' ∧ Wr h h' a k (.int x) ∧ own_AI Z h' a .int n (own_upd f k x) ∧ ∀ t, Steps p.tables e below (T'.setTop { g with pc := g.pc + 1, stack := rest }) t → Steps p.tables e below (T.setTop g) t := by
  have A0 := A
  obtain ⟨cl, A1, S, H, -⟩ := A
  obtain ⟨hin, e1⟩ := own_idx S hj hk
  obtain ⟨T', h', X', e', W', st⟩ := stI X hx hZ eT A1 hin hg hs hd
  rw [e1] at X' W'
  exact ⟨T', h', X', e', W', A0.set hk rfl W', st⟩
theorem own_wrB {f : Nat → Int32} {x : Int32} (X : Stand p l e R s m args below meth c T locs cells slots) (hx : p.tables.exec = Jvm.exec) (hZ : Z.Warmed39 s.vm) (eT : T.heap = h) (A : own_AI Z h a .byte n f) (hj : j.toInt = (k : Int)) (hk : k < n) (hg : g.method = m) (hs : g.stack = .int x :: .int j :: .ref a :: rest) (hd : decode c.code g.pc = .ok (.bastore, 1)) :
    ∃ T' h', Stand p l e R s m args below meth c T' (locs ++ [⟨a, k⟩]) cells slots ∧ T'.heap = h' ∧ Wr h h' a k (.int (nar .byte x)) ∧ own_AI Z h' a .byte n (own_upd f k (nar .byte x)) ∧ ∀ t, Steps p.tables e below (T'.setTop { g with pc := g.pc + 1, stack := rest }) t → Steps p.tables e below (T.setTop g) t := by
  have A0 := A
  obtain ⟨cl, A1, S, H, -⟩ := A
  obtain ⟨hin, e1⟩ := own_idx S hj hk
  obtain ⟨T', h', X', e', W', st⟩ := stB X hx hZ eT A1 hin hg hs hd
  rw [e1] at X' W'
  exact ⟨T', h', X', e', W', A0.set hk (fits_nar_byte x) W', st⟩
theorem own_wrZ {f : Nat → Int32} {x : Int32} (X : Stand p l e R s m args below meth c T locs cells slots) (hx : p.tables.exec = Jvm.exec) (hZ : Z.Warmed39 s.vm) (eT : T.heap = h) (A : own_AI Z h a .boolean n f) (hj : j.toInt = (k : Int)) (hk : k < n) (hg : g.method = m) (hs : g.stack = .int x :: .int j :: .ref a :: rest) (hd : decode c.code g.pc = .ok (.bastore, 1)) :
    ∃ T' h', Stand p l e R s m args below meth c T' (locs ++ [⟨a, k⟩]) cells slots ∧ T'.heap = h' ∧ Wr h h' a k (.int (nar .boolean x)) ∧ own_AI Z h' a .boolean n (own_upd f k (nar .boolean x)) ∧ ∀ t, Steps p.tables e below (T'.setTop { g with pc := g.pc + 1, stack := rest }) t → Steps p.tables e below (T.setTop g) t := by
  have A0 := A
  obtain ⟨cl, A1, S, H, -⟩ := A
  obtain ⟨hin, e1⟩ := own_idx S hj hk
  obtain ⟨T', h', X', e', W', st⟩ := stZ X hx hZ eT A1 hin hg hs hd
  rw [e1] at X' W'
  exact ⟨T', h', X', e', W', A0.set hk (fits_nar_bool x) W', st⟩
theorem own_wrL {f : Nat → Int64} {x : Int64} (X : Stand p l e R s m args below meth c T locs cells slots) (hx : p.tables.exec = Jvm.exec) (hZ : Z.Warmed39 s.vm) (eT : T.heap = h) (A : own_AL Z h a n f) (hj : j.toInt = (k : Int)) (hk : k < n) (hg : g.method = m) (hs : g.stack = .long x :: .int j :: .ref a :: rest) (hd : decode c.code g.pc = .ok (.lastore, 1)) :
    ∃ T' h', Stand p l e R s m args below meth c T' (locs ++ [⟨a, k⟩]) cells slots ∧ T'.heap = h' ∧ Wr h h' a k (.long x) ∧ own_AL Z h' a n (own_updL f k x) ∧ ∀ t, Steps p.tables e below (T'.setTop { g with pc := g.pc + 1, stack := rest }) t → Steps p.tables e below (T.setTop g) t := by
  have A0 := A
  obtain ⟨cl, A1, S, H, -⟩ := A
  obtain ⟨hin, e1⟩ := own_idx S hj hk
  obtain ⟨T', h', X', e', W', st⟩ := stJ X hx hZ eT A1 hin hg hs hd
  rw [e1] at X' W'
  exact ⟨T', h', X', e', W', (own_AV.set A0 hk rfl W').congr fun i _ => by by_cases q : i = k <;> simp [own_updV, own_updL, q], st⟩
theorem own_wrR {f : Nat → Value} {ty : FieldType} {v : Value} (X : Stand p l e R s m args below meth c T locs cells slots) (hx : p.tables.exec = Jvm.exec) (hZ : Z.Warmed39 s.vm) (eT : T.heap = h) (A : own_AV Z h a ty n f) (ht : ty.isReference = true) (hv : fits ty v = true) (F : Sto Z h a v) (hj : j.toInt = (k : Int)) (hk : k < n) (hg : g.method = m) (hs : g.stack = v :: .int j :: .ref a :: rest) (hd : decode c.code g.pc = .ok (.aastore, 1)) :
    ∃ T' h', Stand p l e R s m args below meth c T' (locs ++ [⟨a, k⟩]) cells slots ∧ T'.heap = h' ∧ Wr h h' a k v ∧ own_AV Z h' a ty n (own_updV f k v) ∧ ∀ t, Steps p.tables e below (T'.setTop { g with pc := g.pc + 1, stack := rest }) t → Steps p.tables e below (T.setTop g) t := by
  have A0 := A
  obtain ⟨cl, A1, S, H, -⟩ := A
  obtain ⟨hin, e1⟩ := own_idx S hj hk
  obtain ⟨T', h', X', e', W', st⟩ := stR X hx hZ eT A1 hin ht F hg hs hd
  rw [e1] at X' W'
  exact ⟨T', h', X', e', W', A0.set hk hv W', st⟩
/-- newarray: the fresh array at a = the heap's old size -/
theorem own_newP {aty : ArrayType} {z : Int32} (X : Stand p l e R s m args below meth c T locs cells slots) (hx : p.tables.exec = Jvm.exec) (hZ : Z.Warmed39 s.vm) (w : (Jvm.Cond.arrayClass (newarray.typeOf aty)).before a0 Z = true) (eT : T.heap = h) (hz : z.toInt = (n : Int)) (hf : fits (newarray.typeOf aty) (defaultValue (newarray.typeOf aty)) = true) (hg : g.method = m) (hs : g.stack = .int z :: rest) (hd : decode c.code g.pc = .ok (.newarray aty, 2)) {cap : Nat} (hcap : n ≤ cap) (hb : cap * 8 ≤ 536870912) (hc : cells + 1 ≤ R.cells) (hl : slots + cap ≤ R.slots) :
    ∃ T' h' a, a = h.size ∧ Stand p l e R s m args below meth c T' locs (cells + 1) (slots + cap) ∧ T'.heap = h' ∧ Ext h h' ∧ own_AV Z h' a (newarray.typeOf aty) n (fun _ => defaultValue (newarray.typeOf aty)) ∧ ∀ t, Steps p.tables e below (T'.setTop { g with pc := g.pc + 2, stack := .ref a :: rest }) t → Steps p.tables e below (T.setTop g) t := by
  have e0 : (0 : Int32).toInt = 0 := by decide
  have e1 : z.toNatClampNeg = n := by show z.toInt.toNat = n; rw [hz]; rfl
  have hn : ¬ z < 0 := by rw [Int32.lt_iff_toInt_lt, e0, hz]; omega
  obtain ⟨T', h', cA, X', e', E', A', st⟩ := newP X hx hZ w eT hg hd hs hn (by rw [e1]; exact hcap) hb hc hl
  exact ⟨T', h', _, rfl, X', e', E', own_AV.new A' e1 hf, st⟩
/-- newarray: the fresh array, its class besides -/
theorem own_newPE {aty : ArrayType} {z : Int32} (X : Stand p l e R s m args below meth c T locs cells slots) (hx : p.tables.exec = Jvm.exec) (hZ : Z.Warmed39 s.vm) (w : (Jvm.Cond.arrayClass (newarray.typeOf aty)).before a0 Z = true) (eT : T.heap = h) (hz : z.toInt = (n : Int)) (hf : fits (newarray.typeOf aty) (defaultValue (newarray.typeOf aty)) = true) (hg : g.method = m) (hs : g.stack = .int z :: rest) (hd : decode c.code g.pc = .ok (.newarray aty, 2)) {cap : Nat} (hcap : n ≤ cap) (hb : cap * 8 ≤ 536870912) (hc : cells + 1 ≤ R.cells) (hl : slots + cap ≤ R.slots) {ad : String} (had : "[" ++ (newarray.typeOf aty).toString = ad) :
    ∃ T' h' a, a = h.size ∧ Stand p l e R s m args below meth c T' locs (cells + 1) (slots + cap) ∧ T'.heap = h' ∧ Ext h h' ∧ own_AV Z h' a (newarray.typeOf aty) n (fun _ => defaultValue (newarray.typeOf aty)) ∧ Exa Z h' a ad ∧ ∀ t, Steps p.tables e below (T'.setTop { g with pc := g.pc + 2, stack := .ref a :: rest }) t → Steps p.tables e below (T.setTop g) t := by
  have e0 : (0 : Int32).toInt = 0 := by decide
  have e1 : z.toNatClampNeg = n := by show z.toInt.toNat = n; rw [hz]; rfl
  have hn : ¬ z < 0 := by rw [Int32.lt_iff_toInt_lt, e0, hz]; omega
  obtain ⟨T', h', cA, X', e', E', A', E2, st⟩ := newPE X hx hZ w eT hg hd hs hn (by rw [e1]; exact hcap) hb hc hl had
  exact ⟨T', h', _, rfl, X', e', E', own_AV.new A' e1 hf, E2, st⟩
/-- anewarray: the fresh array of references, all null; what may lie in it -/
theorem own_newR {C : String} {z : Int32} {own : String} {index : Nat} (X : Stand p l e R s m args below meth c T locs cells slots) (hx : p.tables.exec = Jvm.exec) (hZ : Z.Warmed39 s.vm) (hown : s.vm.findClass own = some m.cls) (w1 : (Jvm.Cond.classLink own index C).before a0 Z = true) (w2 : (Jvm.Cond.arrayOver (.object C)).before a0 Z = true) (eT : T.heap = h) (hz : z.toInt = (n : Int)) (hg : g.method = m) (hs : g.stack = .int z :: rest) (hd : decode c.code g.pc = .ok (.anewarray index, 3)) {cap : Nat} (hcap : n ≤ cap) (hb : cap * 8 ≤ 536870912) (hc : cells + 1 ≤ R.cells) (hl : slots + cap ≤ R.slots) :
    ∃ T' h' a, a = h.size ∧ Stand p l e R s m args below meth c T' locs (cells + 1) (slots + cap) ∧ T'.heap = h' ∧ Ext h h' ∧ own_AV Z h' a (.object C) n (fun _ => .null) ∧ (∃ cl : Cell, h'[a]? = some cl ∧ Ovr Z cl.cls C) ∧ ∀ t, Steps p.tables e below (T'.setTop { g with pc := g.pc + 3, stack := .ref a :: rest }) t → Steps p.tables e below (T.setTop g) t := by
  have e0 : (0 : Int32).toInt = 0 := by decide
  have e1 : z.toNatClampNeg = n := by show z.toInt.toNat = n; rw [hz]; rfl
  have hn : ¬ z < 0 := by rw [Int32.lt_iff_toInt_lt, e0, hz]; omega
  obtain ⟨T', h', cA, X', e', E', A', O', st⟩ := newR X hx hZ hown w1 w2 eT hg hd hs hn (by rw [e1]; exact hcap) hb hc hl
  exact ⟨T', h', _, rfl, X', e', E', own_AV.new A' e1 rfl, ⟨_, A'.1, O'⟩, st⟩
/-- the array over class C at a takes an object of C -/
def own_Ov (Z : State) (h : Heap) (a : Addr) (C : String) : Prop := ∃ cl : Cell, h[a]? = some cl ∧ Ovr Z cl.cls C
theorem own_Ov.keep {a : Addr} {C : String} {ws : List Addr} (O : own_Ov Z h a C) (K : Keep h h' ws) : own_Ov Z h' a C := by
  obtain ⟨cl, h1, h2⟩ := O
  obtain ⟨c', q1, q2, -, -⟩ := K.2.2 a cl h1
  exact ⟨c', q1, by rw [q2]; exact h2⟩
theorem own_Ov.sto {a y : Addr} {C : String} {ty : FieldType} {f : Nat → Value} (O : own_Ov Z h a C) (A : own_AV Z h a ty n f) (I : Ins Z h y C true) : Sto Z h a (.ref y) := by
  obtain ⟨cl, h1, h2⟩ := O
  obtain ⟨c2, A2, -⟩ := A
  cases h1.symm.trans A2.1
  exact Sto.of A2 h2 I
/-- clone() of an array -/
theorem own_clone {own ad : String} {index : Nat} {ty : FieldType} {f : Nat → Value} (X : Stand p l e R s m args below meth c T locs cells slots) (hx : p.tables.exec = Jvm.exec) (hZ : Z.Warmed39 s.vm) (hown : s.vm.findClass own = some m.cls)
    (w1 : (Jvm.Cond.methodLink own index ⟨ad, "clone", "()Ljava/lang/Object;"⟩).before a0 Z = true) (w2 : (Jvm.Cond.sameMethod ad "java/lang/Object" "clone" "()Ljava/lang/Object;").before a0 Z = true) (w3 : (Jvm.Cond.native ⟨"java/lang/Object", "clone", "()Ljava/lang/Object;"⟩).before a0 Z = true)
    (w4 : (Jvm.Cond.instanceMethod ⟨"java/lang/Object", "clone", "()Ljava/lang/Object;"⟩).before a0 Z = true) (w5 : (Jvm.Cond.selects ad ⟨ad, "clone", "()Ljava/lang/Object;"⟩ ⟨"java/lang/Object", "clone", "()Ljava/lang/Object;"⟩).before a0 Z = true) (w6 : (Jvm.Cond.castable ad "java/lang/Cloneable").before a0 Z = true)
    (eT : T.heap = h) (A : own_AV Z h a ty n f) (E : Exa Z h a ad) (hg : g.method = m) (hsize : g.locals.size = c.maxLocals) (hs : g.stack = .ref a :: rest) (hd : decode c.code g.pc = .ok (.invokevirtual index, 3))
    (hf : 1 ≤ R.frames) {W : Nat} (hW : 2 * g.monitorRoom + (rest.map fun v => v.category).sum ≤ W) (hl : W + 14 ≤ R.locals) (hc : cells + 1 ≤ R.cells) (hsl : slots + n ≤ R.slots) :
    ∃ T' h' b, b = h.size ∧ Stand p l e R s m args below meth c T' locs (cells + 1) (slots + n) ∧ T'.heap = h' ∧ Ext h h' ∧ own_AV Z h' b ty n f ∧ Exa Z h' b ad ∧ ∀ t, Steps p.tables e below (T'.setTop { g with pc := g.pc + 3, stack := .ref b :: rest }) t → Steps p.tables e below (T.setTop g) t := by
  obtain ⟨cl, A1, S, H, G⟩ := A
  have F : FitC Z cl := fitC_of A1 fun i hi v hv => by
    rw [S] at hi
    rw [H i hi] at hv
    cases hv
    exact G i hi
  obtain ⟨T', h', X', e', E', A', E2, st⟩ := cloneA X hx hZ hown w1 w2 w3 w4 w5 w6 eT A1 E F hg hsize hs hd hf hW hl (Nat.le_of_eq S) hc hsl
  exact ⟨T', h', _, rfl, X', e', E', ⟨_, A', S, H, G⟩, E2, st⟩
end Rd
end Own
end Jvm.RoadKit
namespace Jvm.Pilot.@@N@@
open Jvm Jvm.ClassFile Sem Op Lib Jvm.Free Jvm.Stand Jvm.LawKit Jvm.RoadKit Bundle Jvm.Pilot.@@N@@.Jvm.D
theorem own_d2_0 : decode jdk_30_method_1_code 0 = .ok (.aload_n 0, 1) := by decide +kernel
theorem own_d2_1 : decode jdk_30_method_1_code 1 = .ok (.invokespecial 1, 3) := by decide +kernel
theorem own_d2_4 : decode jdk_30_method_1_code 4 = .ok (.return_, 1) := by decide +kernel
theorem own_pn0 : plainName "java/lang/Record" = true := by first | (simp [plainName, overriddenIn]; done) | decide +kernel
theorem own_efrec (m : MethodId) (a : Addr) : entryFrame m #[(.ref a)] 1 = mkF m 0 #[rv a] [] := by first | (simp [entryFrame, mkF, argsToLocals, Value.category]; done) | rfl
set_option maxRecDepth 65536 in
set_option maxHeartbeats 40000000 in
theorem own_rmrec (l : Launch) (Z : State) (a0 : Array Value) (hw : ∀ d ∈ tables_1, d.before a0 Z = true) (a : Addr) (h0 : Heap) (n0 : Nat) (Z0 : n0 ≤ h0.size) :
    own_Ct l Z (⟨"java/lang/Record", "<init>", "()V"⟩ : MethodName) jdk_30_method_1_code 1 none ({ frames := 1, cells := 0, slots := 0, locals := 12 } : Room) #[(.ref a)] h0 (fun v h L => v = none ∧ Fr n0 L ∧ h = h0) := by
  refine own_body (y := (⟨"java/lang/Record", "<init>", "()V"⟩ : MethodName)) (Q := fun v h L => v = none ∧ Fr n0 L ∧ h = h0) (plainFor_of_name own_pn0) ?_
  intro p e s m below meth c s₁ Bd hml0 hZ e0
  have hx := Bd.exec
  have hby := Bd.bytes
  have hml : c.maxLocals = 1 := hml0
  have hown : s.vm.findClass "java/lang/Record" = some m.cls := findClass_of_methodNamed Bd.named
  have hnm := (name_of_methodNamed Bd.named Bd.method).1
  have X0 : Stand p l e ({ frames := 1, cells := 0, slots := 0, locals := 12 } : Room) s m #[(.ref a)] below meth c s₁ [] 0 0 := Stand.of_body Bd
  have N0 := Fr.nil n0
  rw [own_efrec]
  have sg1 : own_V p e below s₁ (mkF m 1 #[rv a] [(.ref a)]) (mkF m 0 #[rv a] []) := by
    intro t kt
    refine XS.aloadN X0.here hx rfl (hb hby own_d2_0) rfl rfl ?_
    show own_S p e below s₁ m 1 #[rv a] [(.ref a)] _
    exact kt
  refine own_st sg1 ?_
  obtain ⟨T2, X2, e2, st2⟩ := initO X0 hx hZ hown (hw _ (List.mem_of_getElem? (i := 12) rfl)) (hw _ (List.mem_of_getElem? (i := 13) rfl)) (hw _ (List.mem_of_getElem? (i := 14) rfl)) e0 (g := (mkF m 1 #[rv a] [(.ref a)])) rfl (by rw [hml]; rfl) rfl (hb hby own_d2_1) (by decide) (W := 0) (by show 2 * 0 + _ ≤ _; exact Nat.le_of_eq rfl) (by decide)
  refine own_st st2 ?_
  show own_Go p e below _ T2 (mkF m 4 #[rv a] [])
  exact own_retV X2 hx Bd.notSynchronized Bd.returns (hb hby own_d2_4) (by decide) (by decide) e2 ⟨rfl, N0, rfl⟩
theorem own_d1_0 : decode prog_46_method_1_code 0 = .ok (.aload_n 0, 1) := by decide +kernel
theorem own_d1_1 : decode prog_46_method_1_code 1 = .ok (.invokespecial 3, 3) := by decide +kernel
theorem own_d1_4 : decode prog_46_method_1_code 4 = .ok (.iload_n 1, 1) := by decide +kernel
theorem own_d1_5 : decode prog_46_method_1_code 5 = .ok (.bipush 7, 2) := by decide +kernel
theorem own_d1_7 : decode prog_46_method_1_code 7 = .ok (.if_icmp .ge 17, 3) := by decide +kernel
theorem own_d1_10 : decode prog_46_method_1_code 10 = .ok (.new 11, 3) := by decide +kernel
theorem own_d1_13 : decode prog_46_method_1_code 13 = .ok (.dup, 1) := by decide +kernel
theorem own_d1_14 : decode prog_46_method_1_code 14 = .ok (.iload_n 1, 1) := by decide +kernel
theorem own_d1_15 : decode prog_46_method_1_code 15 = .ok (.invokedynamic 13, 5) := by decide +kernel
theorem own_d1_20 : decode prog_46_method_1_code 20 = .ok (.invokespecial 17, 3) := by decide +kernel
theorem own_d1_23 : decode prog_46_method_1_code 23 = .ok (.athrow, 1) := by decide +kernel
theorem own_d1_24 : decode prog_46_method_1_code 24 = .ok (.aload_n 0, 1) := by decide +kernel
theorem own_d1_25 : decode prog_46_method_1_code 25 = .ok (.iload_n 1, 1) := by decide +kernel
theorem own_d1_26 : decode prog_46_method_1_code 26 = .ok (.putfield 20, 3) := by decide +kernel
theorem own_d1_29 : decode prog_46_method_1_code 29 = .ok (.return_, 1) := by decide +kernel
theorem own_pd0 : parseMethodDescriptor "()V" = some ⟨[], none⟩ := by decide +kernel
theorem own_pn1 : plainName "com/example/cytowire/cytowire/intake/Limits" = true := by first | (simp [plainName, overriddenIn]; done) | decide +kernel
theorem own_eflim (m : MethodId) (a : Addr) (x : Int32) : entryFrame m #[(.ref a), (.int x)] 2 = mkF m 0 #[rv a, iv x] [] := by first | (simp [entryFrame, mkF, argsToLocals, Value.category]; done) | rfl
set_option maxRecDepth 65536 in
set_option maxHeartbeats 40000000 in
theorem own_rmlim (l : Launch) (Z : State) (a0 : Array Value) (hw : ∀ d ∈ tables_1, d.before a0 Z = true) (a : Addr) (x : Int32) (h0 : Heap) (n0 : Nat) (Z0 : n0 ≤ h0.size) (F : Fld Z h0 a "com/example/cytowire/cytowire/intake/Limits" "frame" "I" (.int (0 : Int32))) (EE : Exa Z h0 a "com/example/cytowire/cytowire/intake/Limits") (g_a : n0 ≤ a) (h7 : ¬ x < 7) :
    own_Ct l Z (⟨"com/example/cytowire/cytowire/intake/Limits", "<init>", "(I)V"⟩ : MethodName) prog_46_method_1_code 2 none ({ frames := 2, cells := 0, slots := 0, locals := 24 } : Room) #[(.ref a), (.int x)] h0 (fun v h L => v = none ∧ Fr n0 L ∧ Keep h0 h [a] ∧ Exa Z h a "com/example/cytowire/cytowire/intake/Limits" ∧ Fld Z h a "com/example/cytowire/cytowire/intake/Limits" "frame" "I" (.int x)) := by
  refine own_body (y := (⟨"com/example/cytowire/cytowire/intake/Limits", "<init>", "(I)V"⟩ : MethodName)) (Q := fun v h L => v = none ∧ Fr n0 L ∧ Keep h0 h [a] ∧ Exa Z h a "com/example/cytowire/cytowire/intake/Limits" ∧ Fld Z h a "com/example/cytowire/cytowire/intake/Limits" "frame" "I" (.int x)) (plainFor_of_name own_pn1) ?_
  intro p e s m below meth c s₁ Bd hml0 hZ e0
  have hx := Bd.exec
  have hby := Bd.bytes
  have hml : c.maxLocals = 2 := hml0
  have hown : s.vm.findClass "com/example/cytowire/cytowire/intake/Limits" = some m.cls := findClass_of_methodNamed Bd.named
  have hnm := (name_of_methodNamed Bd.named Bd.method).1
  have X0 : Stand p l e ({ frames := 2, cells := 0, slots := 0, locals := 24 } : Room) s m #[(.ref a), (.int x)] below meth c s₁ [] 0 0 := Stand.of_body Bd
  have N0 := Fr.nil n0
  rw [own_eflim]
  have sg1 : own_V p e below s₁ (mkF m 1 #[rv a, iv x] [(.ref a)]) (mkF m 0 #[rv a, iv x] []) := by
    intro t kt
    refine XS.aloadN X0.here hx rfl (hb hby own_d1_0) rfl rfl ?_
    show own_S p e below s₁ m 1 #[rv a, iv x] [(.ref a)] _
    exact kt
  refine own_st sg1 ?_
  obtain ⟨_, T2, L2, X2, hQ2, st2⟩ := own_callI (y := (⟨"java/lang/Record", "<init>", "()V"⟩ : MethodName)) (a := a) X0 hx hZ hown rfl (hw _ (List.mem_of_getElem? (i := 7) rfl)) (hw _ (List.mem_of_getElem? (i := 8) rfl)) (hw _ (List.mem_of_getElem? (i := 10) rfl)) (hw _ (List.mem_of_getElem? (i := 11) rfl)) (by decide) (own_rmrec l Z a0 hw a h0 n0 Z0) e0 (g := (mkF m 1 #[rv a, iv x] [(.ref a)])) rfl (by rw [hml]; rfl) (argsL := []) (rest := []) (lenOf own_pd0 rfl) rfl (W := 0) (by show 2 * 0 + _ ≤ _; exact Nat.le_of_eq rfl) (hb hby own_d1_1) (by decide) (by decide) (by decide) (by decide)
  obtain ⟨rfl, Nq2, e2⟩ := hQ2
  refine own_st st2 ?_
  have N2 := Fr.app N0 Nq2
  show own_Go p e below _ T2 (mkF m 4 #[rv a, iv x] [])
  have sg3 : own_V p e below T2 (mkF m 7 #[rv a, iv x] [(.int (7 : Int32)), (.int x)]) (mkF m 4 #[rv a, iv x] []) := by
    intro t kt
    refine XS.iloadN X2.here hx rfl (hb hby own_d1_4) rfl ?_
    show own_S p e below T2 m 5 #[rv a, iv x] [(.int x)] _
    refine XS.bipush X2.here hx rfl (hb hby own_d1_5) ?_
    show own_S p e below T2 m 7 #[rv a, iv x] [(.int (7 : Int32)), (.int x)] _
    exact kt
  refine own_st sg3 ?_
  have hc4 : ¬ x < (7 : Int32) := h7
  have sg5 : own_V p e below T2 (mkF m 24 #[rv a, iv x] []) (mkF m 7 #[rv a, iv x] [(.int (7 : Int32)), (.int x)]) := by
    intro t kt
    refine XS.icmpYes X2.here hx rfl (pc0 := 7) (pc' := 24) rfl (hb hby own_d1_7) rfl (flt hc4).2.1 (by decide) (by decide) ?_
    exact kt
  refine own_st sg5 ?_
  have sg6 : own_V p e below T2 (mkF m 26 #[rv a, iv x] [(.int x), (.ref a)]) (mkF m 24 #[rv a, iv x] []) := by
    intro t kt
    refine XS.aloadN X2.here hx rfl (hb hby own_d1_24) rfl rfl ?_
    show own_S p e below T2 m 25 #[rv a, iv x] [(.ref a)] _
    refine XS.iloadN X2.here hx rfl (hb hby own_d1_25) rfl ?_
    show own_S p e below T2 m 26 #[rv a, iv x] [(.int x), (.ref a)] _
    exact kt
  refine own_st sg6 ?_
  obtain ⟨T7, h7, X7, e7, W7, st7⟩ := putF X2 hx hZ hown (host := "") (Or.inl (hw _ (List.mem_of_getElem? (i := 15) rfl))) Via.refl e2 F EE (Or.inr ⟨(hw _ (List.mem_of_getElem? (i := 16) rfl)), rfl, hnm⟩) (hw _ (List.mem_of_getElem? (i := 2) rfl)) (ty := .int) (by decide) rfl rfl (g := (mkF m 26 #[rv a, iv x] [(.int x), (.ref a)])) rfl rfl (hb hby own_d1_26)
  refine own_st st7 ?_
  have Z7 : n0 ≤ h7.size := by rw [Wr.size W7]; exact Z0
  have N7 := Fr.snoc X7 N2 g_a
  show own_Go p e below _ T7 (mkF m 29 #[rv a, iv x] [])
  exact own_retV X7 hx Bd.notSynchronized Bd.returns (hb hby own_d1_29) (by decide) (by decide) e7 ⟨rfl, N7, (Keep.refl _ _).wr W7 (Or.inl (List.mem_of_getElem? (i := 0) rfl)), EE.wr W7, F.same W7⟩
theorem own_d5_0 : decode prog_46_method_7_code 0 = .ok (.aload_n 0, 1) := by decide +kernel
theorem own_d5_1 : decode prog_46_method_7_code 1 = .ok (.getfield 20, 3) := by decide +kernel
theorem own_d5_4 : decode prog_46_method_7_code 4 = .ok (.ireturn, 1) := by decide +kernel
theorem own_effrm (m : MethodId) (a : Addr) : entryFrame m #[(.ref a)] 1 = mkF m 0 #[rv a] [] := by first | (simp [entryFrame, mkF, argsToLocals, Value.category]; done) | rfl
set_option maxRecDepth 65536 in
set_option maxHeartbeats 40000000 in
theorem own_rmfrm (l : Launch) (Z : State) (a0 : Array Value) (hw : ∀ d ∈ tables_1, d.before a0 Z = true) (a : Addr) (x : Int32) (h0 : Heap) (n0 : Nat) (Z0 : n0 ≤ h0.size) (F : Fld Z h0 a "com/example/cytowire/cytowire/intake/Limits" "frame" "I" (.int x)) (EE : Exa Z h0 a "com/example/cytowire/cytowire/intake/Limits") :
    own_Ct l Z (⟨"com/example/cytowire/cytowire/intake/Limits", "frame", "()I"⟩ : MethodName) prog_46_method_7_code 1 (some .int) ({ frames := 0, cells := 0, slots := 0, locals := 0 } : Room) #[(.ref a)] h0 (fun v h L => v = some (.int x) ∧ Fr n0 L ∧ h = h0) := by
  refine own_body (y := (⟨"com/example/cytowire/cytowire/intake/Limits", "frame", "()I"⟩ : MethodName)) (Q := fun v h L => v = some (.int x) ∧ Fr n0 L ∧ h = h0) (plainFor_of_name own_pn1) ?_
  intro p e s m below meth c s₁ Bd hml0 hZ e0
  have hx := Bd.exec
  have hby := Bd.bytes
  have hml : c.maxLocals = 1 := hml0
  have hown : s.vm.findClass "com/example/cytowire/cytowire/intake/Limits" = some m.cls := findClass_of_methodNamed Bd.named
  have hnm := (name_of_methodNamed Bd.named Bd.method).1
  have X0 : Stand p l e ({ frames := 0, cells := 0, slots := 0, locals := 0 } : Room) s m #[(.ref a)] below meth c s₁ [] 0 0 := Stand.of_body Bd
  have N0 := Fr.nil n0
  rw [own_effrm]
  have sg1 : own_V p e below s₁ (mkF m 1 #[rv a] [(.ref a)]) (mkF m 0 #[rv a] []) := by
    intro t kt
    refine XS.aloadN X0.here hx rfl (hb hby own_d5_0) rfl rfl ?_
    show own_S p e below s₁ m 1 #[rv a] [(.ref a)] _
    exact kt
  refine own_st sg1 ?_
  obtain ⟨T2, X2, e2, st2⟩ := getF X0 hx hZ hown (host := "") (Or.inl (hw _ (List.mem_of_getElem? (i := 15) rfl))) Via.refl e0 F (g := (mkF m 1 #[rv a] [(.ref a)])) rfl rfl (hb hby own_d5_1)
  refine own_st st2 ?_
  show own_Go p e below _ T2 (mkF m 4 #[rv a] [(.int x)])
  exact own_retI X2 hx Bd.notSynchronized Bd.returns (hb hby own_d5_4) (by decide) (by decide) e2 ⟨rfl, N0, rfl⟩
theorem own_d7_0 : decode prog_46_method_2_code 0 = .ok (.aload_n 0, 1) := by decide +kernel
theorem own_d7_1 : decode prog_46_method_2_code 1 = .ok (.getfield 20, 3) := by decide +kernel
theorem own_d7_4 : decode prog_46_method_2_code 4 = .ok (.i2l, 1) := by decide +kernel
theorem own_d7_5 : decode prog_46_method_2_code 5 = .ok (.ldc2_w 26, 3) := by decide +kernel
theorem own_d7_8 : decode prog_46_method_2_code 8 = .ok (.lmul, 1) := by decide +kernel
theorem own_d7_9 : decode prog_46_method_2_code 9 = .ok (.lreturn, 1) := by decide +kernel
theorem own_efmsg (m : MethodId) (a : Addr) : entryFrame m #[(.ref a)] 1 = mkF m 0 #[rv a] [] := by first | (simp [entryFrame, mkF, argsToLocals, Value.category]; done) | rfl
set_option maxRecDepth 65536 in
set_option maxHeartbeats 40000000 in
theorem own_rmmsg (l : Launch) (Z : State) (a0 : Array Value) (hw : ∀ d ∈ tables_1, d.before a0 Z = true) (a : Addr) (x : Int32) (h0 : Heap) (n0 : Nat) (Z0 : n0 ≤ h0.size) (F : Fld Z h0 a "com/example/cytowire/cytowire/intake/Limits" "frame" "I" (.int x)) (EE : Exa Z h0 a "com/example/cytowire/cytowire/intake/Limits") :
    own_Ct l Z (⟨"com/example/cytowire/cytowire/intake/Limits", "message", "()J"⟩ : MethodName) prog_46_method_2_code 1 (some .long) ({ frames := 0, cells := 0, slots := 0, locals := 0 } : Room) #[(.ref a)] h0 (fun v h L => v = some (.long (x.toInt64 * (4 : Int64))) ∧ Fr n0 L ∧ h = h0) := by
  refine own_body (y := (⟨"com/example/cytowire/cytowire/intake/Limits", "message", "()J"⟩ : MethodName)) (Q := fun v h L => v = some (.long (x.toInt64 * (4 : Int64))) ∧ Fr n0 L ∧ h = h0) (plainFor_of_name own_pn1) ?_
  intro p e s m below meth c s₁ Bd hml0 hZ e0
  have hx := Bd.exec
  have hby := Bd.bytes
  have hml : c.maxLocals = 1 := hml0
  have hown : s.vm.findClass "com/example/cytowire/cytowire/intake/Limits" = some m.cls := findClass_of_methodNamed Bd.named
  have hnm := (name_of_methodNamed Bd.named Bd.method).1
  have X0 : Stand p l e ({ frames := 0, cells := 0, slots := 0, locals := 0 } : Room) s m #[(.ref a)] below meth c s₁ [] 0 0 := Stand.of_body Bd
  have N0 := Fr.nil n0
  rw [own_efmsg]
  have sg1 : own_V p e below s₁ (mkF m 1 #[rv a] [(.ref a)]) (mkF m 0 #[rv a] []) := by
    intro t kt
    refine XS.aloadN X0.here hx rfl (hb hby own_d7_0) rfl rfl ?_
    show own_S p e below s₁ m 1 #[rv a] [(.ref a)] _
    exact kt
  refine own_st sg1 ?_
  obtain ⟨T2, X2, e2, st2⟩ := getF X0 hx hZ hown (host := "") (Or.inl (hw _ (List.mem_of_getElem? (i := 15) rfl))) Via.refl e0 F (g := (mkF m 1 #[rv a] [(.ref a)])) rfl rfl (hb hby own_d7_1)
  refine own_st st2 ?_
  show own_Go p e below _ T2 (mkF m 4 #[rv a] [(.int x)])
  have sg3 : own_V p e below T2 (mkF m 9 #[rv a] [(.long (x.toInt64 * (4 : Int64)))]) (mkF m 4 #[rv a] [(.int x)]) := by
    intro t kt
    refine XS.i2l X2.here hx rfl (hb hby own_d7_4) rfl ?_
    show own_S p e below T2 m 5 #[rv a] [(.long x.toInt64)] _
    refine X2.ldc2Long hx hown (mvT hZ (hw _ (List.mem_of_getElem? (i := 37) rfl))) (g := (mkF m 5 #[rv a] [(.long x.toInt64)])) rfl (hb hby own_d7_5) _ ?_
    show own_S p e below T2 m 8 #[rv a] [(.long (4 : Int64)), (.long x.toInt64)] _
    refine XS.lmul X2.here hx rfl (hb hby own_d7_8) rfl ?_
    show own_S p e below T2 m 9 #[rv a] [(.long (x.toInt64 * (4 : Int64)))] _
    exact kt
  refine own_st sg3 ?_
  exact own_retJ X2 hx Bd.notSynchronized Bd.returns (hb hby own_d7_9) (by decide) (by decide) e2 ⟨rfl, N0, rfl⟩
theorem own_d8_0 : decode prog_57_method_16_code 0 = .ok (.lload_n 0, 1) := by decide +kernel
theorem own_d8_1 : decode prog_57_method_16_code 1 = .ok (.ldc2_w 238, 3) := by decide +kernel
theorem own_d8_4 : decode prog_57_method_16_code 4 = .ok (.ladd, 1) := by decide +kernel
theorem own_d8_5 : decode prog_57_method_16_code 5 = .ok (.lconst 1, 1) := by decide +kernel
theorem own_d8_6 : decode prog_57_method_16_code 6 = .ok (.lsub, 1) := by decide +kernel
theorem own_d8_7 : decode prog_57_method_16_code 7 = .ok (.ldc2_w 238, 3) := by decide +kernel
theorem own_d8_10 : decode prog_57_method_16_code 10 = .ok (.ldiv, 1) := by decide +kernel
theorem own_d8_11 : decode prog_57_method_16_code 11 = .ok (.ldc2_w 238, 3) := by decide +kernel
theorem own_d8_14 : decode prog_57_method_16_code 14 = .ok (.lmul, 1) := by decide +kernel
theorem own_d8_15 : decode prog_57_method_16_code 15 = .ok (.lreturn, 1) := by decide +kernel
def own_steps (x : Int64) : Int64 := ((((x + (4096 : Int64)) - (1 : Int64)) / (4096 : Int64)) * (4096 : Int64))
theorem own_pn2 : plainName "com/example/cytowire/cytowire/listen/MessageRoom" = true := by first | (simp [plainName, overriddenIn]; done) | decide +kernel
theorem own_efstp (m : MethodId) (x : Int64) : entryFrame m #[(.long x)] 2 = mkF m 0 #[own_lv x, .second] [] := by first | (simp [entryFrame, mkF, argsToLocals, Value.category]; done) | rfl
set_option maxRecDepth 65536 in
set_option maxHeartbeats 40000000 in
theorem own_rmstp (l : Launch) (Z : State) (a0 : Array Value) (hw : ∀ d ∈ tables_1, d.before a0 Z = true) (x : Int64) (h0 : Heap) (n0 : Nat) (Z0 : n0 ≤ h0.size) :
    own_Ct l Z (⟨"com/example/cytowire/cytowire/listen/MessageRoom", "steps", "(J)J"⟩ : MethodName) prog_57_method_16_code 2 (some .long) ({ frames := 0, cells := 0, slots := 0, locals := 0 } : Room) #[(.long x)] h0 (fun v h L => v = some (.long (own_steps x)) ∧ Fr n0 L ∧ h = h0) := by
  refine own_body (y := (⟨"com/example/cytowire/cytowire/listen/MessageRoom", "steps", "(J)J"⟩ : MethodName)) (Q := fun v h L => v = some (.long (own_steps x)) ∧ Fr n0 L ∧ h = h0) (plainFor_of_name own_pn2) ?_
  intro p e s m below meth c s₁ Bd hml0 hZ e0
  have hx := Bd.exec
  have hby := Bd.bytes
  have hml : c.maxLocals = 2 := hml0
  have hown : s.vm.findClass "com/example/cytowire/cytowire/listen/MessageRoom" = some m.cls := findClass_of_methodNamed Bd.named
  have hnm := (name_of_methodNamed Bd.named Bd.method).1
  have X0 : Stand p l e ({ frames := 0, cells := 0, slots := 0, locals := 0 } : Room) s m #[(.long x)] below meth c s₁ [] 0 0 := Stand.of_body Bd
  have N0 := Fr.nil n0
  rw [own_efstp]
  obtain ⟨r, hr⟩ : ∃ z : Int64, z = ((((x + (4096 : Int64)) - (1 : Int64)) / (4096 : Int64)) * (4096 : Int64)) := ⟨_, rfl⟩
  have sg1 : own_V p e below s₁ (mkF m 15 #[own_lv x, .second] [(.long r)]) (mkF m 0 #[own_lv x, .second] []) := by
    intro t kt
    refine XS.lloadN X0.here hx rfl (hb hby own_d8_0) rfl ?_
    show own_S p e below s₁ m 1 #[own_lv x, .second] [(.long x)] _
    refine X0.ldc2Long hx hown (mvT hZ (hw _ (List.mem_of_getElem? (i := 41) rfl))) (g := (mkF m 1 #[own_lv x, .second] [(.long x)])) rfl (hb hby own_d8_1) _ ?_
    show own_S p e below s₁ m 4 #[own_lv x, .second] [(.long (4096 : Int64)), (.long x)] _
    refine XS.ladd X0.here hx rfl (hb hby own_d8_4) rfl ?_
    show own_S p e below s₁ m 5 #[own_lv x, .second] [(.long (x + (4096 : Int64)))] _
    refine XS.lconst X0.here hx rfl (hb hby own_d8_5) ?_
    show own_S p e below s₁ m 6 #[own_lv x, .second] [(.long (1 : Int64)), (.long (x + (4096 : Int64)))] _
    refine XS.lsub X0.here hx rfl (hb hby own_d8_6) rfl ?_
    show own_S p e below s₁ m 7 #[own_lv x, .second] [(.long ((x + (4096 : Int64)) - (1 : Int64)))] _
    refine X0.ldc2Long hx hown (mvT hZ (hw _ (List.mem_of_getElem? (i := 41) rfl))) (g := (mkF m 7 #[own_lv x, .second] [(.long ((x + (4096 : Int64)) - (1 : Int64)))])) rfl (hb hby own_d8_7) _ ?_
    show own_S p e below s₁ m 10 #[own_lv x, .second] [(.long (4096 : Int64)), (.long ((x + (4096 : Int64)) - (1 : Int64)))] _
    refine XS.ldiv X0.here hx rfl (hb hby own_d8_10) rfl (by decide) ?_
    show own_S p e below s₁ m 11 #[own_lv x, .second] [(.long (((x + (4096 : Int64)) - (1 : Int64)) / (4096 : Int64)))] _
    refine X0.ldc2Long hx hown (mvT hZ (hw _ (List.mem_of_getElem? (i := 41) rfl))) (g := (mkF m 11 #[own_lv x, .second] [(.long (((x + (4096 : Int64)) - (1 : Int64)) / (4096 : Int64)))])) rfl (hb hby own_d8_11) _ ?_
    show own_S p e below s₁ m 14 #[own_lv x, .second] [(.long (4096 : Int64)), (.long (((x + (4096 : Int64)) - (1 : Int64)) / (4096 : Int64)))] _
    refine XS.lmul X0.here hx rfl (hb hby own_d8_14) rfl ?_
    show own_S p e below s₁ m 15 #[own_lv x, .second] [(.long ((((x + (4096 : Int64)) - (1 : Int64)) / (4096 : Int64)) * (4096 : Int64)))] _
    rw [hr] at kt
    exact kt
  refine own_st sg1 ?_
  exact own_retJ X0 hx Bd.notSynchronized Bd.returns (hb hby own_d8_15) (by decide) (by decide) e0 ⟨by rw [hr]; rfl, N0, rfl⟩
theorem own_d6_0 : decode prog_57_method_7_code 0 = .ok (.aload_n 0, 1) := by decide +kernel
theorem own_d6_1 : decode prog_57_method_7_code 1 = .ok (.invokevirtual 83, 3) := by decide +kernel
theorem own_d6_4 : decode prog_57_method_7_code 4 = .ok (.invokestatic 86, 3) := by decide +kernel
theorem own_d6_7 : decode prog_57_method_7_code 7 = .ok (.lreturn, 1) := by decide +kernel
theorem own_pd1 : parseMethodDescriptor "()J" = some ⟨[], some .long⟩ := by decide +kernel
theorem own_pd2 : parseMethodDescriptor "(J)J" = some ⟨[.long], some .long⟩ := by decide +kernel
theorem own_eflr (m : MethodId) (a : Addr) : entryFrame m #[(.ref a)] 1 = mkF m 0 #[rv a] [] := by first | (simp [entryFrame, mkF, argsToLocals, Value.category]; done) | rfl
set_option maxRecDepth 65536 in
set_option maxHeartbeats 40000000 in
theorem own_rmlr (l : Launch) (Z : State) (a0 : Array Value) (hw : ∀ d ∈ tables_1, d.before a0 Z = true) (a : Addr) (x : Int32) (h0 : Heap) (n0 : Nat) (Z0 : n0 ≤ h0.size) (F : Fld Z h0 a "com/example/cytowire/cytowire/intake/Limits" "frame" "I" (.int x)) (EE : Exa Z h0 a "com/example/cytowire/cytowire/intake/Limits") :
    own_Ct l Z (⟨"com/example/cytowire/cytowire/listen/MessageRoom", "leastRoom", "(Lcom/example/cytowire/cytowire/intake/Limits;)J"⟩ : MethodName) prog_57_method_7_code 1 (some .long) ({ frames := 1, cells := 0, slots := 0, locals := 13 } : Room) #[(.ref a)] h0 (fun v h L => v = some (.long (own_steps (x.toInt64 * (4 : Int64)))) ∧ Fr n0 L ∧ h = h0) := by
  refine own_body (y := (⟨"com/example/cytowire/cytowire/listen/MessageRoom", "leastRoom", "(Lcom/example/cytowire/cytowire/intake/Limits;)J"⟩ : MethodName)) (Q := fun v h L => v = some (.long (own_steps (x.toInt64 * (4 : Int64)))) ∧ Fr n0 L ∧ h = h0) (plainFor_of_name own_pn2) ?_
  intro p e s m below meth c s₁ Bd hml0 hZ e0
  have hx := Bd.exec
  have hby := Bd.bytes
  have hml : c.maxLocals = 1 := hml0
  have hown : s.vm.findClass "com/example/cytowire/cytowire/listen/MessageRoom" = some m.cls := findClass_of_methodNamed Bd.named
  have hnm := (name_of_methodNamed Bd.named Bd.method).1
  have X0 : Stand p l e ({ frames := 1, cells := 0, slots := 0, locals := 13 } : Room) s m #[(.ref a)] below meth c s₁ [] 0 0 := Stand.of_body Bd
  have N0 := Fr.nil n0
  rw [own_eflr]
  have sg1 : own_V p e below s₁ (mkF m 1 #[rv a] [(.ref a)]) (mkF m 0 #[rv a] []) := by
    intro t kt
    refine XS.aloadN X0.here hx rfl (hb hby own_d6_0) rfl rfl ?_
    show own_S p e below s₁ m 1 #[rv a] [(.ref a)] _
    exact kt
  refine own_st sg1 ?_
  obtain ⟨_, T2, L2, X2, hQ2, st2⟩ := own_callV (y := (⟨"com/example/cytowire/cytowire/intake/Limits", "message", "()J"⟩ : MethodName)) (y0 := (⟨"com/example/cytowire/cytowire/intake/Limits", "message", "()J"⟩ : MethodName)) (a := a) (C := "com/example/cytowire/cytowire/intake/Limits") X0 hx hZ hown EE (hw _ (List.mem_of_getElem? (i := 32) rfl)) (hw _ (List.mem_of_getElem? (i := 33) rfl)) (hw _ (List.mem_of_getElem? (i := 35) rfl)) (notFace_of_selects (args := #[]) (mvT hZ (hw _ (List.mem_of_getElem? (i := 35) rfl)))) (hw _ (List.mem_of_getElem? (i := 34) rfl)) (hw _ (List.mem_of_getElem? (i := 3) rfl)) (hw _ (List.mem_of_getElem? (i := 36) rfl)) (by decide) (own_rmmsg l Z a0 hw a x h0 n0 Z0 F EE) e0 (g := (mkF m 1 #[rv a] [(.ref a)])) rfl (by rw [hml]; rfl) (argsL := []) (rest := []) (lenOf own_pd1 rfl) rfl (W := 0) (by show 2 * 0 + _ ≤ _; exact Nat.le_of_eq rfl) (hb hby own_d6_1) (by decide) (by decide) (by decide) (by decide)
  obtain ⟨rfl, Nq2, e2⟩ := hQ2
  refine own_st st2 ?_
  have N2 := Fr.app N0 Nq2
  show own_Go p e below _ T2 (mkF m 4 #[rv a] [(.long (x.toInt64 * (4 : Int64)))])
  obtain ⟨_, T3, L3, X3, hQ3, st3⟩ := own_callS (y := (⟨"com/example/cytowire/cytowire/listen/MessageRoom", "steps", "(J)J"⟩ : MethodName)) X2 hx hZ hown (hw _ (List.mem_of_getElem? (i := 38) rfl)) (hw _ (List.mem_of_getElem? (i := 39) rfl)) (hw _ (List.mem_of_getElem? (i := 19) rfl)) (hw _ (List.mem_of_getElem? (i := 40) rfl)) (by decide) (own_rmstp l Z a0 hw (x.toInt64 * (4 : Int64)) h0 n0 Z0) e2 (g := (mkF m 4 #[rv a] [(.long (x.toInt64 * (4 : Int64)))])) rfl (by rw [hml]; rfl) (argsL := [(.long (x.toInt64 * (4 : Int64)))]) (rest := []) (lenOf own_pd2 rfl) rfl (W := 0) (by show 2 * 0 + _ ≤ _; exact Nat.le_of_eq rfl) (hb hby own_d6_4) (by decide) (by decide) (by decide) (by decide)
  obtain ⟨rfl, Nq3, e3⟩ := hQ3
  refine own_st st3 ?_
  have N3 := Fr.app N2 Nq3
  show own_Go p e below _ T3 (mkF m 7 #[rv a] [(.long (own_steps (x.toInt64 * (4 : Int64))))])
  exact own_retJ X3 hx Bd.notSynchronized Bd.returns (hb hby own_d6_7) (by decide) (by decide) e3 ⟨rfl, N3, rfl⟩
theorem own_d4_0 : decode prog_57_method_8_code 0 = .ok (.ldc2_w 90, 3) := by decide +kernel
theorem own_d4_3 : decode prog_57_method_8_code 3 = .ok (.ldc2_w 92, 3) := by decide +kernel
theorem own_d4_6 : decode prog_57_method_8_code 6 = .ok (.aload_n 0, 1) := by decide +kernel
theorem own_d4_7 : decode prog_57_method_8_code 7 = .ok (.invokevirtual 94, 3) := by decide +kernel
theorem own_d4_10 : decode prog_57_method_8_code 10 = .ok (.i2l, 1) := by decide +kernel
theorem own_d4_11 : decode prog_57_method_8_code 11 = .ok (.lmul, 1) := by decide +kernel
theorem own_d4_12 : decode prog_57_method_8_code 12 = .ok (.ladd, 1) := by decide +kernel
theorem own_d4_13 : decode prog_57_method_8_code 13 = .ok (.ldc2_w 52, 3) := by decide +kernel
theorem own_d4_16 : decode prog_57_method_8_code 16 = .ok (.aload_n 0, 1) := by decide +kernel
theorem own_d4_17 : decode prog_57_method_8_code 17 = .ok (.invokestatic 7, 3) := by decide +kernel
theorem own_d4_20 : decode prog_57_method_8_code 20 = .ok (.lmul, 1) := by decide +kernel
theorem own_d4_21 : decode prog_57_method_8_code 21 = .ok (.ladd, 1) := by decide +kernel
theorem own_d4_22 : decode prog_57_method_8_code 22 = .ok (.lreturn, 1) := by decide +kernel
theorem own_pd3 : parseMethodDescriptor "()I" = some ⟨[], some .int⟩ := by decide +kernel
theorem own_pd4 : parseMethodDescriptor "(Lcom/example/cytowire/cytowire/intake/Limits;)J" = some ⟨[(.object "com/example/cytowire/cytowire/intake/Limits")], some .long⟩ := by decide +kernel
def own_heap (x : Int32) : Int64 := (((1048576 : Int64) + ((5 : Int64) * x.toInt64)) + ((6 : Int64) * (own_steps (x.toInt64 * (4 : Int64)))))
theorem own_eflh (m : MethodId) (a : Addr) : entryFrame m #[(.ref a)] 1 = mkF m 0 #[rv a] [] := by first | (simp [entryFrame, mkF, argsToLocals, Value.category]; done) | rfl
set_option maxRecDepth 65536 in
set_option maxHeartbeats 40000000 in
theorem own_rmlh (l : Launch) (Z : State) (a0 : Array Value) (hw : ∀ d ∈ tables_1, d.before a0 Z = true) (a : Addr) (x : Int32) (h0 : Heap) (n0 : Nat) (Z0 : n0 ≤ h0.size) (F : Fld Z h0 a "com/example/cytowire/cytowire/intake/Limits" "frame" "I" (.int x)) (EE : Exa Z h0 a "com/example/cytowire/cytowire/intake/Limits") :
    own_Ct l Z (⟨"com/example/cytowire/cytowire/listen/MessageRoom", "leastHeap", "(Lcom/example/cytowire/cytowire/intake/Limits;)J"⟩ : MethodName) prog_57_method_8_code 1 (some .long) ({ frames := 2, cells := 0, slots := 0, locals := 29 } : Room) #[(.ref a)] h0 (fun v h L => v = some (.long (own_heap x)) ∧ Fr n0 L ∧ h = h0) := by
  refine own_body (y := (⟨"com/example/cytowire/cytowire/listen/MessageRoom", "leastHeap", "(Lcom/example/cytowire/cytowire/intake/Limits;)J"⟩ : MethodName)) (Q := fun v h L => v = some (.long (own_heap x)) ∧ Fr n0 L ∧ h = h0) (plainFor_of_name own_pn2) ?_
  intro p e s m below meth c s₁ Bd hml0 hZ e0
  have hx := Bd.exec
  have hby := Bd.bytes
  have hml : c.maxLocals = 1 := hml0
  have hown : s.vm.findClass "com/example/cytowire/cytowire/listen/MessageRoom" = some m.cls := findClass_of_methodNamed Bd.named
  have hnm := (name_of_methodNamed Bd.named Bd.method).1
  have X0 : Stand p l e ({ frames := 2, cells := 0, slots := 0, locals := 29 } : Room) s m #[(.ref a)] below meth c s₁ [] 0 0 := Stand.of_body Bd
  have N0 := Fr.nil n0
  rw [own_eflh]
  have sg1 : own_V p e below s₁ (mkF m 7 #[rv a] [(.ref a), (.long (5 : Int64)), (.long (1048576 : Int64))]) (mkF m 0 #[rv a] []) := by
    intro t kt
    refine X0.ldc2Long hx hown (mvT hZ (hw _ (List.mem_of_getElem? (i := 21) rfl))) (g := (mkF m 0 #[rv a] [])) rfl (hb hby own_d4_0) _ ?_
    show own_S p e below s₁ m 3 #[rv a] [(.long (1048576 : Int64))] _
    refine X0.ldc2Long hx hown (mvT hZ (hw _ (List.mem_of_getElem? (i := 22) rfl))) (g := (mkF m 3 #[rv a] [(.long (1048576 : Int64))])) rfl (hb hby own_d4_3) _ ?_
    show own_S p e below s₁ m 6 #[rv a] [(.long (5 : Int64)), (.long (1048576 : Int64))] _
    refine XS.aloadN X0.here hx rfl (hb hby own_d4_6) rfl rfl ?_
    show own_S p e below s₁ m 7 #[rv a] [(.ref a), (.long (5 : Int64)), (.long (1048576 : Int64))] _
    exact kt
  refine own_st sg1 ?_
  obtain ⟨_, T2, L2, X2, hQ2, st2⟩ := own_callV (y := (⟨"com/example/cytowire/cytowire/intake/Limits", "frame", "()I"⟩ : MethodName)) (y0 := (⟨"com/example/cytowire/cytowire/intake/Limits", "frame", "()I"⟩ : MethodName)) (a := a) (C := "com/example/cytowire/cytowire/intake/Limits") X0 hx hZ hown EE (hw _ (List.mem_of_getElem? (i := 23) rfl)) (hw _ (List.mem_of_getElem? (i := 24) rfl)) (hw _ (List.mem_of_getElem? (i := 26) rfl)) (notFace_of_selects (args := #[]) (mvT hZ (hw _ (List.mem_of_getElem? (i := 26) rfl)))) (hw _ (List.mem_of_getElem? (i := 25) rfl)) (hw _ (List.mem_of_getElem? (i := 3) rfl)) (hw _ (List.mem_of_getElem? (i := 27) rfl)) (by decide) (own_rmfrm l Z a0 hw a x h0 n0 Z0 F EE) e0 (g := (mkF m 7 #[rv a] [(.ref a), (.long (5 : Int64)), (.long (1048576 : Int64))])) rfl (by rw [hml]; rfl) (argsL := []) (rest := [(.long (5 : Int64)), (.long (1048576 : Int64))]) (lenOf own_pd3 rfl) rfl (W := 4) (by show 2 * 0 + _ ≤ _; exact Nat.le_of_eq rfl) (hb hby own_d4_7) (by decide) (by decide) (by decide) (by decide)
  obtain ⟨rfl, Nq2, e2⟩ := hQ2
  refine own_st st2 ?_
  have N2 := Fr.app N0 Nq2
  show own_Go p e below _ T2 (mkF m 10 #[rv a] [(.int x), (.long (5 : Int64)), (.long (1048576 : Int64))])
  have sg3 : own_V p e below T2 (mkF m 17 #[rv a] [(.ref a), (.long (6 : Int64)), (.long ((1048576 : Int64) + ((5 : Int64) * x.toInt64)))]) (mkF m 10 #[rv a] [(.int x), (.long (5 : Int64)), (.long (1048576 : Int64))]) := by
    intro t kt
    refine XS.i2l X2.here hx rfl (hb hby own_d4_10) rfl ?_
    show own_S p e below T2 m 11 #[rv a] [(.long x.toInt64), (.long (5 : Int64)), (.long (1048576 : Int64))] _
    refine XS.lmul X2.here hx rfl (hb hby own_d4_11) rfl ?_
    show own_S p e below T2 m 12 #[rv a] [(.long ((5 : Int64) * x.toInt64)), (.long (1048576 : Int64))] _
    refine XS.ladd X2.here hx rfl (hb hby own_d4_12) rfl ?_
    show own_S p e below T2 m 13 #[rv a] [(.long ((1048576 : Int64) + ((5 : Int64) * x.toInt64)))] _
    refine X2.ldc2Long hx hown (mvT hZ (hw _ (List.mem_of_getElem? (i := 28) rfl))) (g := (mkF m 13 #[rv a] [(.long ((1048576 : Int64) + ((5 : Int64) * x.toInt64)))])) rfl (hb hby own_d4_13) _ ?_
    show own_S p e below T2 m 16 #[rv a] [(.long (6 : Int64)), (.long ((1048576 : Int64) + ((5 : Int64) * x.toInt64)))] _
    refine XS.aloadN X2.here hx rfl (hb hby own_d4_16) rfl rfl ?_
    show own_S p e below T2 m 17 #[rv a] [(.ref a), (.long (6 : Int64)), (.long ((1048576 : Int64) + ((5 : Int64) * x.toInt64)))] _
    exact kt
  refine own_st sg3 ?_
  obtain ⟨_, T4, L4, X4, hQ4, st4⟩ := own_callS (y := (⟨"com/example/cytowire/cytowire/listen/MessageRoom", "leastRoom", "(Lcom/example/cytowire/cytowire/intake/Limits;)J"⟩ : MethodName)) X2 hx hZ hown (hw _ (List.mem_of_getElem? (i := 29) rfl)) (hw _ (List.mem_of_getElem? (i := 30) rfl)) (hw _ (List.mem_of_getElem? (i := 19) rfl)) (hw _ (List.mem_of_getElem? (i := 31) rfl)) (by decide) (own_rmlr l Z a0 hw a x h0 n0 Z0 F EE) e2 (g := (mkF m 17 #[rv a] [(.ref a), (.long (6 : Int64)), (.long ((1048576 : Int64) + ((5 : Int64) * x.toInt64)))])) rfl (by rw [hml]; rfl) (argsL := [(.ref a)]) (rest := [(.long (6 : Int64)), (.long ((1048576 : Int64) + ((5 : Int64) * x.toInt64)))]) (lenOf own_pd4 rfl) rfl (W := 4) (by show 2 * 0 + _ ≤ _; exact Nat.le_of_eq rfl) (hb hby own_d4_17) (by decide) (by decide) (by decide) (by decide)
  obtain ⟨rfl, Nq4, e4⟩ := hQ4
  refine own_st st4 ?_
  have N4 := Fr.app N2 Nq4
  show own_Go p e below _ T4 (mkF m 20 #[rv a] [(.long (own_steps (x.toInt64 * (4 : Int64)))), (.long (6 : Int64)), (.long ((1048576 : Int64) + ((5 : Int64) * x.toInt64)))])
  obtain ⟨r, hr⟩ : ∃ z : Int64, z = (((1048576 : Int64) + ((5 : Int64) * x.toInt64)) + ((6 : Int64) * (own_steps (x.toInt64 * (4 : Int64))))) := ⟨_, rfl⟩
  have sg5 : own_V p e below T4 (mkF m 22 #[rv a] [(.long r)]) (mkF m 20 #[rv a] [(.long (own_steps (x.toInt64 * (4 : Int64)))), (.long (6 : Int64)), (.long ((1048576 : Int64) + ((5 : Int64) * x.toInt64)))]) := by
    intro t kt
    refine XS.lmul X4.here hx rfl (hb hby own_d4_20) rfl ?_
    show own_S p e below T4 m 21 #[rv a] [(.long ((6 : Int64) * (own_steps (x.toInt64 * (4 : Int64))))), (.long ((1048576 : Int64) + ((5 : Int64) * x.toInt64)))] _
    refine XS.ladd X4.here hx rfl (hb hby own_d4_21) rfl ?_
    show own_S p e below T4 m 22 #[rv a] [(.long (((1048576 : Int64) + ((5 : Int64) * x.toInt64)) + ((6 : Int64) * (own_steps (x.toInt64 * (4 : Int64))))))] _
    rw [hr] at kt
    exact kt
  refine own_st sg5 ?_
  exact own_retJ X4 hx Bd.notSynchronized Bd.returns (hb hby own_d4_22) (by decide) (by decide) e4 ⟨by rw [hr]; rfl, N4, rfl⟩
theorem own_f7 (x f : Int32) (hf : f = (if (x &&& (2147483647 : Int32)) < (7 : Int32) then ((x &&& (2147483647 : Int32)) + (7 : Int32)) else (x &&& (2147483647 : Int32)))) : 7 ≤ f.toInt := by
  have m1 : (x &&& (2147483647 : Int32)).toInt = x.toInt % ((2 ^ 31 : Nat) : Int) := c_mask x 2147483647 31 (by decide) (by decide)
  have e7 : (7 : Int32).toInt = 7 := by decide
  generalize (x &&& (2147483647 : Int32)) = y at *
  have c1 := c_iadd y 7
  have r1 := rng32 (y + 7)
  rw [e7] at c1
  by_cases q : y < 7
  · rw [if_pos q] at hf
    rw [Int32.lt_iff_toInt_lt, e7] at q
    rw [hf]; omega
  · rw [if_neg q] at hf
    rw [Int32.lt_iff_toInt_lt, e7] at q
    rw [hf]; omega
theorem own_ge7 {f : Int32} (h : 7 ≤ f.toInt) : ¬ f < 7 := by
  have e7 : (7 : Int32).toInt = 7 := by decide
  rw [Int32.lt_iff_toInt_lt, e7]; omega
theorem own_vals (f : Int32) (mm dd : Int64) (hf7 : 7 ≤ f.toInt) (hmm : mm = ((4 : Int64) * f.toInt64)) (hdd : dd = (((own_heap f) - (1048576 : Int64)) - ((5 : Int64) * f.toInt64))) :
    mm.toInt = 4 * f.toInt ∧ dd.toInt = 6 * ((4 * f.toInt + 4095) / 4096 * 4096) := by
  have rf := rng32 f
  have e4 : (4 : Int64).toInt = 4 := by decide
  have e5 : (5 : Int64).toInt = 5 := by decide
  have e6 : (6 : Int64).toInt = 6 := by decide
  have e1 : (1 : Int64).toInt = 1 := by decide
  have e4096 : (4096 : Int64).toInt = 4096 := by decide
  have eM : (1048576 : Int64).toInt = 1048576 := by decide
  have x0 : f.toInt64.toInt = f.toInt := c_i2l f
  have x1 : ((4 : Int64) * f.toInt64).toInt = 4 * f.toInt := by
    have c := c_lmul 4 f.toInt64; have r := rng64 ((4 : Int64) * f.toInt64); rw [e4, x0] at c; omega
  have x2 : (f.toInt64 * (4 : Int64)).toInt = 4 * f.toInt := by
    have c := c_lmul f.toInt64 4; have r := rng64 (f.toInt64 * (4 : Int64)); rw [e4, x0] at c; omega
  have x3 : ((5 : Int64) * f.toInt64).toInt = 5 * f.toInt := by
    have c := c_lmul 5 f.toInt64; have r := rng64 ((5 : Int64) * f.toInt64); rw [e5, x0] at c; omega
  have x4 : (own_steps (f.toInt64 * (4 : Int64))).toInt = (4 * f.toInt + 4095) / 4096 * 4096 := by
    unfold own_steps
    generalize f.toInt64 * (4 : Int64) = u at *
    have c1 := c_ladd u 4096
    have r1 := rng64 (u + 4096)
    rw [e4096] at c1
    have c2 := c_lsub (u + 4096) 1
    have r2 := rng64 ((u + 4096) - 1)
    rw [e1] at c2
    have c3 := (c_ldiv ((u + 4096) - 1) 4096 4096 e4096 (by decide)).1 (by omega)
    have c4 := c_lmul (((u + 4096) - 1) / 4096) 4096
    have r4 := rng64 ((((u + 4096) - 1) / 4096) * 4096)
    rw [e4096] at c4
    omega
  refine ⟨by rw [hmm]; exact x1, ?_⟩
  unfold own_heap at hdd
  generalize own_steps (f.toInt64 * (4 : Int64)) = u at *
  generalize (5 : Int64) * f.toInt64 = w at *
  have c1 := c_ladd 1048576 w
  have r1 := rng64 ((1048576 : Int64) + w)
  rw [eM] at c1
  have c2 := c_lmul 6 u
  have r2 := rng64 ((6 : Int64) * u)
  rw [e6] at c2
  have c3 := c_ladd ((1048576 : Int64) + w) ((6 : Int64) * u)
  have r3 := rng64 (((1048576 : Int64) + w) + ((6 : Int64) * u))
  have c4 := c_lsub (((1048576 : Int64) + w) + ((6 : Int64) * u)) 1048576
  have r4 := rng64 ((((1048576 : Int64) + w) + ((6 : Int64) * u)) - 1048576)
  rw [eM] at c4
  have c5 := c_lsub ((((1048576 : Int64) + w) + ((6 : Int64) * u)) - 1048576) w
  have r5 := rng64 (((((1048576 : Int64) + w) + ((6 : Int64) * u)) - 1048576) - w)
  rw [← hdd] at c5 r5
  omega
theorem own_eqL {x y : Int64} (h : x.toInt = y.toInt) : x = y := Int64.toInt_inj.mp h
theorem own_rem0 (x y : Int64) (d : Int) (hy : y.toInt = d) (h0 : 0 ≤ x.toInt) (h1 : x.toInt % d = 0) : (x - (x / y) * y) = (0 : Int64) := by
  have e0 : (0 : Int64).toInt = 0 := by decide
  exact own_eqL (by rw [(c_lrem x y d hy).1 h0, e0, h1])
theorem own_p1 (f : Int32) (mm dd : Int64) (hf7 : 7 ≤ f.toInt) (hmm : mm = ((4 : Int64) * f.toInt64)) (hdd : dd = (((own_heap f) - (1048576 : Int64)) - ((5 : Int64) * f.toInt64))) : (dd - (dd / (6 : Int64)) * (6 : Int64)) = (0 : Int64) := by
  obtain ⟨v1, v2⟩ := own_vals f mm dd hf7 hmm hdd
  exact own_rem0 dd 6 6 (by decide) (by omega) (by omega)
theorem own_rr (f : Int32) (mm dd rr : Int64) (hf7 : 7 ≤ f.toInt) (hmm : mm = ((4 : Int64) * f.toInt64)) (hdd : dd = (((own_heap f) - (1048576 : Int64)) - ((5 : Int64) * f.toInt64))) (hrr : rr = (dd / (6 : Int64))) :
    mm.toInt = 4 * f.toInt ∧ rr.toInt = (4 * f.toInt + 4095) / 4096 * 4096 := by
  obtain ⟨v1, v2⟩ := own_vals f mm dd hf7 hmm hdd
  have c := (c_ldiv dd 6 6 (by decide) (by decide)).1 (by omega)
  rw [← hrr] at c
  exact ⟨v1, by omega⟩
theorem own_p2 (f : Int32) (mm dd rr : Int64) (hf7 : 7 ≤ f.toInt) (hmm : mm = ((4 : Int64) * f.toInt64)) (hdd : dd = (((own_heap f) - (1048576 : Int64)) - ((5 : Int64) * f.toInt64))) (hrr : rr = (dd / (6 : Int64))) : (rr - (rr / (4096 : Int64)) * (4096 : Int64)) = (0 : Int64) := by
  obtain ⟨v1, v2⟩ := own_rr f mm dd rr hf7 hmm hdd hrr
  exact own_rem0 rr 4096 4096 (by decide) (by omega) (by omega)
theorem own_p3 (f : Int32) (mm dd rr : Int64) (hf7 : 7 ≤ f.toInt) (hmm : mm = ((4 : Int64) * f.toInt64)) (hdd : dd = (((own_heap f) - (1048576 : Int64)) - ((5 : Int64) * f.toInt64))) (hrr : rr = (dd / (6 : Int64))) : ¬ rr < mm := by
  obtain ⟨v1, v2⟩ := own_rr f mm dd rr hf7 hmm hdd hrr
  rw [Int64.lt_iff_toInt_lt]; omega
theorem own_p4 (f : Int32) (mm dd rr : Int64) (hf7 : 7 ≤ f.toInt) (hmm : mm = ((4 : Int64) * f.toInt64)) (hdd : dd = (((own_heap f) - (1048576 : Int64)) - ((5 : Int64) * f.toInt64))) (hrr : rr = (dd / (6 : Int64))) : (rr - (4096 : Int64)) < mm := by
  obtain ⟨v1, v2⟩ := own_rr f mm dd rr hf7 hmm hdd hrr
  have rf := rng32 f
  have c := c_lsub rr 4096
  have r := rng64 (rr - 4096)
  have e4096 : (4096 : Int64).toInt = 4096 := by decide
  rw [e4096] at c
  rw [Int64.lt_iff_toInt_lt]; omega
theorem own_pd5 : parseMethodDescriptor "(I)V" = some ⟨[.int], none⟩ := by decide +kernel
theorem own_pn3 : plainName "com/example/cytowire/cytowire/listen/MessageRoomLeastHeapPinLaw" = true := by first | (simp [plainName, overriddenIn]; done) | decide +kernel
theorem own_eflaw (m : MethodId) (x : Int32) : entryFrame m #[(.int x)] maxLocals = mkF m 0 #[iv x, .unset, .unset, .unset, .unset, .unset, .unset, .unset, .unset, .unset, .unset] [] := by first | (simp [entryFrame, mkF, argsToLocals, Value.category, maxLocals]; done) | rfl
set_option maxRecDepth 65536 in
set_option maxHeartbeats 40000000 in
theorem own_rmlaw (l : Launch) (Z : State) (a0 : Array Value) (hw : ∀ d ∈ tables_1, d.before a0 Z = true) (x : Int32) (h0 : Heap) (n0 : Nat) (Z0 : n0 ≤ h0.size) :
    MetFree l Jvm.Pilot.@@N@@.x (head1 (Jvm.Cond.code Jvm.Pilot.@@N@@.x code maxLocals ret :: tables_1) room_1) (fun a U => a = #[(.int x)] ∧ Z.Warmed39 U.vm ∧ U.heap = h0) (fun _ _ _ _ _ => True) (fun _ U o U' => ∃ v L, o = .returned v ∧ (fun v h L => v = some (.int 1) ∧ Fr n0 L) v U'.heap L ∧ FrameEnd U o U' L 1 1) := by
  refine own_body (y := Jvm.Pilot.@@N@@.x) (Q := fun v h L => v = some (.int 1) ∧ Fr n0 L) (plainFor_of_name own_pn3) ?_
  intro p e s m below meth c s₁ Bd hml0 hZ e0
  have hx := Bd.exec
  have hby := Bd.bytes
  have hml : c.maxLocals = 11 := hml0
  have hown : s.vm.findClass "com/example/cytowire/cytowire/listen/MessageRoomLeastHeapPinLaw" = some m.cls := findClass_of_methodNamed Bd.named
  have hnm := (name_of_methodNamed Bd.named Bd.method).1
  have X0 : Stand p l e room_1 s m #[(.int x)] below meth c s₁ [] 0 0 := Stand.of_body Bd
  have N0 := Fr.nil n0
  rw [own_eflaw]
  obtain ⟨f, hf⟩ : ∃ z : Int32, z = (if (x &&& (2147483647 : Int32)) < (7 : Int32) then ((x &&& (2147483647 : Int32)) + (7 : Int32)) else (x &&& (2147483647 : Int32))) := ⟨_, rfl⟩
  have sg2 : own_V p e below s₁ (mkF m 16 #[iv x, iv f, .unset, .unset, .unset, .unset, .unset, .unset, .unset, .unset, .unset] []) (mkF m 0 #[iv x, .unset, .unset, .unset, .unset, .unset, .unset, .unset, .unset, .unset, .unset] []) := by
    intro t kt
    refine XS.iloadN X0.here hx rfl (hb hby at_0) rfl ?_
    show own_S p e below s₁ m 1 #[iv x, .unset, .unset, .unset, .unset, .unset, .unset, .unset, .unset, .unset, .unset] [(.int x)] _
    refine X0.ldcInt hx hown (mvT hZ (hw _ (List.mem_of_getElem? (i := 0) rfl))) (g := (mkF m 1 #[iv x, .unset, .unset, .unset, .unset, .unset, .unset, .unset, .unset, .unset, .unset] [(.int x)])) rfl (hb hby at_1) _ ?_
    show own_S p e below s₁ m 3 #[iv x, .unset, .unset, .unset, .unset, .unset, .unset, .unset, .unset, .unset, .unset] [(.int (2147483647 : Int32)), (.int x)] _
    refine XS.iand X0.here hx rfl (hb hby at_3) rfl ?_
    show own_S p e below s₁ m 4 #[iv x, .unset, .unset, .unset, .unset, .unset, .unset, .unset, .unset, .unset, .unset] [(.int (x &&& (2147483647 : Int32)))] _
    refine XS.istoreN X0.here hx rfl (hb hby at_4) rfl (l' := #[iv x, iv (x &&& (2147483647 : Int32)), .unset, .unset, .unset, .unset, .unset, .unset, .unset, .unset, .unset]) rfl ?_
    show own_S p e below s₁ m 5 #[iv x, iv (x &&& (2147483647 : Int32)), .unset, .unset, .unset, .unset, .unset, .unset, .unset, .unset, .unset] [] _
    refine XS.iloadN X0.here hx rfl (hb hby at_5) rfl ?_
    show own_S p e below s₁ m 6 #[iv x, iv (x &&& (2147483647 : Int32)), .unset, .unset, .unset, .unset, .unset, .unset, .unset, .unset, .unset] [(.int (x &&& (2147483647 : Int32)))] _
    refine XS.bipush X0.here hx rfl (hb hby at_6) ?_
    show own_S p e below s₁ m 8 #[iv x, iv (x &&& (2147483647 : Int32)), .unset, .unset, .unset, .unset, .unset, .unset, .unset, .unset, .unset] [(.int (7 : Int32)), (.int (x &&& (2147483647 : Int32)))] _
    by_cases hc1 : (x &&& (2147483647 : Int32)) < (7 : Int32)
    · refine XS.icmpNo X0.here hx rfl (hb hby at_8) rfl (tlt hc1).2.1 ?_
      show own_S p e below s₁ m 11 #[iv x, iv (x &&& (2147483647 : Int32)), .unset, .unset, .unset, .unset, .unset, .unset, .unset, .unset, .unset] [] _
      refine XS.iloadN X0.here hx rfl (hb hby at_11) rfl ?_
      show own_S p e below s₁ m 12 #[iv x, iv (x &&& (2147483647 : Int32)), .unset, .unset, .unset, .unset, .unset, .unset, .unset, .unset, .unset] [(.int (x &&& (2147483647 : Int32)))] _
      refine XS.bipush X0.here hx rfl (hb hby at_12) ?_
      show own_S p e below s₁ m 14 #[iv x, iv (x &&& (2147483647 : Int32)), .unset, .unset, .unset, .unset, .unset, .unset, .unset, .unset, .unset] [(.int (7 : Int32)), (.int (x &&& (2147483647 : Int32)))] _
      refine XS.iadd X0.here hx rfl (hb hby at_14) rfl ?_
      show own_S p e below s₁ m 15 #[iv x, iv (x &&& (2147483647 : Int32)), .unset, .unset, .unset, .unset, .unset, .unset, .unset, .unset, .unset] [(.int ((x &&& (2147483647 : Int32)) + (7 : Int32)))] _
      refine XS.istoreN X0.here hx rfl (hb hby at_15) rfl (l' := #[iv x, iv ((x &&& (2147483647 : Int32)) + (7 : Int32)), .unset, .unset, .unset, .unset, .unset, .unset, .unset, .unset, .unset]) rfl ?_
      show own_S p e below s₁ m 16 #[iv x, iv ((x &&& (2147483647 : Int32)) + (7 : Int32)), .unset, .unset, .unset, .unset, .unset, .unset, .unset, .unset, .unset] [] _
      rw [show f = ((x &&& (2147483647 : Int32)) + (7 : Int32)) from by rw [hf, if_pos hc1]] at kt
      exact kt
    · refine XS.icmpYes X0.here hx rfl (pc0 := 8) (pc' := 16) rfl (hb hby at_8) rfl (flt hc1).2.1 (by decide) (by decide) ?_
      show own_S p e below s₁ m 16 #[iv x, iv (x &&& (2147483647 : Int32)), .unset, .unset, .unset, .unset, .unset, .unset, .unset, .unset, .unset] [] _
      rw [show f = (x &&& (2147483647 : Int32)) from by rw [hf, if_neg hc1]] at kt
      exact kt
  refine own_st sg2 ?_
  have hf7 := own_f7 x f hf
  obtain ⟨T3, h3, X3, e3, E3, A3, D3, -, st3⟩ := newO X0 hx hZ hown (hw _ (List.mem_of_getElem? (i := 1) rfl)) (hw _ (List.mem_of_getElem? (i := 2) rfl)) (hw _ (List.mem_of_getElem? (i := 3) rfl)) e0 (g := (mkF m 16 #[iv x, iv f, .unset, .unset, .unset, .unset, .unset, .unset, .unset, .unset, .unset] [])) rfl (hb hby at_16) (by decide) (by decide)
  obtain ⟨a3, g3⟩ : ∃ z, z = h0.size := ⟨_, rfl⟩
  rw [← g3] at A3 D3 st3
  refine own_st st3 ?_
  have g_a3 : n0 ≤ a3 := by rw [g3]; exact Z0
  have Z3 : n0 ≤ h3.size := Nat.le_trans Z0 E3.1
  show own_Go p e below _ T3 (mkF m 19 #[iv x, iv f, .unset, .unset, .unset, .unset, .unset, .unset, .unset, .unset, .unset] [(.ref a3)])
  have F3 : Fld Z h3 a3 "com/example/cytowire/cytowire/intake/Limits" "frame" "I" (.int (0 : Int32)) := D3 (Or.inr (hw _ (List.mem_of_getElem? (i := 16) rfl))) (ty := .int) (by decide)
  have sg4 : own_V p e below T3 (mkF m 21 #[iv x, iv f, .unset, .unset, .unset, .unset, .unset, .unset, .unset, .unset, .unset] [(.int f), (.ref a3), (.ref a3)]) (mkF m 19 #[iv x, iv f, .unset, .unset, .unset, .unset, .unset, .unset, .unset, .unset, .unset] [(.ref a3)]) := by
    intro t kt
    refine XS.dup X3.here hx rfl (hb hby at_19) rfl rfl ?_
    show own_S p e below T3 m 20 #[iv x, iv f, .unset, .unset, .unset, .unset, .unset, .unset, .unset, .unset, .unset] [(.ref a3), (.ref a3)] _
    refine XS.iloadN X3.here hx rfl (hb hby at_20) rfl ?_
    show own_S p e below T3 m 21 #[iv x, iv f, .unset, .unset, .unset, .unset, .unset, .unset, .unset, .unset, .unset] [(.int f), (.ref a3), (.ref a3)] _
    exact kt
  refine own_st sg4 ?_
  obtain ⟨_, T5, L5, X5, hQ5, st5⟩ := own_callI (y := (⟨"com/example/cytowire/cytowire/intake/Limits", "<init>", "(I)V"⟩ : MethodName)) (a := a3) X3 hx hZ hown rfl (hw _ (List.mem_of_getElem? (i := 4) rfl)) (hw _ (List.mem_of_getElem? (i := 5) rfl)) (hw _ (List.mem_of_getElem? (i := 3) rfl)) (hw _ (List.mem_of_getElem? (i := 6) rfl)) (by decide) (own_rmlim l Z a0 hw a3 f h3 n0 Z3 F3 A3 g_a3 (own_ge7 hf7)) e3 (g := (mkF m 21 #[iv x, iv f, .unset, .unset, .unset, .unset, .unset, .unset, .unset, .unset, .unset] [(.int f), (.ref a3), (.ref a3)])) rfl (by rw [hml]; rfl) (argsL := [(.int f)]) (rest := [(.ref a3)]) (lenOf own_pd5 rfl) rfl (W := 1) (by show 2 * 0 + _ ≤ _; exact Nat.le_of_eq rfl) (hb hby at_21) (by decide) (by decide) (by decide) (by decide)
  obtain ⟨rfl, Nq5, K5, A5, F5⟩ := hQ5
  refine own_st st5 ?_
  have Z5 : n0 ≤ T5.heap.size := Nat.le_trans Z3 K5.1
  have N5 := Fr.app N0 Nq5
  show own_Go p e below _ T5 (mkF m 24 #[iv x, iv f, .unset, .unset, .unset, .unset, .unset, .unset, .unset, .unset, .unset] [(.ref a3)])
  have sg6 : own_V p e below T5 (mkF m 26 #[iv x, iv f, rv a3, .unset, .unset, .unset, .unset, .unset, .unset, .unset, .unset] [(.ref a3)]) (mkF m 24 #[iv x, iv f, .unset, .unset, .unset, .unset, .unset, .unset, .unset, .unset, .unset] [(.ref a3)]) := by
    intro t kt
    refine XS.astoreN X5.here hx rfl (hb hby at_24) rfl rfl (l' := #[iv x, iv f, rv a3, .unset, .unset, .unset, .unset, .unset, .unset, .unset, .unset]) rfl ?_
    show own_S p e below T5 m 25 #[iv x, iv f, rv a3, .unset, .unset, .unset, .unset, .unset, .unset, .unset, .unset] [] _
    refine XS.aloadN X5.here hx rfl (hb hby at_25) rfl rfl ?_
    show own_S p e below T5 m 26 #[iv x, iv f, rv a3, .unset, .unset, .unset, .unset, .unset, .unset, .unset, .unset] [(.ref a3)] _
    exact kt
  refine own_st sg6 ?_
  obtain ⟨_, T7, L7, X7, hQ7, st7⟩ := own_callS (y := (⟨"com/example/cytowire/cytowire/listen/MessageRoom", "leastHeap", "(Lcom/example/cytowire/cytowire/intake/Limits;)J"⟩ : MethodName)) X5 hx hZ hown (hw _ (List.mem_of_getElem? (i := 17) rfl)) (hw _ (List.mem_of_getElem? (i := 18) rfl)) (hw _ (List.mem_of_getElem? (i := 19) rfl)) (hw _ (List.mem_of_getElem? (i := 20) rfl)) (by decide) (own_rmlh l Z a0 hw a3 f T5.heap n0 Z5 F5 A5) rfl (g := (mkF m 26 #[iv x, iv f, rv a3, .unset, .unset, .unset, .unset, .unset, .unset, .unset, .unset] [(.ref a3)])) rfl (by rw [hml]; rfl) (argsL := [(.ref a3)]) (rest := []) (lenOf own_pd4 rfl) rfl (W := 0) (by show 2 * 0 + _ ≤ _; exact Nat.le_of_eq rfl) (hb hby at_26) (by decide) (by decide) (by decide) (by decide)
  obtain ⟨rfl, Nq7, e7⟩ := hQ7
  refine own_st st7 ?_
  have N7 := Fr.app N5 Nq7
  show own_Go p e below _ T7 (mkF m 29 #[iv x, iv f, rv a3, .unset, .unset, .unset, .unset, .unset, .unset, .unset, .unset] [(.long (own_heap f))])
  obtain ⟨mm, hmm⟩ : ∃ z : Int64, z = ((4 : Int64) * f.toInt64) := ⟨_, rfl⟩
  obtain ⟨dd, hdd⟩ : ∃ z : Int64, z = (((own_heap f) - (1048576 : Int64)) - ((5 : Int64) * f.toInt64)) := ⟨_, rfl⟩
  have sg8 : own_V p e below T7 (mkF m 52 #[iv x, iv f, rv a3, own_lv (own_heap f), .second, own_lv mm, .second, own_lv dd, .second, .unset, .unset] []) (mkF m 29 #[iv x, iv f, rv a3, .unset, .unset, .unset, .unset, .unset, .unset, .unset, .unset] [(.long (own_heap f))]) := by
    intro t kt
    refine XS.lstoreN X7.here hx rfl (hb hby at_29) rfl (l' := #[iv x, iv f, rv a3, own_lv (own_heap f), .second, .unset, .unset, .unset, .unset, .unset, .unset]) rfl ?_
    show own_S p e below T7 m 30 #[iv x, iv f, rv a3, own_lv (own_heap f), .second, .unset, .unset, .unset, .unset, .unset, .unset] [] _
    refine X7.ldc2Long hx hown (mvT hZ (hw _ (List.mem_of_getElem? (i := 42) rfl))) (g := (mkF m 30 #[iv x, iv f, rv a3, own_lv (own_heap f), .second, .unset, .unset, .unset, .unset, .unset, .unset] [])) rfl (hb hby at_30) _ ?_
    show own_S p e below T7 m 33 #[iv x, iv f, rv a3, own_lv (own_heap f), .second, .unset, .unset, .unset, .unset, .unset, .unset] [(.long (4 : Int64))] _
    refine XS.iloadN X7.here hx rfl (hb hby at_33) rfl ?_
    show own_S p e below T7 m 34 #[iv x, iv f, rv a3, own_lv (own_heap f), .second, .unset, .unset, .unset, .unset, .unset, .unset] [(.int f), (.long (4 : Int64))] _
    refine XS.i2l X7.here hx rfl (hb hby at_34) rfl ?_
    show own_S p e below T7 m 35 #[iv x, iv f, rv a3, own_lv (own_heap f), .second, .unset, .unset, .unset, .unset, .unset, .unset] [(.long f.toInt64), (.long (4 : Int64))] _
    refine XS.lmul X7.here hx rfl (hb hby at_35) rfl ?_
    show own_S p e below T7 m 36 #[iv x, iv f, rv a3, own_lv (own_heap f), .second, .unset, .unset, .unset, .unset, .unset, .unset] [(.long ((4 : Int64) * f.toInt64))] _
    refine XS.lstore X7.here hx rfl (hb hby at_36) rfl (l' := #[iv x, iv f, rv a3, own_lv (own_heap f), .second, own_lv ((4 : Int64) * f.toInt64), .second, .unset, .unset, .unset, .unset]) rfl ?_
    show own_S p e below T7 m 38 #[iv x, iv f, rv a3, own_lv (own_heap f), .second, own_lv ((4 : Int64) * f.toInt64), .second, .unset, .unset, .unset, .unset] [] _
    refine XS.lloadN X7.here hx rfl (hb hby at_38) rfl ?_
    show own_S p e below T7 m 39 #[iv x, iv f, rv a3, own_lv (own_heap f), .second, own_lv ((4 : Int64) * f.toInt64), .second, .unset, .unset, .unset, .unset] [(.long (own_heap f))] _
    refine X7.ldc2Long hx hown (mvT hZ (hw _ (List.mem_of_getElem? (i := 43) rfl))) (g := (mkF m 39 #[iv x, iv f, rv a3, own_lv (own_heap f), .second, own_lv ((4 : Int64) * f.toInt64), .second, .unset, .unset, .unset, .unset] [(.long (own_heap f))])) rfl (hb hby at_39) _ ?_
    show own_S p e below T7 m 42 #[iv x, iv f, rv a3, own_lv (own_heap f), .second, own_lv ((4 : Int64) * f.toInt64), .second, .unset, .unset, .unset, .unset] [(.long (1048576 : Int64)), (.long (own_heap f))] _
    refine XS.lsub X7.here hx rfl (hb hby at_42) rfl ?_
    show own_S p e below T7 m 43 #[iv x, iv f, rv a3, own_lv (own_heap f), .second, own_lv ((4 : Int64) * f.toInt64), .second, .unset, .unset, .unset, .unset] [(.long ((own_heap f) - (1048576 : Int64)))] _
    refine X7.ldc2Long hx hown (mvT hZ (hw _ (List.mem_of_getElem? (i := 44) rfl))) (g := (mkF m 43 #[iv x, iv f, rv a3, own_lv (own_heap f), .second, own_lv ((4 : Int64) * f.toInt64), .second, .unset, .unset, .unset, .unset] [(.long ((own_heap f) - (1048576 : Int64)))])) rfl (hb hby at_43) _ ?_
    show own_S p e below T7 m 46 #[iv x, iv f, rv a3, own_lv (own_heap f), .second, own_lv ((4 : Int64) * f.toInt64), .second, .unset, .unset, .unset, .unset] [(.long (5 : Int64)), (.long ((own_heap f) - (1048576 : Int64)))] _
    refine XS.iloadN X7.here hx rfl (hb hby at_46) rfl ?_
    show own_S p e below T7 m 47 #[iv x, iv f, rv a3, own_lv (own_heap f), .second, own_lv ((4 : Int64) * f.toInt64), .second, .unset, .unset, .unset, .unset] [(.int f), (.long (5 : Int64)), (.long ((own_heap f) - (1048576 : Int64)))] _
    refine XS.i2l X7.here hx rfl (hb hby at_47) rfl ?_
    show own_S p e below T7 m 48 #[iv x, iv f, rv a3, own_lv (own_heap f), .second, own_lv ((4 : Int64) * f.toInt64), .second, .unset, .unset, .unset, .unset] [(.long f.toInt64), (.long (5 : Int64)), (.long ((own_heap f) - (1048576 : Int64)))] _
    refine XS.lmul X7.here hx rfl (hb hby at_48) rfl ?_
    show own_S p e below T7 m 49 #[iv x, iv f, rv a3, own_lv (own_heap f), .second, own_lv ((4 : Int64) * f.toInt64), .second, .unset, .unset, .unset, .unset] [(.long ((5 : Int64) * f.toInt64)), (.long ((own_heap f) - (1048576 : Int64)))] _
    refine XS.lsub X7.here hx rfl (hb hby at_49) rfl ?_
    show own_S p e below T7 m 50 #[iv x, iv f, rv a3, own_lv (own_heap f), .second, own_lv ((4 : Int64) * f.toInt64), .second, .unset, .unset, .unset, .unset] [(.long (((own_heap f) - (1048576 : Int64)) - ((5 : Int64) * f.toInt64)))] _
    refine XS.lstore X7.here hx rfl (hb hby at_50) rfl (l' := #[iv x, iv f, rv a3, own_lv (own_heap f), .second, own_lv ((4 : Int64) * f.toInt64), .second, own_lv (((own_heap f) - (1048576 : Int64)) - ((5 : Int64) * f.toInt64)), .second, .unset, .unset]) rfl ?_
    show own_S p e below T7 m 52 #[iv x, iv f, rv a3, own_lv (own_heap f), .second, own_lv ((4 : Int64) * f.toInt64), .second, own_lv (((own_heap f) - (1048576 : Int64)) - ((5 : Int64) * f.toInt64)), .second, .unset, .unset] [] _
    rw [hmm] at kt
    rw [hdd] at kt
    exact kt
  refine own_st sg8 ?_
  have sg9 : own_V p e below T7 (mkF m 60 #[iv x, iv f, rv a3, own_lv (own_heap f), .second, own_lv mm, .second, own_lv dd, .second, .unset, .unset] [(.int (lcmpW (dd - (dd / (6 : Int64)) * (6 : Int64)) (0 : Int64)))]) (mkF m 52 #[iv x, iv f, rv a3, own_lv (own_heap f), .second, own_lv mm, .second, own_lv dd, .second, .unset, .unset] []) := by
    intro t kt
    refine XS.lload X7.here hx rfl (hb hby at_52) rfl ?_
    show own_S p e below T7 m 54 #[iv x, iv f, rv a3, own_lv (own_heap f), .second, own_lv mm, .second, own_lv dd, .second, .unset, .unset] [(.long dd)] _
    refine X7.ldc2Long hx hown (mvT hZ (hw _ (List.mem_of_getElem? (i := 45) rfl))) (g := (mkF m 54 #[iv x, iv f, rv a3, own_lv (own_heap f), .second, own_lv mm, .second, own_lv dd, .second, .unset, .unset] [(.long dd)])) rfl (hb hby at_54) _ ?_
    show own_S p e below T7 m 57 #[iv x, iv f, rv a3, own_lv (own_heap f), .second, own_lv mm, .second, own_lv dd, .second, .unset, .unset] [(.long (6 : Int64)), (.long dd)] _
    refine XS.lrem X7.here hx rfl (hb hby at_57) rfl (by decide) ?_
    show own_S p e below T7 m 58 #[iv x, iv f, rv a3, own_lv (own_heap f), .second, own_lv mm, .second, own_lv dd, .second, .unset, .unset] [(.long (dd - (dd / (6 : Int64)) * (6 : Int64)))] _
    refine XS.lconst X7.here hx rfl (hb hby at_58) ?_
    show own_S p e below T7 m 59 #[iv x, iv f, rv a3, own_lv (own_heap f), .second, own_lv mm, .second, own_lv dd, .second, .unset, .unset] [(.long (0 : Int64)), (.long (dd - (dd / (6 : Int64)) * (6 : Int64)))] _
    refine XS.lcmp X7.here hx rfl (hb hby at_59) rfl ?_
    show own_S p e below T7 m 60 #[iv x, iv f, rv a3, own_lv (own_heap f), .second, own_lv mm, .second, own_lv dd, .second, .unset, .unset] [(.int (lcmpW (dd - (dd / (6 : Int64)) * (6 : Int64)) (0 : Int64)))] _
    exact kt
  refine own_st sg9 ?_
  have hc10 : (dd - (dd / (6 : Int64)) * (6 : Int64)) = (0 : Int64) := own_p1 f mm dd hf7 hmm hdd
  have sg11 : own_V p e below T7 (mkF m 65 #[iv x, iv f, rv a3, own_lv (own_heap f), .second, own_lv mm, .second, own_lv dd, .second, .unset, .unset] []) (mkF m 60 #[iv x, iv f, rv a3, own_lv (own_heap f), .second, own_lv mm, .second, own_lv dd, .second, .unset, .unset] [(.int (lcmpW (dd - (dd / (6 : Int64)) * (6 : Int64)) (0 : Int64)))]) := by
    intro t kt
    refine XS.ifYes X7.here hx rfl (pc0 := 60) (pc' := 65) rfl (hb hby at_60) rfl (own_teqL hc10).1 (by decide) (by decide) ?_
    exact kt
  refine own_st sg11 ?_
  obtain ⟨rr, hrr⟩ : ∃ z : Int64, z = (dd / (6 : Int64)) := ⟨_, rfl⟩
  have sg12 : own_V p e below T7 (mkF m 73 #[iv x, iv f, rv a3, own_lv (own_heap f), .second, own_lv mm, .second, own_lv dd, .second, own_lv rr, .second] []) (mkF m 65 #[iv x, iv f, rv a3, own_lv (own_heap f), .second, own_lv mm, .second, own_lv dd, .second, .unset, .unset] []) := by
    intro t kt
    refine XS.lload X7.here hx rfl (hb hby at_65) rfl ?_
    show own_S p e below T7 m 67 #[iv x, iv f, rv a3, own_lv (own_heap f), .second, own_lv mm, .second, own_lv dd, .second, .unset, .unset] [(.long dd)] _
    refine X7.ldc2Long hx hown (mvT hZ (hw _ (List.mem_of_getElem? (i := 45) rfl))) (g := (mkF m 67 #[iv x, iv f, rv a3, own_lv (own_heap f), .second, own_lv mm, .second, own_lv dd, .second, .unset, .unset] [(.long dd)])) rfl (hb hby at_67) _ ?_
    show own_S p e below T7 m 70 #[iv x, iv f, rv a3, own_lv (own_heap f), .second, own_lv mm, .second, own_lv dd, .second, .unset, .unset] [(.long (6 : Int64)), (.long dd)] _
    refine XS.ldiv X7.here hx rfl (hb hby at_70) rfl (by decide) ?_
    show own_S p e below T7 m 71 #[iv x, iv f, rv a3, own_lv (own_heap f), .second, own_lv mm, .second, own_lv dd, .second, .unset, .unset] [(.long (dd / (6 : Int64)))] _
    refine XS.lstore X7.here hx rfl (hb hby at_71) rfl (l' := #[iv x, iv f, rv a3, own_lv (own_heap f), .second, own_lv mm, .second, own_lv dd, .second, own_lv (dd / (6 : Int64)), .second]) rfl ?_
    show own_S p e below T7 m 73 #[iv x, iv f, rv a3, own_lv (own_heap f), .second, own_lv mm, .second, own_lv dd, .second, own_lv (dd / (6 : Int64)), .second] [] _
    rw [hrr] at kt
    exact kt
  refine own_st sg12 ?_
  have sg13 : own_V p e below T7 (mkF m 81 #[iv x, iv f, rv a3, own_lv (own_heap f), .second, own_lv mm, .second, own_lv dd, .second, own_lv rr, .second] [(.int (lcmpW (rr - (rr / (4096 : Int64)) * (4096 : Int64)) (0 : Int64)))]) (mkF m 73 #[iv x, iv f, rv a3, own_lv (own_heap f), .second, own_lv mm, .second, own_lv dd, .second, own_lv rr, .second] []) := by
    intro t kt
    refine XS.lload X7.here hx rfl (hb hby at_73) rfl ?_
    show own_S p e below T7 m 75 #[iv x, iv f, rv a3, own_lv (own_heap f), .second, own_lv mm, .second, own_lv dd, .second, own_lv rr, .second] [(.long rr)] _
    refine X7.ldc2Long hx hown (mvT hZ (hw _ (List.mem_of_getElem? (i := 46) rfl))) (g := (mkF m 75 #[iv x, iv f, rv a3, own_lv (own_heap f), .second, own_lv mm, .second, own_lv dd, .second, own_lv rr, .second] [(.long rr)])) rfl (hb hby at_75) _ ?_
    show own_S p e below T7 m 78 #[iv x, iv f, rv a3, own_lv (own_heap f), .second, own_lv mm, .second, own_lv dd, .second, own_lv rr, .second] [(.long (4096 : Int64)), (.long rr)] _
    refine XS.lrem X7.here hx rfl (hb hby at_78) rfl (by decide) ?_
    show own_S p e below T7 m 79 #[iv x, iv f, rv a3, own_lv (own_heap f), .second, own_lv mm, .second, own_lv dd, .second, own_lv rr, .second] [(.long (rr - (rr / (4096 : Int64)) * (4096 : Int64)))] _
    refine XS.lconst X7.here hx rfl (hb hby at_79) ?_
    show own_S p e below T7 m 80 #[iv x, iv f, rv a3, own_lv (own_heap f), .second, own_lv mm, .second, own_lv dd, .second, own_lv rr, .second] [(.long (0 : Int64)), (.long (rr - (rr / (4096 : Int64)) * (4096 : Int64)))] _
    refine XS.lcmp X7.here hx rfl (hb hby at_80) rfl ?_
    show own_S p e below T7 m 81 #[iv x, iv f, rv a3, own_lv (own_heap f), .second, own_lv mm, .second, own_lv dd, .second, own_lv rr, .second] [(.int (lcmpW (rr - (rr / (4096 : Int64)) * (4096 : Int64)) (0 : Int64)))] _
    exact kt
  refine own_st sg13 ?_
  have hc14 : (rr - (rr / (4096 : Int64)) * (4096 : Int64)) = (0 : Int64) := own_p2 f mm dd rr hf7 hmm hdd hrr
  have sg15 : own_V p e below T7 (mkF m 86 #[iv x, iv f, rv a3, own_lv (own_heap f), .second, own_lv mm, .second, own_lv dd, .second, own_lv rr, .second] []) (mkF m 81 #[iv x, iv f, rv a3, own_lv (own_heap f), .second, own_lv mm, .second, own_lv dd, .second, own_lv rr, .second] [(.int (lcmpW (rr - (rr / (4096 : Int64)) * (4096 : Int64)) (0 : Int64)))]) := by
    intro t kt
    refine XS.ifYes X7.here hx rfl (pc0 := 81) (pc' := 86) rfl (hb hby at_81) rfl (own_teqL hc14).1 (by decide) (by decide) ?_
    exact kt
  refine own_st sg15 ?_
  have sg16 : own_V p e below T7 (mkF m 91 #[iv x, iv f, rv a3, own_lv (own_heap f), .second, own_lv mm, .second, own_lv dd, .second, own_lv rr, .second] [(.int (lcmpW rr mm))]) (mkF m 86 #[iv x, iv f, rv a3, own_lv (own_heap f), .second, own_lv mm, .second, own_lv dd, .second, own_lv rr, .second] []) := by
    intro t kt
    refine XS.lload X7.here hx rfl (hb hby at_86) rfl ?_
    show own_S p e below T7 m 88 #[iv x, iv f, rv a3, own_lv (own_heap f), .second, own_lv mm, .second, own_lv dd, .second, own_lv rr, .second] [(.long rr)] _
    refine XS.lload X7.here hx rfl (hb hby at_88) rfl ?_
    show own_S p e below T7 m 90 #[iv x, iv f, rv a3, own_lv (own_heap f), .second, own_lv mm, .second, own_lv dd, .second, own_lv rr, .second] [(.long mm), (.long rr)] _
    refine XS.lcmp X7.here hx rfl (hb hby at_90) rfl ?_
    show own_S p e below T7 m 91 #[iv x, iv f, rv a3, own_lv (own_heap f), .second, own_lv mm, .second, own_lv dd, .second, own_lv rr, .second] [(.int (lcmpW rr mm))] _
    exact kt
  refine own_st sg16 ?_
  have hc17 : ¬ rr < mm := own_p3 f mm dd rr hf7 hmm hdd hrr
  have sg18 : own_V p e below T7 (mkF m 96 #[iv x, iv f, rv a3, own_lv (own_heap f), .second, own_lv mm, .second, own_lv dd, .second, own_lv rr, .second] []) (mkF m 91 #[iv x, iv f, rv a3, own_lv (own_heap f), .second, own_lv mm, .second, own_lv dd, .second, own_lv rr, .second] [(.int (lcmpW rr mm))]) := by
    intro t kt
    refine XS.ifYes X7.here hx rfl (pc0 := 91) (pc' := 96) rfl (hb hby at_91) rfl (own_fltL hc17).2 (by decide) (by decide) ?_
    exact kt
  refine own_st sg18 ?_
  have sg19 : own_V p e below T7 (mkF m 105 #[iv x, iv f, rv a3, own_lv (own_heap f), .second, own_lv mm, .second, own_lv dd, .second, own_lv rr, .second] [(.int (lcmpW (rr - (4096 : Int64)) mm))]) (mkF m 96 #[iv x, iv f, rv a3, own_lv (own_heap f), .second, own_lv mm, .second, own_lv dd, .second, own_lv rr, .second] []) := by
    intro t kt
    refine XS.lload X7.here hx rfl (hb hby at_96) rfl ?_
    show own_S p e below T7 m 98 #[iv x, iv f, rv a3, own_lv (own_heap f), .second, own_lv mm, .second, own_lv dd, .second, own_lv rr, .second] [(.long rr)] _
    refine X7.ldc2Long hx hown (mvT hZ (hw _ (List.mem_of_getElem? (i := 46) rfl))) (g := (mkF m 98 #[iv x, iv f, rv a3, own_lv (own_heap f), .second, own_lv mm, .second, own_lv dd, .second, own_lv rr, .second] [(.long rr)])) rfl (hb hby at_98) _ ?_
    show own_S p e below T7 m 101 #[iv x, iv f, rv a3, own_lv (own_heap f), .second, own_lv mm, .second, own_lv dd, .second, own_lv rr, .second] [(.long (4096 : Int64)), (.long rr)] _
    refine XS.lsub X7.here hx rfl (hb hby at_101) rfl ?_
    show own_S p e below T7 m 102 #[iv x, iv f, rv a3, own_lv (own_heap f), .second, own_lv mm, .second, own_lv dd, .second, own_lv rr, .second] [(.long (rr - (4096 : Int64)))] _
    refine XS.lload X7.here hx rfl (hb hby at_102) rfl ?_
    show own_S p e below T7 m 104 #[iv x, iv f, rv a3, own_lv (own_heap f), .second, own_lv mm, .second, own_lv dd, .second, own_lv rr, .second] [(.long mm), (.long (rr - (4096 : Int64)))] _
    refine XS.lcmp X7.here hx rfl (hb hby at_104) rfl ?_
    show own_S p e below T7 m 105 #[iv x, iv f, rv a3, own_lv (own_heap f), .second, own_lv mm, .second, own_lv dd, .second, own_lv rr, .second] [(.int (lcmpW (rr - (4096 : Int64)) mm))] _
    exact kt
  refine own_st sg19 ?_
  have hc20 : (rr - (4096 : Int64)) < mm := own_p4 f mm dd rr hf7 hmm hdd hrr
  have sg21 : own_V p e below T7 (mkF m 108 #[iv x, iv f, rv a3, own_lv (own_heap f), .second, own_lv mm, .second, own_lv dd, .second, own_lv rr, .second] []) (mkF m 105 #[iv x, iv f, rv a3, own_lv (own_heap f), .second, own_lv mm, .second, own_lv dd, .second, own_lv rr, .second] [(.int (lcmpW (rr - (4096 : Int64)) mm))]) := by
    intro t kt
    refine XS.ifNo X7.here hx rfl (hb hby at_105) rfl (own_tltL hc20).2 ?_
    exact kt
  refine own_st sg21 ?_
  have sg22 : own_V p e below T7 (mkF m 113 #[iv x, iv f, rv a3, own_lv (own_heap f), .second, own_lv mm, .second, own_lv dd, .second, own_lv rr, .second] [(.int (1 : Int32))]) (mkF m 108 #[iv x, iv f, rv a3, own_lv (own_heap f), .second, own_lv mm, .second, own_lv dd, .second, own_lv rr, .second] []) := by
    intro t kt
    refine XS.iconst X7.here hx rfl (hb hby at_108) ?_
    show own_S p e below T7 m 109 #[iv x, iv f, rv a3, own_lv (own_heap f), .second, own_lv mm, .second, own_lv dd, .second, own_lv rr, .second] [(.int (1 : Int32))] _
    refine XS.goto X7.here hx rfl (pc0 := 109) (pc' := 113) rfl (hb hby at_109) (by decide) (by decide) ?_
    show own_S p e below T7 m 113 #[iv x, iv f, rv a3, own_lv (own_heap f), .second, own_lv mm, .second, own_lv dd, .second, own_lv rr, .second] [(.int (1 : Int32))] _
    exact kt
  refine own_st sg22 ?_
  exact own_retZ X7 hx Bd.notSynchronized Bd.returns (hb hby at_113) (by decide) (by decide) (by decide) e7 ⟨rfl, N7⟩
set_option maxRecDepth 65536 in
set_option maxHeartbeats 40000000 in
theorem comes_1 {Post : Tables → Env → Array Value → State → Outcome → State → Prop} (hpost : ∀ tb e args s v u, (limb_1_1.after args s (.returned v) u = true ∧ limb_1_2.after args s (.returned v) u = true ∧ True) → FrameEnd s (.returned v) u (Jvm.fieldLocs frame_1_writes args s ++ Jvm.arrayLocs frame_1_arrays args s ++ Jvm.staticLocs frame_1_statics s) 16 128 → Post tb e args s (.returned v) u) :
    ArmFor flags0 classFile x code maxLocals ret World_1 tables_1 room_1 Calls_1 rest_1 Pre_1 Post := by
  intro l hfl _ _ p e ha hc hk s m args below hf hA hF happ hP
  obtain ⟨hcalls, hrest, hpre⟩ := hP
  obtain ⟨-, -, -, hnamed, -, -, -, hat⟩ := (Spec.applies_iff hf).mp happ
  obtain ⟨hg, hn⟩ := and_e (Cond.before_iff.mp (show (Jvm.Cond.and given_1 narrow_1).before args s = true from hpre))
  obtain ⟨g1, g2⟩ := and_e hg
  obtain ⟨w0, rfl⟩ : ∃ w0 : Value, args = #[w0] := by
    have hs : args.size = 1 := by simpa [Cond.value, given_1] using g1
    obtain ⟨L⟩ := args
    match L, hs with
    | [w0], _ => exact ⟨w0, rfl⟩
  have hw := fun d (hd : d ∈ tables_1) => atoms_spec (ws := Jvm.Cond.code x code maxLocals ret :: tables_1) hat d (List.mem_cons_of_mem _ hd)
  have hfit : Fit s := fun {y c} hc i hi => by
    obtain ⟨ha, rfl⟩ := Array.getElem?_eq_some_iff.mp hc
    have q := List.all_eq_true.mp ((Array.all_eq_true_iff_forall_mem.mp hF) _ (Array.getElem_mem ha)) i (List.mem_range.mpr hi)
    simpa [Array.getElem?_eq_getElem hi] using q
  obtain ⟨i0, ei0⟩ := is_v g2
  obtain rfl : w0 = (.int i0) := Option.some.inj ei0
  obtain ⟨n, o, h1, h2, h3, _, L, rfl, ⟨rfl, N⟩, hq⟩ := own_rmlaw l s _ hw i0 s.heap s.heap.size (Nat.le_refl _) p e ha hc hk s m _ below hf ((Spec.applies_iff_loose hf).mp happ).1 ⟨rfl, State.Warmed39.refl s, rfl⟩ trivial
  refine ⟨n, _, h1, h2, h3, hpost _ _ _ _ _ _ ⟨Cond.after_iff.mpr rfl, Cond.after_iff.mpr (eq_i res_at (Term.int_eval (1)) rfl), trivial⟩ ⟨hq.1, hq.2.1, (hq.2.2.sift fun y hy => Or.inr (N y hy)).mono (by decide) (by decide)⟩⟩
theorem main_1_1 : Claimed_1_1 := comes_1 fun _ _ _ _ _ _ h hF => ⟨h.1, hF⟩
theorem main_1_2 : Claimed_1_2 := comes_1 fun _ _ _ _ _ _ h hF => ⟨h.2.1, hF⟩
end Jvm.Pilot.@@N@@
namespace Jvm.Pilot.@@N@@
open Jvm Jvm.ClassFile Sem Op Lib Jvm.Free Jvm.Stand Jvm.Pilot.@@N@@.Jvm.D
/-! MADE BY PROGRAM (witnessworld.py) out of the Statement's table words and the real class files: 11 classes; the members and pool entries that the words name. The judged class is class 1, her method 1. -/
namespace start1
open Jvm.ClassFile
def u (s : String) : CpInfo := .utf8 (stringToUtf16 s)
/-- a pool by its gaps: so many unusable entries, then the entry; so many at the end -/
def gap : Nat → List CpInfo → List CpInfo
  | 0, r => r
  | n + 1, r => .unusable :: gap n r
def poolList (es : List (Nat × CpInfo)) (last : Nat) : List CpInfo := es.foldr (fun e r => gap e.1 (e.2 :: r)) (gap last [])
def pool (es : List (Nat × CpInfo)) (last : Nat) : Array CpInfo := ⟨poolList es last⟩
def fileOf (pool : Array CpInfo) (this : Nat) (attrs : Array Attribute := #[]) (ms : Array MethodInfo := #[]) (fl : Nat := 33) (sup : Nat := 0) (ifs : Array Nat := #[]) (fds : Array FieldInfo := #[]) : ClassFile where
  minorVersion := 0
  majorVersion := 65
  constantPool := pool
  accessFlags := fl
  thisClass := this
  superClass := sup
  interfaces := ifs
  fields := fds
  methods := ms
  attributes := attrs
def plain (name : String) (sup : Option ClassId) : Class where
  name := name
  kind := .ordinary
  loader := none
  accessFlags := 33
  super := sup
  interfaces := #[]
  cf := none
  fields := #[]
  methods := #[]
  instanceTypes := #[]
  staticTypes := #[]
  resolved := #[]
  callSites := []
  init := .initialized
  statics := none
  mirror := none

def pool0 : Array CpInfo := pool [(5, u "<init>"), (0, u "()V"), (1, .class_ 10), (1, u "java/lang/Object")] 113

def k0c0 : Code := { maxStack := 0, maxLocals := 1, code := object_method_1_code, exceptionTable := #[], attributes := #[] }
def k0m0 : Method := { name := "<init>", desc := "()V", sig := { parameters := [], returnType := none }, accessFlags := 1, code := some k0c0 }
/-- java/lang/Object -/
def k0 : Class := { plain "java/lang/Object" none with
  accessFlags := 33
  interfaces := #[]
  cf := some (fileOf pool0 8 #[] #[{ accessFlags := 1, nameIndex := 5, descriptorIndex := 6, attributes := #[] }] 33 0 #[] #[])
  fields := #[]
  methods := #[k0m0]
  instanceTypes := #[]
  staticTypes := #[]
  resolved := Array.replicate 124 none
  statics := none }

def pool1 : Array CpInfo := pool [(2, .class_ 4), (1, u "java/lang/Object"), (0, u "<init>"), (0, u "()V"), (0, .integer 2147483647), (0, .class_ 9), (0, u "com/example/cytowire/cytowire/intake/Limits"), (0, .methodref 8 11), (0, .nameAndType 5 12), (0, u "(I)V"), (0, .methodref 14 15), (0, .class_ 16), (0, .nameAndType 17 18), (0, u "com/example/cytowire/cytowire/listen/MessageRoom"), (0, u "leastHeap"), (0, u "(Lcom/example/cytowire/cytowire/intake/Limits;)J"), (0, .long 4), (1, .long 1048576), (1, .long 5), (1, .long 6), (1, .long 4096), (1, .class_ 30), (0, u "com/example/cytowire/cytowire/listen/MessageRoomLeastHeapPinLaw"), (2, u "law"), (0, u "(I)Z")] 3

def k1m0 : Method := { name := "<init>", desc := "()V", sig := { parameters := [], returnType := none }, accessFlags := 1, code := none }
def k1c1 : Code := { maxStack := 6, maxLocals := 11, code := code, exceptionTable := #[], attributes := #[] }
def k1m1 : Method := { name := "law", desc := "(I)Z", sig := { parameters := [.int], returnType := some .boolean }, accessFlags := 9, code := some k1c1 }
/-- com/example/cytowire/cytowire/listen/MessageRoomLeastHeapPinLaw -/
def k1 : Class := { plain "com/example/cytowire/cytowire/listen/MessageRoomLeastHeapPinLaw" (some 0) with
  accessFlags := 49
  interfaces := #[]
  cf := some (fileOf pool1 29 #[] #[{ accessFlags := 1, nameIndex := 5, descriptorIndex := 6, attributes := #[] }, { accessFlags := 9, nameIndex := 33, descriptorIndex := 34, attributes := #[] }] 49 2 #[] #[])
  fields := #[]
  methods := #[k1m0, k1m1]
  instanceTypes := #[]
  staticTypes := #[]
  resolved := Array.replicate 38 none
  statics := none }

def pool2 : Array CpInfo := pool [(1, .methodref 2 3), (0, .class_ 4), (0, .nameAndType 5 6), (0, u "java/lang/Object"), (0, u "<init>"), (0, u "()V"), (0, .class_ 8), (0, u "java/lang/Record")] 13

def k2c0 : Code := { maxStack := 1, maxLocals := 1, code := jdk_30_method_1_code, exceptionTable := #[], attributes := #[] }
def k2m0 : Method := { name := "<init>", desc := "()V", sig := { parameters := [], returnType := none }, accessFlags := 4, code := some k2c0 }
/-- java/lang/Record -/
def k2 : Class := { plain "java/lang/Record" (some 0) with
  accessFlags := 1057
  interfaces := #[]
  cf := some (fileOf pool2 7 #[] #[{ accessFlags := 4, nameIndex := 5, descriptorIndex := 6, attributes := #[] }] 1057 2 #[] #[])
  fields := #[]
  methods := #[k2m0]
  instanceTypes := #[]
  staticTypes := #[]
  resolved := Array.replicate 22 none
  statics := none }

def pool3 : Array CpInfo := pool [(3, .methodref 4 5), (0, .class_ 6), (0, .nameAndType 7 8), (0, u "java/lang/Record"), (0, u "<init>"), (0, u "()V"), (11, .fieldref 21 22), (0, .class_ 23), (0, .nameAndType 24 25), (0, u "com/example/cytowire/cytowire/intake/Limits"), (0, u "frame"), (0, u "I"), (0, .long 4), (3, u "message"), (0, u "()J"), (23, u "(I)V"), (2, u "DEFAULT"), (0, u "Lcom/example/cytowire/cytowire/intake/Limits;"), (0, u "MESSAGE_FRAMES"), (2, u "LONGEST_ARRAY"), (6, u "()I")] 30

def k3c0 : Code := { maxStack := 3, maxLocals := 2, code := prog_46_method_1_code, exceptionTable := #[], attributes := #[] }
def k3m0 : Method := { name := "<init>", desc := "(I)V", sig := { parameters := [.int], returnType := none }, accessFlags := 1, code := some k3c0 }
def k3c1 : Code := { maxStack := 4, maxLocals := 1, code := prog_46_method_2_code, exceptionTable := #[], attributes := #[] }
def k3m1 : Method := { name := "message", desc := "()J", sig := { parameters := [], returnType := some .long }, accessFlags := 1, code := some k3c1 }
def k3c2 : Code := { maxStack := 1, maxLocals := 1, code := prog_46_method_7_code, exceptionTable := #[], attributes := #[] }
def k3m2 : Method := { name := "frame", desc := "()I", sig := { parameters := [], returnType := some .int }, accessFlags := 1, code := some k3c2 }
/-- com/example/cytowire/cytowire/intake/Limits -/
def k3 : Class := { plain "com/example/cytowire/cytowire/intake/Limits" (some 2) with
  accessFlags := 49
  interfaces := #[]
  cf := some (fileOf pool3 21 #[] #[{ accessFlags := 1, nameIndex := 7, descriptorIndex := 55, attributes := #[] }, { accessFlags := 1, nameIndex := 30, descriptorIndex := 31, attributes := #[] }, { accessFlags := 1, nameIndex := 24, descriptorIndex := 70, attributes := #[] }] 49 4 #[] #[{ accessFlags := 18, nameIndex := 24, descriptorIndex := 25, attributes := #[] }, { accessFlags := 25, nameIndex := 60, descriptorIndex := 25, attributes := #[] }, { accessFlags := 25, nameIndex := 58, descriptorIndex := 59, attributes := #[] }, { accessFlags := 26, nameIndex := 63, descriptorIndex := 25, attributes := #[] }])
  fields := #[{ name := "frame", type := .int, accessFlags := 18, slot := 0, constantValue := 0 }, { name := "MESSAGE_FRAMES", type := .int, accessFlags := 25, slot := 0, constantValue := 0 }, { name := "DEFAULT", type := (.object "com/example/cytowire/cytowire/intake/Limits"), accessFlags := 25, slot := 1, constantValue := 0 }, { name := "LONGEST_ARRAY", type := .int, accessFlags := 26, slot := 2, constantValue := 0 }]
  methods := #[k3m0, k3m1, k3m2]
  instanceTypes := #[.int]
  staticTypes := #[.int, (.object "com/example/cytowire/cytowire/intake/Limits"), .int]
  resolved := Array.replicate 101 none
  statics := none }

def pool4 : Array CpInfo := pool [(2, .class_ 4), (1, u "com/example/cytowire/cytowire/listen/MessageRoom"), (2, .methodref 2 8), (0, .nameAndType 9 10), (0, u "leastRoom"), (0, u "(Lcom/example/cytowire/cytowire/intake/Limits;)J"), (1, .class_ 14), (1, u "java/lang/Object"), (6, u "large"), (0, u "Ljava/util/Set;"), (14, u "most"), (0, u "J"), (10, u "keptForOrdinary"), (2, .long 6), (16, u "()J"), (5, .class_ 77), (1, u "com/example/cytowire/cytowire/intake/Limits"), (5, .methodref 75 84), (0, .nameAndType 85 69), (0, u "message"), (0, .methodref 2 87), (0, .nameAndType 88 89), (0, u "steps"), (0, u "(J)J"), (0, .long 1048576), (1, .long 5), (1, .methodref 75 95), (0, .nameAndType 96 97), (0, u "frame"), (0, u "()I"), (2, u "taken"), (0, .class_ 102), (0, u "com/example/cytowire/cytowire/listen/MessageRoom$Share"), (12, u "GIVING_WAY"), (0, u "Ljava/time/Duration;"), (95, u "wanting"), (0, u "I"), (24, .long 4096), (9, u "HEAP_PER_COUNTED"), (2, u "KEPT_HEAP"), (0, u "LEAST_KEPT_HEAP"), (0, u "HEAP_PER_FRAME_BYTE"), (1, u "ORDINARY"), (0, u "KEPT_FOR_ORDINARY"), (0, u "HEAP_PER_COUNTED_ARRIVING"), (1, u "STEP"), (7, u "leastHeap"), (14, .class_ 283), (0, u "com/example/cytowire/cytowire/listen/MessageRoom$Share$Awaited")] 43

def k4c0 : Code := { maxStack := 2, maxLocals := 1, code := prog_57_method_7_code, exceptionTable := #[], attributes := #[] }
def k4m0 : Method := { name := "leastRoom", desc := "(Lcom/example/cytowire/cytowire/intake/Limits;)J", sig := { parameters := [(.object "com/example/cytowire/cytowire/intake/Limits")], returnType := some .long }, accessFlags := 9, code := some k4c0 }
def k4c1 : Code := { maxStack := 6, maxLocals := 1, code := prog_57_method_8_code, exceptionTable := #[], attributes := #[] }
def k4m1 : Method := { name := "leastHeap", desc := "(Lcom/example/cytowire/cytowire/intake/Limits;)J", sig := { parameters := [(.object "com/example/cytowire/cytowire/intake/Limits")], returnType := some .long }, accessFlags := 9, code := some k4c1 }
def k4c2 : Code := { maxStack := 4, maxLocals := 2, code := prog_57_method_16_code, exceptionTable := #[], attributes := #[] }
def k4m2 : Method := { name := "steps", desc := "(J)J", sig := { parameters := [.long], returnType := some .long }, accessFlags := 10, code := some k4c2 }
/-- com/example/cytowire/cytowire/listen/MessageRoom -/
def k4 : Class := { plain "com/example/cytowire/cytowire/listen/MessageRoom" (some 0) with
  accessFlags := 49
  interfaces := #[]
  cf := some (fileOf pool4 2 #[.nestMembers #[101, 282]] #[{ accessFlags := 9, nameIndex := 9, descriptorIndex := 10, attributes := #[] }, { accessFlags := 9, nameIndex := 267, descriptorIndex := 10, attributes := #[] }, { accessFlags := 10, nameIndex := 88, descriptorIndex := 89, attributes := #[] }] 49 12 #[] #[{ accessFlags := 25, nameIndex := 248, descriptorIndex := 213, attributes := #[] }, { accessFlags := 25, nameIndex := 251, descriptorIndex := 38, attributes := #[] }, { accessFlags := 25, nameIndex := 252, descriptorIndex := 38, attributes := #[] }, { accessFlags := 25, nameIndex := 253, descriptorIndex := 213, attributes := #[] }, { accessFlags := 25, nameIndex := 255, descriptorIndex := 38, attributes := #[] }, { accessFlags := 25, nameIndex := 256, descriptorIndex := 38, attributes := #[] }, { accessFlags := 25, nameIndex := 115, descriptorIndex := 116, attributes := #[] }, { accessFlags := 26, nameIndex := 257, descriptorIndex := 213, attributes := #[] }, { accessFlags := 26, nameIndex := 259, descriptorIndex := 38, attributes := #[] }, { accessFlags := 18, nameIndex := 37, descriptorIndex := 38, attributes := #[] }, { accessFlags := 18, nameIndex := 49, descriptorIndex := 38, attributes := #[] }, { accessFlags := 2, nameIndex := 100, descriptorIndex := 38, attributes := #[] }, { accessFlags := 18, nameIndex := 21, descriptorIndex := 22, attributes := #[] }, { accessFlags := 2, nameIndex := 212, descriptorIndex := 213, attributes := #[] }])
  fields := #[{ name := "HEAP_PER_COUNTED", type := .int, accessFlags := 25, slot := 0, constantValue := 0 }, { name := "KEPT_HEAP", type := .long, accessFlags := 25, slot := 1, constantValue := 0 }, { name := "LEAST_KEPT_HEAP", type := .long, accessFlags := 25, slot := 2, constantValue := 0 }, { name := "HEAP_PER_FRAME_BYTE", type := .int, accessFlags := 25, slot := 3, constantValue := 0 }, { name := "ORDINARY", type := .long, accessFlags := 25, slot := 4, constantValue := 0 }, { name := "KEPT_FOR_ORDINARY", type := .long, accessFlags := 25, slot := 5, constantValue := 0 }, { name := "GIVING_WAY", type := (.object "java/time/Duration"), accessFlags := 25, slot := 6, constantValue := 0 }, { name := "HEAP_PER_COUNTED_ARRIVING", type := .int, accessFlags := 26, slot := 7, constantValue := 0 }, { name := "STEP", type := .long, accessFlags := 26, slot := 8, constantValue := 0 }, { name := "most", type := .long, accessFlags := 18, slot := 0, constantValue := 0 }, { name := "keptForOrdinary", type := .long, accessFlags := 18, slot := 1, constantValue := 0 }, { name := "taken", type := .long, accessFlags := 2, slot := 2, constantValue := 0 }, { name := "large", type := (.object "java/util/Set"), accessFlags := 18, slot := 3, constantValue := 0 }, { name := "wanting", type := .int, accessFlags := 2, slot := 4, constantValue := 0 }]
  methods := #[k4m0, k4m1, k4m2]
  instanceTypes := #[.long, .long, .long, (.object "java/util/Set"), .int]
  staticTypes := #[.int, .long, .long, .int, .long, .long, (.object "java/time/Duration"), .int, .long]
  resolved := Array.replicate 327 none
  statics := none }

def pool5 : Array CpInfo := pool [(1, u "java/lang/Cloneable"), (0, .class_ 1), (0, u "java/lang/Object"), (0, .class_ 3)] 3

/-- java/lang/Cloneable -/
def k5 : Class := { plain "java/lang/Cloneable" (some 0) with
  accessFlags := 1537
  interfaces := #[]
  cf := some (fileOf pool5 2 #[] #[] 1537 4 #[] #[])
  fields := #[]
  methods := #[]
  instanceTypes := #[]
  staticTypes := #[]
  resolved := Array.replicate 8 none
  statics := none }

def pool6 : Array CpInfo := pool [(1, u "java/io/Serializable"), (0, .class_ 1), (0, u "java/lang/Object"), (0, .class_ 3)] 3

/-- java/io/Serializable -/
def k6 : Class := { plain "java/io/Serializable" (some 0) with
  accessFlags := 1537
  interfaces := #[]
  cf := some (fileOf pool6 2 #[] #[] 1537 4 #[] #[])
  fields := #[]
  methods := #[]
  instanceTypes := #[]
  staticTypes := #[]
  resolved := Array.replicate 8 none
  statics := none }

/-- the primitive byte -/
def k7 : Class := { plain "byte" none with kind := .primitive 'B', accessFlags := 0x411 }
/-- [B -/
def k8 : Class := { plain "[B" (some 0) with kind := .array 7 .byte, interfaces := #[5, 6], accessFlags := 1041 }

/-- the primitive int -/
def k9 : Class := { plain "int" none with kind := .primitive 'I', accessFlags := 0x411 }
/-- [I -/
def k10 : Class := { plain "[I" (some 0) with kind := .array 9 .int, interfaces := #[5, 6], accessFlags := 1041 }

def heap : Heap := #[]
def classes : Array Class := #[k0, k1, k2, k3, k4, k5, k6, k7, k8, k9, k10]
def interned : List (Array UInt16 × Addr) := []
def slotsUsed : Nat := 0
def theMethod : MethodId := ⟨1, 1⟩
def args0 : Array Value := #[.int 5]
def aboutOver (below : List Frame) : State where
  vm := { classes := classes, interned := interned.toArray }
  heap := heap
  slotsUsed := slotsUsed
  threads := #[{ frames := .invoking theMethod args0 :: below }]
def below0 : List Frame := [.native { method := ⟨0, 0⟩, args := #[] }]
def about1 : State := aboutOver below0
def p0 : Program := .bare "" "" ""
def e0 : Env := launch0.env 0 0 0
theorem w_frames : about1.frames = Frame.invoking theMethod args0 :: below0 := rfl
set_option maxRecDepth 65536 in
theorem w_args : argsFit about1.vm theMethod args0 = true := by decide +kernel
set_option maxRecDepth 65536 in
theorem w_heap : heapFits about1 = true := by decide +kernel
set_option maxRecDepth 65536 in
theorem w_runnable : about1.curStatus? = some .runnable := by decide +kernel
set_option maxRecDepth 65536 in
theorem w_alone : about1.alone = true := by decide +kernel
set_option maxRecDepth 65536 in
theorem w_named : about1.methodNamed? x = some theMethod := by decide +kernel
set_option maxRecDepth 65536 in
theorem w_hears : about1.hears theMethod below0 = true := by decide +kernel
set_option maxRecDepth 65536 in
theorem w_ripe : about1.ripe theMethod args0 below0 = true := by decide +kernel
theorem w_running : about1.status = .running := rfl
set_option maxRecDepth 65536 in
theorem w_room : about1.hasRoom e0.platform room_1 = true :=
  launch0.hasRoom_least _ room_1 (by decide +kernel) (by decide +kernel) (by decide +kernel) (by decide +kernel) (by decide +kernel) (by decide +kernel)
theorem allAtoms_all (ts : List Jvm.Cond) (a : Array Jvm.Value) (st : Jvm.State) : (allAtoms ts).before a st = ts.all (fun c => c.before a st) := by
  induction ts with
  | nil => rfl
  | cons c t ih =>
    show (Jvm.Cond.and c (allAtoms t)).before a st = _
    rw [Jvm.Cond.before_and, ih, List.all_cons]
def words1 : List Jvm.Cond := Jvm.Cond.code x code maxLocals ret :: tables_1
/-- a 'code' word, met by the world's own term for the bytes: nothing is compared byte by byte -/
theorem code_word {y : MethodName} {bytes : ByteArray} {mx : Nat} {rt : Option FieldType} {a : Array Value} {s : State} {m : MethodId} {meth : Method} {c : Code} (h1 : s.methodNamed? y = some m) (h2 : s.vm.method? m = some meth) (h3 : meth.code = some c) (h4 : c.code = bytes)
    (h5 : (c.maxLocals == mx && c.exceptionTable.isEmpty && decide (c.maxStack ≤ mostOperands) && decide (meth.sig.returnType = rt) && !meth.locks && decide (parseMethodDescriptor y.desc = some meth.sig)) = true) : (Jvm.Cond.code y bytes mx rt).before a s = true := by
  simp only [Bool.and_eq_true, beq_iff_eq, Bool.not_eq_true', decide_eq_true_eq] at h5
  obtain ⟨⟨⟨⟨⟨g1, g2⟩, g3⟩, g4⟩, g5⟩, g6⟩ := h5
  simp [Cond.before, Cond.holds, Cond.value, h1, h2, h3, h4, g1, g2, g3, g4, g5, g6]
def isCode : Jvm.Cond → Bool
  | .code _ _ _ _ => true
  | _ => false
theorem all_split {L : List Jvm.Cond} {P : Jvm.Cond → Bool} (h1 : L.all (fun c => isCode c || P c) = true) (h2 : ∀ c ∈ L.filter isCode, P c = true) : L.all P = true := by
  refine List.all_eq_true.mpr fun c hc => ?_
  have h := List.all_eq_true.mp h1 c hc
  rcases Bool.eq_false_or_eq_true (isCode c) with hi | hi
  · exact h2 c (List.mem_filter.mpr ⟨hc, hi⟩)
  · simpa [hi] using h
set_option maxRecDepth 65536 in
theorem w_c0 : (Jvm.Cond.code x code maxLocals ret).before args0 about1 = true := code_word (m := ⟨1, 1⟩) (meth := k1m1) (c := k1c1) (by decide +kernel) rfl rfl rfl (by decide +kernel)
set_option maxRecDepth 65536 in
theorem w_c1 : (Jvm.Cond.code ({ cls := "com/example/cytowire/cytowire/intake/Limits", name := "<init>", desc := "(I)V" } : Jvm.MethodName) prog_46_method_1_code (2 : Nat) (Option.none : Option Jvm.ClassFile.FieldType)).before args0 about1 = true := code_word (m := ⟨3, 0⟩) (meth := k3m0) (c := k3c0) (by decide +kernel) rfl rfl rfl (by decide +kernel)
set_option maxRecDepth 65536 in
theorem w_c2 : (Jvm.Cond.code ({ cls := "java/lang/Record", name := "<init>", desc := "()V" } : Jvm.MethodName) jdk_30_method_1_code (1 : Nat) (Option.none : Option Jvm.ClassFile.FieldType)).before args0 about1 = true := code_word (m := ⟨2, 0⟩) (meth := k2m0) (c := k2c0) (by decide +kernel) rfl rfl rfl (by decide +kernel)
set_option maxRecDepth 65536 in
theorem w_c3 : (Jvm.Cond.code ({ cls := "java/lang/Object", name := "<init>", desc := "()V" } : Jvm.MethodName) object_method_1_code (1 : Nat) (Option.none : Option Jvm.ClassFile.FieldType)).before args0 about1 = true := code_word (m := ⟨0, 0⟩) (meth := k0m0) (c := k0c0) (by decide +kernel) rfl rfl rfl (by decide +kernel)
set_option maxRecDepth 65536 in
theorem w_c4 : (Jvm.Cond.code ({ cls := "com/example/cytowire/cytowire/listen/MessageRoom", name := "leastHeap", desc := "(Lcom/example/cytowire/cytowire/intake/Limits;)J" } : Jvm.MethodName) prog_57_method_8_code (1 : Nat) (Option.some Jvm.ClassFile.FieldType.long)).before args0 about1 = true := code_word (m := ⟨4, 1⟩) (meth := k4m1) (c := k4c1) (by decide +kernel) rfl rfl rfl (by decide +kernel)
set_option maxRecDepth 65536 in
theorem w_c5 : (Jvm.Cond.code ({ cls := "com/example/cytowire/cytowire/intake/Limits", name := "frame", desc := "()I" } : Jvm.MethodName) prog_46_method_7_code (1 : Nat) (Option.some Jvm.ClassFile.FieldType.int)).before args0 about1 = true := code_word (m := ⟨3, 2⟩) (meth := k3m2) (c := k3c2) (by decide +kernel) rfl rfl rfl (by decide +kernel)
set_option maxRecDepth 65536 in
theorem w_c6 : (Jvm.Cond.code ({ cls := "com/example/cytowire/cytowire/listen/MessageRoom", name := "leastRoom", desc := "(Lcom/example/cytowire/cytowire/intake/Limits;)J" } : Jvm.MethodName) prog_57_method_7_code (1 : Nat) (Option.some Jvm.ClassFile.FieldType.long)).before args0 about1 = true := code_word (m := ⟨4, 0⟩) (meth := k4m0) (c := k4c0) (by decide +kernel) rfl rfl rfl (by decide +kernel)
set_option maxRecDepth 65536 in
theorem w_c7 : (Jvm.Cond.code ({ cls := "com/example/cytowire/cytowire/intake/Limits", name := "message", desc := "()J" } : Jvm.MethodName) prog_46_method_2_code (1 : Nat) (Option.some Jvm.ClassFile.FieldType.long)).before args0 about1 = true := code_word (m := ⟨3, 1⟩) (meth := k3m1) (c := k3c1) (by decide +kernel) rfl rfl rfl (by decide +kernel)
set_option maxRecDepth 65536 in
theorem w_c8 : (Jvm.Cond.code ({ cls := "com/example/cytowire/cytowire/listen/MessageRoom", name := "steps", desc := "(J)J" } : Jvm.MethodName) prog_57_method_16_code (2 : Nat) (Option.some Jvm.ClassFile.FieldType.long)).before args0 about1 = true := code_word (m := ⟨4, 2⟩) (meth := k4m2) (c := k4c2) (by decide +kernel) rfl rfl rfl (by decide +kernel)
def codes1 : List Jvm.Cond := [Jvm.Cond.code x code maxLocals ret, Jvm.Cond.code ({ cls := "com/example/cytowire/cytowire/intake/Limits", name := "<init>", desc := "(I)V" } : Jvm.MethodName) prog_46_method_1_code (2 : Nat) (Option.none : Option Jvm.ClassFile.FieldType), Jvm.Cond.code ({ cls := "java/lang/Record", name := "<init>", desc := "()V" } : Jvm.MethodName) jdk_30_method_1_code (1 : Nat) (Option.none : Option Jvm.ClassFile.FieldType), Jvm.Cond.code ({ cls := "java/lang/Object", name := "<init>", desc := "()V" } : Jvm.MethodName) object_method_1_code (1 : Nat) (Option.none : Option Jvm.ClassFile.FieldType), Jvm.Cond.code ({ cls := "com/example/cytowire/cytowire/listen/MessageRoom", name := "leastHeap", desc := "(Lcom/example/cytowire/cytowire/intake/Limits;)J" } : Jvm.MethodName) prog_57_method_8_code (1 : Nat) (Option.some Jvm.ClassFile.FieldType.long), Jvm.Cond.code ({ cls := "com/example/cytowire/cytowire/intake/Limits", name := "frame", desc := "()I" } : Jvm.MethodName) prog_46_method_7_code (1 : Nat) (Option.some Jvm.ClassFile.FieldType.int), Jvm.Cond.code ({ cls := "com/example/cytowire/cytowire/listen/MessageRoom", name := "leastRoom", desc := "(Lcom/example/cytowire/cytowire/intake/Limits;)J" } : Jvm.MethodName) prog_57_method_7_code (1 : Nat) (Option.some Jvm.ClassFile.FieldType.long), Jvm.Cond.code ({ cls := "com/example/cytowire/cytowire/intake/Limits", name := "message", desc := "()J" } : Jvm.MethodName) prog_46_method_2_code (1 : Nat) (Option.some Jvm.ClassFile.FieldType.long), Jvm.Cond.code ({ cls := "com/example/cytowire/cytowire/listen/MessageRoom", name := "steps", desc := "(J)J" } : Jvm.MethodName) prog_57_method_16_code (2 : Nat) (Option.some Jvm.ClassFile.FieldType.long)]
set_option maxRecDepth 65536 in
theorem codes_eq : words1.filter isCode = codes1 := rfl
theorem w_codes : ∀ c ∈ words1.filter isCode, c.before args0 about1 = true := by
  rw [codes_eq]
  intro c hc
  simp only [codes1, List.mem_cons, List.not_mem_nil, or_false] at hc
  rcases hc with rfl | rfl | rfl | rfl | rfl | rfl | rfl | rfl | rfl
  · exact w_c0
  · exact w_c1
  · exact w_c2
  · exact w_c3
  · exact w_c4
  · exact w_c5
  · exact w_c6
  · exact w_c7
  · exact w_c8
set_option maxRecDepth 65536 in
theorem w_t1 : (words1.take 24).all (fun c => isCode c || c.before args0 about1) = true := by decide +kernel
set_option maxRecDepth 65536 in
theorem w_t2 : (words1.drop 24).all (fun c => isCode c || c.before args0 about1) = true := by decide +kernel
theorem w_tables : (allAtoms (Jvm.Cond.code x code maxLocals ret :: tables_1)).before args0 about1 = true := by
  rw [allAtoms_all]
  show words1.all (fun c => c.before args0 about1) = true
  refine all_split ?_ w_codes
  rw [← List.take_append_drop 24 words1, List.all_append, w_t1, w_t2]
  rfl
set_option maxRecDepth 65536 in
theorem w_case : (Jvm.Cond.and given_1 narrow_1).before args0 about1 = true := by decide +kernel
theorem w_applies : (headSpec (Jvm.Cond.code x code maxLocals ret :: tables_1) room_1).applies x e0.platform about1 = true :=
  (Spec.applies_iff w_frames).mpr ⟨w_running, w_runnable, w_alone, w_named, w_hears, w_ripe, w_room, w_tables⟩
theorem atStart : AtStart classFile x code maxLocals ret World_1 tables_1 room_1 Calls_1 rest_1 Pre_1 launch0 p0 e0 about1 theMethod args0 below0 :=
  ⟨lists_1, trivial, launch0.admits_env _ _ _, launch0.least_env, fairChoices_fair.cas, fairChoices_fair.clock, w_frames, w_args, w_heap, w_applies, trivial, trivial, w_case⟩
end start1
theorem witness_1 : WitnessClaimed_1 := ⟨start1.p0, start1.e0, start1.about1, start1.theMethod, start1.args0, start1.below0, start1.atStart⟩
end Jvm.Pilot.@@N@@
