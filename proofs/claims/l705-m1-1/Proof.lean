import JvmDerived
import JvmDerived.Pilot.@@N@@Statement
import JvmDerived.Pilot.@@N@@Code
set_option linter.unusedVariables false
set_option linter.unusedSimpArgs false
namespace Jvm.RoadKit
open Sem ClassFile Op Lib Jvm.Stand Jvm.Free Jvm.LawKit
section Own
variable {p : Program} {l : Launch} {e : Env} {R : Room} {s : State} {m : MethodId} {args : Array Value} {below : List Frame} {meth : Method} {c : Code} {T T' : State} {locs : List Loc} {cells slots : Nat} {Z : State} {a0 : Array Value} {h h' : Heap}
abbrev own_lv (x : Int64) : Slot := .val (.long x)
abbrev own_S (p : Program) (e : Env) (below : List Frame) (T : State) (m : MethodId) (pc : Nat) (L : Array Slot) (S : List Value) (t : State) : Prop := Steps p.tables e below (T.setTop (mkF m pc L S)) t
/-- in one state, from the second frame to the first -/
abbrev own_V (p : Program) (e : Env) (below : List Frame) (T : State) (f' f : JFrame) : Prop := ∀ t, Steps p.tables e below (T.setTop f') t → Steps p.tables e below (T.setTop f) t
/-- from this frame on the run comes to an end that G says -/
def own_Go (p : Program) (e : Env) (below : List Frame) (G : State → Outcome → Prop) (T : State) (f : JFrame) : Prop :=
  ∃ t o, Steps p.tables e below (T.setTop f) t ∧ G t o
theorem own_st {G : State → Outcome → Prop} {f f' : JFrame} (st : ∀ t, Steps p.tables e below (T'.setTop f') t → Steps p.tables e below (T.setTop f) t) (k : own_Go p e below G T' f') : own_Go p e below G T f := by
  obtain ⟨t, o, h1, h2⟩ := k
  exact ⟨t, o, st t h1, h2⟩
/-- from this frame on the run comes to a state and a frame that P says -/
def own_Pk (p : Program) (e : Env) (below : List Frame) (P : State → JFrame → Prop) (T : State) (f : JFrame) : Prop :=
  ∃ T' f', P T' f' ∧ ∀ t, Steps p.tables e below (T'.setTop f') t → Steps p.tables e below (T.setTop f) t
theorem own_sp {P : State → JFrame → Prop} {f f' : JFrame} (st : ∀ t, Steps p.tables e below (T'.setTop f') t → Steps p.tables e below (T.setTop f) t) (k : own_Pk p e below P T' f') : own_Pk p e below P T f := by
  obtain ⟨T2, f2, h1, h2⟩ := k
  exact ⟨T2, f2, h1, fun t q => st t (h2 t q)⟩
theorem own_pm {P P' : State → JFrame → Prop} {f : JFrame} (k : own_Pk p e below P T f) (q : ∀ T' f', P T' f' → P' T' f') : own_Pk p e below P' T f := by
  obtain ⟨T2, f2, h1, h2⟩ := k
  exact ⟨T2, f2, q _ _ h1, h2⟩
/-- it returned, Q says what, and the frame is kept -/
def own_End (s : State) (below : List Frame) (Q : Option Value → Heap → List Loc → Prop) (C S : Nat) : State → Outcome → Prop := fun t o =>
  t.status = .running ∧ Ended t below o ∧ ∃ v L, o = .returned v ∧ Q v t.heap L ∧ FrameEnd s o t L C S
theorem own_body {y : MethodName} {bytes : ByteArray} {ml : Nat} {rt : Option FieldType} {rm : Room} {as' : Array Value} {h0 : Heap} {Q : Option Value → Heap → List Loc → Prop} {C S : Nat} {ws : List Jvm.Cond} (hp : plainFor y = true)
    (H : ∀ p e s m below meth c s₁, BodyLoose p l y (head1 (Jvm.Cond.code y bytes ml rt :: ws) rm) bytes ml rt e s m as' below meth c s₁ → c.maxLocals = ml → Z.Warmed39 s.vm → s₁.heap = h0 → own_Go p e below (own_End s below Q C S) s₁ (entryFrame m as' ml)) :
    MetFree l y (head1 (Jvm.Cond.code y bytes ml rt :: ws) rm) (fun a U => a = as' ∧ Z.Warmed39 U.vm ∧ U.heap = h0) (fun _ _ _ _ _ => True) (fun _ U o U' => ∃ v L, o = .returned v ∧ Q v U'.heap L ∧ FrameEnd U o U' L C S) := by
  refine MetFree.of_bodySF hp hisR ?_
  intro p e s m args below meth c s₁ Bd hml hP hK
  obtain ⟨rfl, hZ, hh⟩ := hP
  have e0 : s₁.heap = h0 := by rw [← hh, Bd.state]; rfl
  obtain ⟨t, o, h1, h2, h3, h4⟩ := H p e s m below meth c s₁ Bd hml hZ e0
  exact ⟨t, o, h1, h2, h3, h4⟩
/-- a callee's contract -/
abbrev own_Ct (l : Launch) (Z : State) (y : MethodName) (bytes : ByteArray) (ml : Nat) (rt : Option FieldType) (rm : Room) (as' : Array Value) (h0 : Heap) (Q : Option Value → Heap → List Loc → Prop) : Prop :=
  MetFree l y (head1 [Jvm.Cond.code y bytes ml rt] rm) (fun a U => a = as' ∧ Z.Warmed39 U.vm ∧ U.heap = h0) (fun _ _ _ _ _ => True) (fun _ U o U' => ∃ v L, o = .returned v ∧ Q v U'.heap L ∧ FrameEnd U o U' L rm.cells rm.slots)
section Ret
variable {Q : Option Value → Heap → List Loc → Prop} {C S : Nat}
theorem own_out {v : Option Value} {f : JFrame} (X : Stand p l e R s m args below meth c T locs cells slots) (hv : meth.sig.returnType = none → v = none) (hlocks : meth.locks = false) (hC : cells ≤ C) (hS : slots ≤ S) (eT : T.heap = h) (hq : Q v h locs)
    (go : ∀ fs, (∀ (f : JFrame) (acts : List Action), f.method = m → f.locked = none → f.entered = [] → (doReturn e (T.setTop f) acts v).1 = T.setFrames fs) → Steps p.tables e below (T.setTop f) (T.setFrames fs)) :
    own_Go p e below (own_End s below Q C S) T f := by
  obtain ⟨fs, hr, hrun, hended, hW, hsame⟩ := X.leave (v := v) hv hlocks
  refine ⟨_, _, go fs hr, hrun, hended, _, _, rfl, ?_, ⟨_, rfl⟩, hW, hsame.mono hC hS⟩
  show Q v T.heap locs
  rw [eT]; exact hq
theorem own_retI (X : Stand p l e R s m args below meth c T locs cells slots) (hx : p.tables.exec = Jvm.exec) (hlocks : meth.locks = false) (hret : meth.sig.returnType = some .int) {pc : Nat} {Ls : Array Slot} {z : Int32} {rest : List Value} (hd : decode c.code pc = .ok (.ireturn, 1)) (hC : cells ≤ C) (hS : slots ≤ S) (eT : T.heap = h) (hq : Q (some (.int z)) h locs) :
    own_Go p e below (own_End s below Q C S) T (mkF m pc Ls (.int z :: rest)) :=
  own_out X (fun q => by rw [hret] at q; cases q) hlocks hC hS eT hq fun fs hr => retOut X hx hret rfl (Or.inl ⟨rfl, Or.inl rfl, z, rfl⟩) hd hr
theorem own_retZ (X : Stand p l e R s m args below meth c T locs cells slots) (hx : p.tables.exec = Jvm.exec) (hlocks : meth.locks = false) (hret : meth.sig.returnType = some .boolean) {pc : Nat} {Ls : Array Slot} {z : Int32} {rest : List Value} (hd : decode c.code pc = .ok (.ireturn, 1)) (hz : z = 0 ∨ z = 1) (hC : cells ≤ C) (hS : slots ≤ S) (eT : T.heap = h) (hq : Q (some (.int z)) h locs) :
    own_Go p e below (own_End s below Q C S) T (mkF m pc Ls (.int z :: rest)) :=
  own_out X (fun q => by rw [hret] at q; cases q) hlocks hC hS eT hq fun fs hr => retN X hx hret (Or.inl rfl) hd (by
    have : nar .boolean z = z := by rcases hz with rfl | rfl <;> decide
    rw [this]; exact hr)
theorem own_retB (X : Stand p l e R s m args below meth c T locs cells slots) (hx : p.tables.exec = Jvm.exec) (hlocks : meth.locks = false) (hret : meth.sig.returnType = some .byte) {pc : Nat} {Ls : Array Slot} {z : Int32} {rest : List Value} (hd : decode c.code pc = .ok (.ireturn, 1)) (hz : nar .byte z = z) (hC : cells ≤ C) (hS : slots ≤ S) (eT : T.heap = h) (hq : Q (some (.int z)) h locs) :
    own_Go p e below (own_End s below Q C S) T (mkF m pc Ls (.int z :: rest)) :=
  own_out X (fun q => by rw [hret] at q; cases q) hlocks hC hS eT hq fun fs hr => retN X hx hret (Or.inr (Or.inl rfl)) hd (by rw [hz]; exact hr)
theorem own_retJ (X : Stand p l e R s m args below meth c T locs cells slots) (hx : p.tables.exec = Jvm.exec) (hlocks : meth.locks = false) (hret : meth.sig.returnType = some .long) {pc : Nat} {Ls : Array Slot} {z : Int64} {rest : List Value} (hd : decode c.code pc = .ok (.lreturn, 1)) (hC : cells ≤ C) (hS : slots ≤ S) (eT : T.heap = h) (hq : Q (some (.long z)) h locs) :
    own_Go p e below (own_End s below Q C S) T (mkF m pc Ls (.long z :: rest)) :=
  own_out X (fun q => by rw [hret] at q; cases q) hlocks hC hS eT hq fun fs hr => retOut X hx hret rfl (Or.inr (Or.inl ⟨rfl, rfl, z, rfl⟩)) hd hr
theorem own_retR {t : FieldType} {w : Value} (X : Stand p l e R s m args below meth c T locs cells slots) (hx : p.tables.exec = Jvm.exec) (hlocks : meth.locks = false) (hret : meth.sig.returnType = some t) (ht : t.isReference = true) (hw : w.isRef = true) {pc : Nat} {Ls : Array Slot} {rest : List Value} (hd : decode c.code pc = .ok (.areturn, 1)) (hC : cells ≤ C) (hS : slots ≤ S) (eT : T.heap = h) (hq : Q (some w) h locs) :
    own_Go p e below (own_End s below Q C S) T (mkF m pc Ls (w :: rest)) :=
  own_out X (fun q => by rw [hret] at q; cases q) hlocks hC hS eT hq fun fs hr => retOut X hx hret (by cases t <;> cases w <;> first | rfl | (cases ht; done) | (cases hw; done)) (Or.inr (Or.inr (Or.inr (Or.inr ⟨rfl, ht, hw⟩)))) hd hr
theorem own_retV (X : Stand p l e R s m args below meth c T locs cells slots) (hx : p.tables.exec = Jvm.exec) (hlocks : meth.locks = false) (hret : meth.sig.returnType = none) {pc : Nat} {Ls : Array Slot} (hd : decode c.code pc = .ok (.return_, 1)) (hC : cells ≤ C) (hS : slots ≤ S) (eT : T.heap = h) (hq : Q none h locs) :
    own_Go p e below (own_End s below Q C S) T (mkF m pc Ls []) :=
  own_out X (fun _ => rfl) hlocks hC hS eT hq fun fs hr => X.returnOut hx hret hd hr
end Ret
section Call
variable {own : String} {index : Nat} {y : MethodName} {bytes : ByteArray} {ml : Nat} {rt : Option FieldType} {rm : Room} {Q : Option Value → Heap → List Loc → Prop} {g : JFrame} {argsL rest : List Value} {W : Nat}
theorem own_callS (X : Stand p l e R s m args below meth c T locs cells slots) (hx : p.tables.exec = Jvm.exec) (hZ : Z.Warmed39 s.vm) (hown : s.vm.findClass own = some m.cls)
    (w1 : (Jvm.Cond.methodLink own index y).before a0 Z = true) (w2 : (Jvm.Cond.static y).before a0 Z = true) (w3 : (Jvm.Cond.initialized y.cls).before a0 Z = true) (w4 : (Jvm.Cond.code y bytes ml rt).before a0 Z = true)
    (hy : y.cls ≠ "java/lang/invoke/MethodHandle" ∧ y.cls ≠ "java/lang/invoke/VarHandle") (ct : own_Ct l Z y bytes ml rt rm argsL.toArray h Q) (eT : T.heap = h) (hg : g.method = m) (hsize : g.locals.size = c.maxLocals)
    (hlen : ∀ sig, parseMethodDescriptor y.desc = some sig → argsL.length = sig.parameters.length) (hstack : g.stack = argsL.reverse ++ rest) (hW : 2 * g.monitorRoom + (rest.map fun v => v.category).sum ≤ W) (hdg : decode c.code g.pc = .ok (.invokestatic index, 3))
    (hf : rm.frames + 1 ≤ R.frames) (hl : W + (ml + 11) + rm.locals ≤ R.locals) (hc : cells + rm.cells ≤ R.cells) (hs : slots + rm.slots ≤ R.slots) :
    ∃ v T' L, Stand p l e R s m args below meth c T' (locs ++ L) (cells + rm.cells) (slots + rm.slots) ∧ Q v T'.heap L ∧ ∀ target, Steps p.tables e below (T'.setTop { g with pc := g.pc + 3, stack := v.toList ++ rest }) target → Steps p.tables e below (T.setTop g) target := by
  obtain ⟨v, vm1, ⟨T1, L1, k1, n1⟩, -, X1, ⟨L, hQ, h1, h2, h3⟩, st⟩ := Jvm.LawKit.callS X hx hown (mvT hZ w1) (mvT hZ w2) (mvT hZ w3) (mvT hZ w4) hy (backOf (W := W) ct hZ w4 w3 hf hl) hg hsize hlen hstack hW hdg (fun _ _ => ⟨rfl, eT, hc, hs⟩)
  dsimp only [Pt.U, Pt.locs, Pt.cells, Pt.slots] at X1 h1 h2 h3 hQ st
  subst h1 h2 h3
  exact ⟨v, T1, L, X1, hQ, st⟩
theorem own_callI {a : Addr} (X : Stand p l e R s m args below meth c T locs cells slots) (hx : p.tables.exec = Jvm.exec) (hZ : Z.Warmed39 s.vm) (hown : s.vm.findClass own = some m.cls) (hy1 : y.name = "<init>")
    (w1 : (Jvm.Cond.methodLink own index y).before a0 Z = true) (w2 : (Jvm.Cond.instanceMethod y).before a0 Z = true) (w3 : (Jvm.Cond.initialized y.cls).before a0 Z = true) (w4 : (Jvm.Cond.code y bytes ml none).before a0 Z = true)
    (hy : y.cls ≠ "java/lang/invoke/MethodHandle" ∧ y.cls ≠ "java/lang/invoke/VarHandle") (ct : own_Ct l Z y bytes ml none rm (.ref a :: argsL).toArray h Q) (eT : T.heap = h) (hg : g.method = m) (hsize : g.locals.size = c.maxLocals)
    (hlen : ∀ sig, parseMethodDescriptor y.desc = some sig → argsL.length = sig.parameters.length) (hstack : g.stack = argsL.reverse ++ .ref a :: rest) (hW : 2 * g.monitorRoom + (rest.map fun v => v.category).sum ≤ W) (hdg : decode c.code g.pc = .ok (.invokespecial index, 3))
    (hf : rm.frames + 1 ≤ R.frames) (hl : W + (ml + 11) + rm.locals ≤ R.locals) (hc : cells + rm.cells ≤ R.cells) (hs : slots + rm.slots ≤ R.slots) :
    ∃ v T' L, Stand p l e R s m args below meth c T' (locs ++ L) (cells + rm.cells) (slots + rm.slots) ∧ Q v T'.heap L ∧ ∀ target, Steps p.tables e below (T'.setTop { g with pc := g.pc + 3, stack := v.toList ++ rest }) target → Steps p.tables e below (T.setTop g) target := by
  obtain ⟨v, vm1, ⟨T1, L1, k1, n1⟩, -, X1, ⟨L, hQ, h1, h2, h3⟩, st⟩ := X.specialBack hx hy1 hown (mvT hZ w1) (mvT hZ w2) (mvT hZ w4) hy (backOf (W := W) ct hZ w4 w3 hf hl) hg hsize (Steps.refl _) hlen hstack hW hdg (fun _ _ => ⟨rfl, eT, hc, hs⟩)
  dsimp only [Pt.U, Pt.locs, Pt.cells, Pt.slots] at X1 h1 h2 h3 hQ st
  subst h1 h2 h3
  exact ⟨v, T1, L, X1, hQ, fun t k => st.trans k⟩
theorem own_callV {a : Addr} {C : String} (X : Stand p l e R s m args below meth c T locs cells slots) (hx : p.tables.exec = Jvm.exec) (hZ : Z.Warmed39 s.vm) (hown : s.vm.findClass own = some m.cls) (E : Exa Z h a C) {y0 : MethodName}
    (w1 : (Jvm.Cond.methodLink own index y0).before a0 Z = true) (w2 : (Jvm.Cond.declares y0).before a0 Z = true) (w5 : (Jvm.Cond.selects C y0 y).before a0 Z = true) (nf : NotFace s y0) (w6 : (Jvm.Cond.instanceMethod y).before a0 Z = true) (w3 : (Jvm.Cond.initialized y.cls).before a0 Z = true) (w4 : (Jvm.Cond.code y bytes ml rt).before a0 Z = true)
    (hy : y0.cls ≠ "java/lang/invoke/MethodHandle" ∧ y0.cls ≠ "java/lang/invoke/VarHandle") (ct : own_Ct l Z y bytes ml rt rm (.ref a :: argsL).toArray h Q) (eT : T.heap = h) (hg : g.method = m) (hsize : g.locals.size = c.maxLocals)
    (hlen : ∀ sig, parseMethodDescriptor y0.desc = some sig → argsL.length = sig.parameters.length) (hstack : g.stack = argsL.reverse ++ .ref a :: rest) (hW : 2 * g.monitorRoom + (rest.map fun v => v.category).sum ≤ W) (hdg : decode c.code g.pc = .ok (.invokevirtual index, 3))
    (hf : rm.frames + 1 ≤ R.frames) (hl : W + (ml + 11) + rm.locals ≤ R.locals) (hc : cells + rm.cells ≤ R.cells) (hs : slots + rm.slots ≤ R.slots) :
    ∃ v T' L, Stand p l e R s m args below meth c T' (locs ++ L) (cells + rm.cells) (slots + rm.slots) ∧ Q v T'.heap L ∧ ∀ target, Steps p.tables e below (T'.setTop { g with pc := g.pc + 3, stack := v.toList ++ rest }) target → Steps p.tables e below (T.setTop g) target := by
  obtain ⟨cq, kq, qa, qb, qc⟩ := isOf hZ eT E
  obtain ⟨v, vm1, ⟨T1, L1, k1, n1⟩, -, X1, ⟨L, hQ, h1, h2, h3⟩, st⟩ := X.virtualBack hx (y := y0) (z := y) hown (mvT hZ w1) (mvT hZ w2) nf (mvT hZ w5) (mvT hZ w6) hy (backOf (W := W) ct hZ w4 w3 hf hl) qa qc hg hsize (Steps.refl _) hlen hstack hW hdg (fun _ _ => ⟨rfl, eT, hc, hs⟩)
  dsimp only [Pt.U, Pt.locs, Pt.cells, Pt.slots] at X1 h1 h2 h3 hQ st
  subst h1 h2 h3
  exact ⟨v, T1, L, X1, hQ, fun t k => st.trans k⟩
theorem own_callP {a : Addr} {C C0 : String} {x z : MethodName} (X : Stand p l e R s m args below meth c T locs cells slots) (hx : p.tables.exec = Jvm.exec) (hZ : Z.Warmed39 s.vm) (hown : s.vm.findClass own = some m.cls) (E : Exa Z h a C0) (hz : z.cls = y.cls)
    (w1 : (Jvm.Cond.methodLink own index y).before a0 Z = true) (w2 : (Jvm.Cond.instanceMethod y).before a0 Z = true) (w5 : (Jvm.Cond.selects C x z).before a0 Z = true) (wp : (Jvm.Cond.privateMethod y).before a0 Z = true) (w3 : (Jvm.Cond.initialized y.cls).before a0 Z = true) (w4 : (Jvm.Cond.code y bytes ml rt).before a0 Z = true)
    (hy : y.cls ≠ "java/lang/invoke/MethodHandle" ∧ y.cls ≠ "java/lang/invoke/VarHandle") (ct : own_Ct l Z y bytes ml rt rm (.ref a :: argsL).toArray h Q) (eT : T.heap = h) (hg : g.method = m) (hsize : g.locals.size = c.maxLocals)
    (hlen : ∀ sig, parseMethodDescriptor y.desc = some sig → argsL.length = sig.parameters.length) (hstack : g.stack = argsL.reverse ++ .ref a :: rest) (hW : 2 * g.monitorRoom + (rest.map fun v => v.category).sum ≤ W) (hdg : decode c.code g.pc = .ok (.invokevirtual index, 3))
    (hf : rm.frames + 1 ≤ R.frames) (hl : W + (ml + 11) + rm.locals ≤ R.locals) (hc : cells + rm.cells ≤ R.cells) (hs : slots + rm.slots ≤ R.slots) :
    ∃ v T' L, Stand p l e R s m args below meth c T' (locs ++ L) (cells + rm.cells) (slots + rm.slots) ∧ Q v T'.heap L ∧ ∀ target, Steps p.tables e below (T'.setTop { g with pc := g.pc + 3, stack := v.toList ++ rest }) target → Steps p.tables e below (T.setTop g) target := by
  obtain ⟨cq, q1, q2⟩ := E.cell
  have hp : s.PrivateAt y := Cond.privateMethod_at (mvP hZ wp (args := #[]))
  have w5' : (Jvm.Cond.selects C x z).before args s = true := mvT hZ w5
  obtain ⟨c2, r2, m2, -, -, q3, -, kP, hkP, hkPi⟩ := Cond.selects_spec w5'
  have hcl : s.vm.findClass y.cls = some m2.cls := hz ▸ findClass_of_methodNamed q3
  have hsel : (Jvm.Cond.selects y.cls y y).before args s = true := selects_self_of_private hcl hkP hkPi hp (mvT hZ w2) hy
  obtain ⟨v, vm1, ⟨T1, L1, k1, n1⟩, -, X1, ⟨L, hQ, h1, h2, h3⟩, st⟩ := X.privateBack hx hown (mvT hZ w1) (mvT hZ w2) hsel hp (mvT hZ w4) hy (backOf (W := W) ct hZ w4 w3 hf hl) hg hsize (Steps.refl _) (a := a) (by rw [eT]; exact q1) q2 hlen hstack hW hdg (fun _ _ => ⟨rfl, eT, hc, hs⟩)
  dsimp only [Pt.U, Pt.locs, Pt.cells, Pt.slots] at X1 h1 h2 h3 hQ st
  subst h1 h2 h3
  exact ⟨v, T1, L, X1, hQ, fun t k => st.trans k⟩
theorem own_callF {a : Addr} {C : String} {count : Nat} (X : Stand p l e R s m args below meth c T locs cells slots) (hx : p.tables.exec = Jvm.exec) (hZ : Z.Warmed39 s.vm) (hown : s.vm.findClass own = some m.cls) (E : Exa Z h a C) {y0 : MethodName}
    (w1 : (Jvm.Cond.methodLink own index y0).before a0 Z = true) (w2 : (Jvm.Cond.declares y0).before a0 Z = true) (wf : (Jvm.Cond.interfaceMethod y0.cls y0.cls y0.name y0.desc).before args s = true) (w5 : (Jvm.Cond.selects C y0 y).before a0 Z = true) (w6 : (Jvm.Cond.instanceMethod y).before a0 Z = true) (wp : (Jvm.Cond.publicMethod y).before a0 Z = true) (wu : (Jvm.Cond.unhidden C y0.name y0.desc).before a0 Z = true) (wk : (Jvm.Cond.castable C y0.cls).before a0 Z = true) (w3 : (Jvm.Cond.initialized y.cls).before a0 Z = true) (w4 : (Jvm.Cond.code y bytes ml rt).before a0 Z = true)
    (hy : y0.cls ≠ "java/lang/invoke/MethodHandle" ∧ y0.cls ≠ "java/lang/invoke/VarHandle") (ct : own_Ct l Z y bytes ml rt rm (.ref a :: argsL).toArray h Q) (eT : T.heap = h) (hg : g.method = m) (hsize : g.locals.size = c.maxLocals)
    (hlen : ∀ sig, parseMethodDescriptor y0.desc = some sig → argsL.length = sig.parameters.length) (hstack : g.stack = argsL.reverse ++ .ref a :: rest) (hW : 2 * g.monitorRoom + (rest.map fun v => v.category).sum ≤ W) (hdg : decode c.code g.pc = .ok (.invokeinterface index count, 5))
    (hf : rm.frames + 1 ≤ R.frames) (hl : W + (ml + 11) + rm.locals ≤ R.locals) (hc : cells + rm.cells ≤ R.cells) (hs : slots + rm.slots ≤ R.slots) :
    ∃ v T' L, Stand p l e R s m args below meth c T' (locs ++ L) (cells + rm.cells) (slots + rm.slots) ∧ Q v T'.heap L ∧ ∀ target, Steps p.tables e below (T'.setTop { g with pc := g.pc + 5, stack := v.toList ++ rest }) target → Steps p.tables e below (T.setTop g) target := by
  obtain ⟨cq, kq, qa, qb, qc⟩ := isOf hZ eT E
  obtain ⟨v, vm1, ⟨T1, L1, k1, n1⟩, -, X1, ⟨L, hQ, h1, h2, h3⟩, st⟩ := X.interfaceBack hx (xi := y0) (y := y) hown (mvT hZ w1) (mvT hZ w2) wf (mvT hZ w5) (mvT hZ w6) (mvT hZ wp) (mvT hZ wu) (mvT hZ wk) hy (backOf (W := W) ct hZ w4 w3 hf hl) qa qb qc hg hsize (Steps.refl _) hlen hstack hW hdg (fun _ _ => ⟨rfl, eT, hc, hs⟩)
  dsimp only [Pt.U, Pt.locs, Pt.cells, Pt.slots] at X1 h1 h2 h3 hQ st
  subst h1 h2 h3
  exact ⟨v, T1, L, X1, hQ, fun t k => st.trans k⟩
end Call
/-- getfield by an entry that is resolved already -/
theorem own_getR {O n d : String} {a : Addr} {v : Value} (X : Stand p l e R s m args below meth c T locs cells slots) (hx : p.tables.exec = Jvm.exec) (hZ : Z.Warmed39 s.vm) {own : String} {index : Nat} (hown : s.vm.findClass own = some m.cls) (w : (Jvm.Cond.fieldRef own index O n d).before a0 Z = true) (eT : T.heap = h) (F : Fld Z h a O n d v)
    {g : JFrame} (hg : g.method = m) {rest : List Value} (hs : g.stack = .ref a :: rest) (hd : decode c.code g.pc = .ok (.getfield index, 3)) :
    ∀ t, Steps p.tables e below (T.setTop { g with pc := g.pc + 3, stack := v :: rest }) t → Steps p.tables e below (T.setTop g) t := by
  have hT : Z.Warmed39 T.vm := wtrans hZ X.warmed
  have w' := Cond.fieldRef_warmed39 hT w
  have hownT : (Z.setVm T.vm).vm.findClass own = some m.cls := by
    show T.vm.findClass own = _
    rw [X.warmed.alike.findClass]; exact hown
  obtain ⟨c1, k1, i1, f1, q1, q2⟩ := Cond.fieldRef_spec hownT w'
  obtain ⟨cell, cf, k, i, f, h1, h2, h3, h4, -, -, h7⟩ := F
  obtain ⟨k', hi, -⟩ := State.fieldFound?_setVm (s := Z) hT.alike h2
  cases q1.symm.trans hi
  exact fun t kt => (X.getfieldR hx hg q2 h3 hs (by rw [eT]; exact h1) h4 h7 hd (Steps.refl _)).trans kt
theorem own_Sta.keep {C n d : String} {v : Value} (S : Sta Z h C n d v) (K : Keep h h' []) : Sta Z h' C n d v := by
  obtain ⟨cf, i, k, f, st, cell, h1, h2, h3, h4, h5, h6, h7⟩ := S
  exact ⟨cf, i, k, f, st, cell, h1, h2, h3, h4, K.2.1 _ _ h5 nin0, h6, h7⟩
theorem own_imod (x y : Int32) : x - (x / y) * y = x % y := by
  apply Int32.toInt_inj.mp
  have h1 := rng32 (x % y)
  rw [Int32.toInt_sub, Int32.toInt_mul, Int32.toInt_div, Int.bmod_mul_bmod, Int.sub_bmod_bmod, Int.mul_comm (x.toInt.tdiv y.toInt), ← Int.tmod_def, ← Int32.toInt_mod]
  exact Int.bmod_eq_of_le_mul_two (by omega) (by omega)
theorem own_irem {T target : State} {g : JFrame} (h : At T m c below) (hx : p.tables.exec = Jvm.exec) (hg : g.method = m) {x y : Int32} {rest : List Value} (hd : decode c.code g.pc = .ok (.irem, 1)) (hs : g.stack = .int y :: .int x :: rest) (hy : y ≠ 0)
    (hr : Steps p.tables e below (T.setTop { g with pc := g.pc + 1, stack := .int (x % y) :: rest }) target) : Steps p.tables e below (T.setTop g) target := by
  refine XS.irem h hx hg hd hs hy ?_
  rw [own_imod x y]
  exact hr
section Cmp
theorem own_tltL {x y : Int64} (h : x < y) : ifCond.holds .lt (lcmpW x y) = true ∧ ifCond.holds .ge (lcmpW x y) = false := by
  rw [if0, if0]; exact ⟨(tlt ((lw_lt x y).mpr h)).1, (tlt ((lw_lt x y).mpr h)).2.1⟩
theorem own_fltL {x y : Int64} (h : ¬ x < y) : ifCond.holds .lt (lcmpW x y) = false ∧ ifCond.holds .ge (lcmpW x y) = true := by
  have q : ¬ lcmpW x y < 0 := fun q => h ((lw_lt x y).mp q)
  rw [if0, if0]; exact ⟨(flt q).1, (flt q).2.1⟩
theorem own_tgtL {x y : Int64} (h : y < x) : ifCond.holds .gt (lcmpW x y) = true ∧ ifCond.holds .le (lcmpW x y) = false := by
  rw [if0, if0]; exact ⟨(tlt ((lw_gt x y).mpr h)).2.2.1, (tlt ((lw_gt x y).mpr h)).2.2.2⟩
theorem own_fgtL {x y : Int64} (h : ¬ y < x) : ifCond.holds .gt (lcmpW x y) = false ∧ ifCond.holds .le (lcmpW x y) = true := by
  have q : ¬ 0 < lcmpW x y := fun q => h ((lw_gt x y).mp q)
  rw [if0, if0]; exact ⟨(flt q).2.2.1, (flt q).2.2.2⟩
theorem own_teqL {x y : Int64} (h : x = y) : ifCond.holds .eq (lcmpW x y) = true ∧ ifCond.holds .ne (lcmpW x y) = false := by
  rw [if0, if0]; exact ⟨(teq ((lw_eq x y).mpr h)).1, (teq ((lw_eq x y).mpr h)).2⟩
theorem own_feqL {x y : Int64} (h : ¬ x = y) : ifCond.holds .eq (lcmpW x y) = false ∧ ifCond.holds .ne (lcmpW x y) = true := by
  have q : ¬ lcmpW x y = 0 := fun q => h ((lw_eq x y).mp q)
  rw [if0, if0]; exact ⟨(feq q).1, (feq q).2⟩
end Cmp
/-- an array: its kind, its length, its values -/
def own_AV (Z : State) (h : Heap) (a : Addr) (ty : FieldType) (n : Nat) (f : Nat → Value) : Prop :=
  ∃ cl : Cell, Arr Z h a cl ty ∧ cl.slots.size = n ∧ (∀ i, i < n → cl.slots[i]? = some (f i)) ∧ ∀ i, i < n → fits ty (f i) = true
/-- an array of int-like values -/
def own_AI (Z : State) (h : Heap) (a : Addr) (ty : FieldType) (n : Nat) (f : Nat → Int32) : Prop := own_AV Z h a ty n (fun i => .int (f i))
def own_AL (Z : State) (h : Heap) (a : Addr) (n : Nat) (f : Nat → Int64) : Prop := own_AV Z h a .long n (fun i => .long (f i))
def own_updV (f : Nat → Value) (k : Nat) (v : Value) : Nat → Value := fun i => if i = k then v else f i
def own_upd (f : Nat → Int32) (k : Nat) (v : Int32) : Nat → Int32 := fun i => if i = k then v else f i
def own_updL (f : Nat → Int64) (k : Nat) (v : Int64) : Nat → Int64 := fun i => if i = k then v else f i
theorem own_idx {j : Int32} {k n : Nat} {cl : Cell} (S : cl.slots.size = n) (hj : j.toInt = (k : Int)) (hk : k < n) : ¬ (j < 0 ∨ cl.slots.size ≤ j.toNatClampNeg) ∧ j.toNatClampNeg = k := by
  have e0 : (0 : Int32).toInt = 0 := by decide
  have e1 : j.toNatClampNeg = k := by
    show j.toInt.toNat = k
    rw [hj]; rfl
  refine ⟨?_, e1⟩
  rintro (q | q)
  · rw [Int32.lt_iff_toInt_lt, e0, hj] at q; omega
  · rw [e1, S] at q; omega
section AV
variable {a b : Addr} {ty : FieldType} {n : Nat} {f : Nat → Value}
theorem own_AV.lt (A : own_AV Z h a ty n f) : a < h.size := by obtain ⟨cl, h1, -⟩ := A; exact h1.lt
theorem own_AV.ext (A : own_AV Z h a ty n f) (E : Ext h h') : own_AV Z h' a ty n f := by obtain ⟨cl, h1, r⟩ := A; exact ⟨cl, h1.ext E, r⟩
theorem own_AV.other (A : own_AV Z h b ty n f) {sl : Nat} {v : Value} (W : Wr h h' a sl v) (q : b ≠ a) : own_AV Z h' b ty n f := by obtain ⟨cl, h1, r⟩ := A; exact ⟨cl, h1.other W q, r⟩
theorem own_AV.keep {ws : List Addr} (A : own_AV Z h a ty n f) (K : Keep h h' ws) (q : a ∉ ws) : own_AV Z h' a ty n f := by obtain ⟨cl, h1, r⟩ := A; exact ⟨cl, ⟨K.2.1 a cl h1.1 q, h1.2⟩, r⟩
theorem own_AV.congr {g : Nat → Value} (A : own_AV Z h a ty n f) (q : ∀ i, i < n → f i = g i) : own_AV Z h a ty n g := by
  obtain ⟨cl, h1, h2, h3, h4⟩ := A
  exact ⟨cl, h1, h2, fun i hi => by rw [← q i hi]; exact h3 i hi, fun i hi => by rw [← q i hi]; exact h4 i hi⟩
theorem own_AV.new {cA : ClassId} {z : Int32} (A : Arr Z h a (newA cA ty z) ty) (hn : z.toNatClampNeg = n) (hf : fits ty (defaultValue ty) = true) : own_AV Z h a ty n (fun _ => defaultValue ty) :=
  ⟨_, A, by rw [sz_new, hn], fun i hi => by subst hn; simp only [newA, Array.getElem?_replicate, hi, if_true], fun _ _ => hf⟩
theorem own_AV.set {k : Nat} {v : Value} (F : own_AV Z h a ty n f) (hk : k < n) (hv : fits ty v = true) (W : Wr h h' a k v) : own_AV Z h' a ty n (own_updV f k v) := by
  obtain ⟨cl, A, S, H, G⟩ := F
  refine ⟨_, A.same W, by rw [sz_set, S], fun i hi => ?_, fun i hi => ?_⟩
  · by_cases q : i = k
    · subst q; simp [Cell.setSlot, own_updV, S, hk]
    · have q' : ¬ k = i := fun r => q r.symm
      simp only [Cell.setSlot, own_updV, q, if_false]
      rw [Array.getElem?_setIfInBounds_ne q']
      exact H i hi
  · by_cases q : i = k
    · simp only [own_updV, q, if_true]; exact hv
    · simp only [own_updV, q, if_false]; exact G i hi
end AV
theorem own_ninS {x y : Nat} {L : List Nat} (q : x ≠ y) (r : x ∉ L) : x ∉ y :: L := ninS q r
theorem own_AL.congr {a : Addr} {n : Nat} {f g : Nat → Int64} (A : own_AL Z h a n f) (q : ∀ i, i < n → f i = g i) : own_AL Z h a n g := own_AV.congr A fun i hi => congrArg Value.long (q i hi)
section AI
variable {a b : Addr} {ty : FieldType} {n : Nat} {f : Nat → Int32}
theorem own_AI.lt (A : own_AI Z h a ty n f) : a < h.size := own_AV.lt A
theorem own_AI.ext (A : own_AI Z h a ty n f) (E : Ext h h') : own_AI Z h' a ty n f := own_AV.ext A E
theorem own_AI.other (A : own_AI Z h b ty n f) {sl : Nat} {v : Value} (W : Wr h h' a sl v) (q : b ≠ a) : own_AI Z h' b ty n f := own_AV.other A W q
theorem own_AI.keep {ws : List Addr} (A : own_AI Z h a ty n f) (K : Keep h h' ws) (q : a ∉ ws) : own_AI Z h' a ty n f := own_AV.keep A K q
theorem own_AI.congr {g : Nat → Int32} (A : own_AI Z h a ty n f) (q : ∀ i, i < n → f i = g i) : own_AI Z h a ty n g := own_AV.congr A fun i hi => congrArg Value.int (q i hi)
theorem own_AI.set {k : Nat} {v : Int32} (F : own_AI Z h a ty n f) (hk : k < n) (hv : fits ty (.int v) = true) (W : Wr h h' a k (.int v)) : own_AI Z h' a ty n (own_upd f k v) :=
  (own_AV.set F hk hv W).congr fun i _ => by
    by_cases q : i = k <;> simp [own_updV, own_upd, q]
end AI
section Rd
variable {a : Addr} {n k : Nat} {j : Int32} {g : JFrame} {rest : List Value}
theorem own_rdI {f : Nat → Int32} (X : Stand p l e R s m args below meth c T locs cells slots) (hx : p.tables.exec = Jvm.exec) (hZ : Z.Warmed39 s.vm) (eT : T.heap = h) (A : own_AI Z h a .int n f) (hj : j.toInt = (k : Int)) (hk : k < n) (hg : g.method = m) (hs : g.stack = .int j :: .ref a :: rest) (hd : decode c.code g.pc = .ok (.iaload, 1)) :
    ∀ t, Steps p.tables e below (T.setTop { g with pc := g.pc + 1, stack := .int (f k) :: rest }) t → Steps p.tables e below (T.setTop g) t := by
  obtain ⟨cl, A1, S, H, -⟩ := A
  obtain ⟨hin, e1⟩ := own_idx S hj hk
  exact X.iaload hx (by rw [eT]; exact A1.1) (State.isArrayOf_alike hZ.alike A1.2.1) A1.2.2 hin (by rw [e1]; exact H k hk) hg hs hd
theorem own_rdB {f : Nat → Int32} (X : Stand p l e R s m args below meth c T locs cells slots) (hx : p.tables.exec = Jvm.exec) (hZ : Z.Warmed39 s.vm) (eT : T.heap = h) (A : own_AI Z h a .byte n f) (hj : j.toInt = (k : Int)) (hk : k < n) (hg : g.method = m) (hs : g.stack = .int j :: .ref a :: rest) (hd : decode c.code g.pc = .ok (.baload, 1)) :
    ∀ t, Steps p.tables e below (T.setTop { g with pc := g.pc + 1, stack := .int (f k) :: rest }) t → Steps p.tables e below (T.setTop g) t := by
  obtain ⟨cl, A1, S, H, -⟩ := A
  obtain ⟨hin, e1⟩ := own_idx S hj hk
  exact X.baloadBytes hx (by rw [eT]; exact A1.1) (State.isArrayOf_alike hZ.alike A1.2.1) A1.2.2 hin (by rw [e1]; exact H k hk) hg hs hd
theorem own_rdZ {f : Nat → Int32} (X : Stand p l e R s m args below meth c T locs cells slots) (hx : p.tables.exec = Jvm.exec) (hZ : Z.Warmed39 s.vm) (eT : T.heap = h) (A : own_AI Z h a .boolean n f) (hj : j.toInt = (k : Int)) (hk : k < n) (hg : g.method = m) (hs : g.stack = .int j :: .ref a :: rest) (hd : decode c.code g.pc = .ok (.baload, 1)) :
    ∀ t, Steps p.tables e below (T.setTop { g with pc := g.pc + 1, stack := .int (f k) :: rest }) t → Steps p.tables e below (T.setTop g) t := by
  obtain ⟨cl, A1, S, H, -⟩ := A
  obtain ⟨hin, e1⟩ := own_idx S hj hk
  exact X.baloadBooleans hx (by rw [eT]; exact A1.1) (State.isArrayOf_alike hZ.alike A1.2.1) A1.2.2 hin (by rw [e1]; exact H k hk) hg hs hd
theorem own_rdC {f : Nat → Int32} (X : Stand p l e R s m args below meth c T locs cells slots) (hx : p.tables.exec = Jvm.exec) (hZ : Z.Warmed39 s.vm) (eT : T.heap = h) (A : own_AI Z h a .char n f) (hj : j.toInt = (k : Int)) (hk : k < n) (hg : g.method = m) (hs : g.stack = .int j :: .ref a :: rest) (hd : decode c.code g.pc = .ok (.caload, 1)) :
    ∀ t, Steps p.tables e below (T.setTop { g with pc := g.pc + 1, stack := .int (f k) :: rest }) t → Steps p.tables e below (T.setTop g) t := by
  obtain ⟨cl, A1, S, H, -⟩ := A
  obtain ⟨hin, e1⟩ := own_idx S hj hk
  exact X.caload hx (by rw [eT]; exact A1.1) (State.isArrayOf_alike hZ.alike A1.2.1) A1.2.2 hin (by rw [e1]; exact H k hk) hg hs hd
theorem own_wrC {f : Nat → Int32} {x : Int32} (X : Stand p l e R s m args below meth c T locs cells slots) (hx : p.tables.exec = Jvm.exec) (hZ : Z.Warmed39 s.vm) (eT : T.heap = h) (A : own_AI Z h a .char n f) (hj : j.toInt = (k : Int)) (hk : k < n) (hg : g.method = m) (hs : g.stack = .int x :: .int j :: .ref a :: rest) (hd : decode c.code g.pc = .ok (.castore, 1)) :
    ∃ T' h', Stand p l e R s m args below meth c T' (locs ++ [⟨a, k⟩]) cells slots ∧ T'.heap = h' ∧ Wr h h' a k (.int (nar .char x)) ∧ own_AI Z h' a .char n (own_upd f k (nar .char x)) ∧ ∀ t, Steps p.tables e below (T'.setTop { g with pc := g.pc + 1, stack := rest }) t → Steps p.tables e below (T.setTop g) t := by
  have A0 := A
  obtain ⟨cl, A1, S, H, -⟩ := A
  obtain ⟨hin, e1⟩ := own_idx S hj hk
  obtain ⟨T', h', X', e', W', st⟩ := stC X hx hZ eT A1 hin hg hs hd
  rw [e1] at X' W'
  exact ⟨T', h', X', e', W', A0.set hk (fits_nar_char x) W', st⟩
theorem own_rdL {f : Nat → Int64} (X : Stand p l e R s m args below meth c T locs cells slots) (hx : p.tables.exec = Jvm.exec) (hZ : Z.Warmed39 s.vm) (eT : T.heap = h) (A : own_AL Z h a n f) (hj : j.toInt = (k : Int)) (hk : k < n) (hg : g.method = m) (hs : g.stack = .int j :: .ref a :: rest) (hd : decode c.code g.pc = .ok (.laload, 1)) :
    ∀ t, Steps p.tables e below (T.setTop { g with pc := g.pc + 1, stack := .long (f k) :: rest }) t → Steps p.tables e below (T.setTop g) t := by
  obtain ⟨cl, A1, S, H, -⟩ := A
  obtain ⟨hin, e1⟩ := own_idx S hj hk
  exact X.laload hx (by rw [eT]; exact A1.1) (State.isArrayOf_alike hZ.alike A1.2.1) A1.2.2 hin (by rw [e1]; exact H k hk) hg hs hd
theorem own_rdR {f : Nat → Value} {ty : FieldType} (X : Stand p l e R s m args below meth c T locs cells slots) (hx : p.tables.exec = Jvm.exec) (hZ : Z.Warmed39 s.vm) (eT : T.heap = h) (A : own_AV Z h a ty n f) (ht : ty.isReference = true) (hj : j.toInt = (k : Int)) (hk : k < n) (hg : g.method = m) (hs : g.stack = .int j :: .ref a :: rest) (hd : decode c.code g.pc = .ok (.aaload, 1)) :
    ∀ t, Steps p.tables e below (T.setTop { g with pc := g.pc + 1, stack := f k :: rest }) t → Steps p.tables e below (T.setTop g) t := by
  obtain ⟨cl, A1, S, H, -⟩ := A
  obtain ⟨hin, e1⟩ := own_idx S hj hk
  exact X.aaload hx (by rw [eT]; exact A1.1) (State.isArrayOf_alike hZ.alike A1.2.1) ht A1.2.2 hin (by rw [e1]; exact H k hk) hg hs hd
theorem own_len {f : Nat → Value} {ty : FieldType} {z : Int32} (X : Stand p l e R s m args below meth c T locs cells slots) (hx : p.tables.exec = Jvm.exec) (hZ : Z.Warmed39 s.vm) (eT : T.heap = h) (A : own_AV Z h a ty n f) (hz : n.toInt32 = z) (hg : g.method = m) (hs : g.stack = .ref a :: rest) (hd : decode c.code g.pc = .ok (.arraylength, 1)) :
    ∀ t, Steps p.tables e below (T.setTop { g with pc := g.pc + 1, stack := .int z :: rest }) t → Steps p.tables e below (T.setTop g) t := by
  obtain ⟨cl, A1, S, -, -⟩ := A
  subst hz S
  exact X.arraylength hx (by rw [eT]; exact A1.1) (State.isArrayOf_alike hZ.alike A1.2.1) hg hs hd
theorem own_wrI {f : Nat → Int32} {x : Int32} (X : Stand p l e R s m args below meth c T locs cells slots) (hx : p.tables.exec = Jvm.exec) (hZ : Z.Warmed39 s.vm) (eT : T.heap = h) (A : own_AI Z h a .int n f) (hj : j.toInt = (k : Int)) (hk : k < n) (hg : g.method = m) (hs : g.stack = .int x :: .int j :: .ref a :: rest) (hd : decode c.code g.pc = .ok (.iastore, 1)) :
    ∃ T' h', Stand p l e R s m args below meth c T' (locs ++ [⟨a, k⟩]) cells slots ∧ T'.heap = h' ∧ Wr h h' a k (.int x) ∧ own_AI Z h' a .int n (own_upd f k x) ∧ ∀ t, Steps p.tables e below (T'.setTop { g with pc := g.pc + 1, stack := rest }) t → Steps p.tables e below (T.setTop g) t := by
  have A0 := A
  obtain ⟨cl, A1, S, H, -⟩ := A
  obtain ⟨hin, e1⟩ := own_idx S hj hk
  obtain ⟨T', h', X', e', W', st⟩ := stI X hx hZ eT A1 hin hg hs hd
  rw [e1] at X' W'
  exact ⟨T', h', X', e', W', A0.set hk rfl W', st⟩
theorem own_wrB {f : Nat → Int32} {x : Int32} (X : Stand p l e R s m args below meth c T locs cells slots) (hx : p.tables.exec = Jvm.exec) (hZ : Z.Warmed39 s.vm) (eT : T.heap = h) (A : own_AI Z h a .byte n f) (hj : j.toInt = (k : Int)) (hk : k < n) (hg : g.method = m) (hs : g.stack = .int x :: .int j :: .ref a :: rest) (hd : decode c.code g.pc = .ok (.bastore, 1)) :
    ∃ T' h', Stand p l e R s m args below meth c T' (locs ++ [⟨a, k⟩]) cells slots ∧ T'.heap = h' ∧ Wr h h' a k (.int (nar .byte x)) ∧ own_AI Z h' a .byte n (own_upd f k (nar .byte x)) ∧ ∀ t, Steps p.tables e below (T'.setTop { g with pc := g.pc + 1, stack := rest }) t → Steps p.tables e below (T.setTop g) t := by
  have A0 := A
  obtain ⟨cl, A1, S, H, -⟩ := A
  obtain ⟨hin, e1⟩ := own_idx S hj hk
  obtain ⟨T', h', X', e', W', st⟩ := stB X hx hZ eT A1 hin hg hs hd
  rw [e1] at X' W'
  exact ⟨T', h', X', e', W', A0.set hk (fits_nar_byte x) W', st⟩
theorem own_wrZ {f : Nat → Int32} {x : Int32} (X : Stand p l e R s m args below meth c T locs cells slots) (hx : p.tables.exec = Jvm.exec) (hZ : Z.Warmed39 s.vm) (eT : T.heap = h) (A : own_AI Z h a .boolean n f) (hj : j.toInt = (k : Int)) (hk : k < n) (hg : g.method = m) (hs : g.stack = .int x :: .int j :: .ref a :: rest) (hd : decode c.code g.pc = .ok (.bastore, 1)) :
    ∃ T' h', Stand p l e R s m args below meth c T' (locs ++ [⟨a, k⟩]) cells slots ∧ T'.heap = h' ∧ Wr h h' a k (.int (nar .boolean x)) ∧ own_AI Z h' a .boolean n (own_upd f k (nar .boolean x)) ∧ ∀ t, Steps p.tables e below (T'.setTop { g with pc := g.pc + 1, stack := rest }) t → Steps p.tables e below (T.setTop g) t := by
  have A0 := A
  obtain ⟨cl, A1, S, H, -⟩ := A
  obtain ⟨hin, e1⟩ := own_idx S hj hk
  obtain ⟨T', h', X', e', W', st⟩ := stZ X hx hZ eT A1 hin hg hs hd
  rw [e1] at X' W'
  exact ⟨T', h', X', e', W', A0.set hk (fits_nar_bool x) W', st⟩
theorem own_wrL {f : Nat → Int64} {x : Int64} (X : Stand p l e R s m args below meth c T locs cells slots) (hx : p.tables.exec = Jvm.exec) (hZ : Z.Warmed39 s.vm) (eT : T.heap = h) (A : own_AL Z h a n f) (hj : j.toInt = (k : Int)) (hk : k < n) (hg : g.method = m) (hs : g.stack = .long x :: .int j :: .ref a :: rest) (hd : decode c.code g.pc = .ok (.lastore, 1)) :
    ∃ T' h', Stand p l e R s m args below meth c T' (locs ++ [⟨a, k⟩]) cells slots ∧ T'.heap = h' ∧ Wr h h' a k (.long x) ∧ own_AL Z h' a n (own_updL f k x) ∧ ∀ t, Steps p.tables e below (T'.setTop { g with pc := g.pc + 1, stack := rest }) t → Steps p.tables e below (T.setTop g) t := by
  have A0 := A
  obtain ⟨cl, A1, S, H, -⟩ := A
  obtain ⟨hin, e1⟩ := own_idx S hj hk
  obtain ⟨T', h', X', e', W', st⟩ := stJ X hx hZ eT A1 hin hg hs hd
  rw [e1] at X' W'
  exact ⟨T', h', X', e', W', (own_AV.set A0 hk rfl W').congr fun i _ => by by_cases q : i = k <;> simp [own_updV, own_updL, q], st⟩
theorem own_wrR {f : Nat → Value} {ty : FieldType} {v : Value} (X : Stand p l e R s m args below meth c T locs cells slots) (hx : p.tables.exec = Jvm.exec) (hZ : Z.Warmed39 s.vm) (eT : T.heap = h) (A : own_AV Z h a ty n f) (ht : ty.isReference = true) (hv : fits ty v = true) (F : Sto Z h a v) (hj : j.toInt = (k : Int)) (hk : k < n) (hg : g.method = m) (hs : g.stack = v :: .int j :: .ref a :: rest) (hd : decode c.code g.pc = .ok (.aastore, 1)) :
    ∃ T' h', Stand p l e R s m args below meth c T' (locs ++ [⟨a, k⟩]) cells slots ∧ T'.heap = h' ∧ Wr h h' a k v ∧ own_AV Z h' a ty n (own_updV f k v) ∧ ∀ t, Steps p.tables e below (T'.setTop { g with pc := g.pc + 1, stack := rest }) t → Steps p.tables e below (T.setTop g) t := by
  have A0 := A
  obtain ⟨cl, A1, S, H, -⟩ := A
  obtain ⟨hin, e1⟩ := own_idx S hj hk
  obtain ⟨T', h', X', e', W', st⟩ := stR X hx hZ eT A1 hin ht F hg hs hd
  rw [e1] at X' W'
  exact ⟨T', h', X', e', W', A0.set hk hv W', st⟩
/-- newarray: the fresh array at a = the heap's old size -/
theorem own_newP {aty : ArrayType} {z : Int32} (X : Stand p l e R s m args below meth c T locs cells slots) (hx : p.tables.exec = Jvm.exec) (hZ : Z.Warmed39 s.vm) (w : (Jvm.Cond.arrayClass (newarray.typeOf aty)).before a0 Z = true) (eT : T.heap = h) (hz : z.toInt = (n : Int)) (hf : fits (newarray.typeOf aty) (defaultValue (newarray.typeOf aty)) = true) (hg : g.method = m) (hs : g.stack = .int z :: rest) (hd : decode c.code g.pc = .ok (.newarray aty, 2)) {cap : Nat} (hcap : n ≤ cap) (hb : cap * 8 ≤ 536870912) (hc : cells + 1 ≤ R.cells) (hl : slots + cap ≤ R.slots) :
    ∃ T' h' a, a = h.size ∧ Stand p l e R s m args below meth c T' locs (cells + 1) (slots + cap) ∧ T'.heap = h' ∧ Ext h h' ∧ own_AV Z h' a (newarray.typeOf aty) n (fun _ => defaultValue (newarray.typeOf aty)) ∧ ∀ t, Steps p.tables e below (T'.setTop { g with pc := g.pc + 2, stack := .ref a :: rest }) t → Steps p.tables e below (T.setTop g) t := by
  have e0 : (0 : Int32).toInt = 0 := by decide
  have e1 : z.toNatClampNeg = n := by show z.toInt.toNat = n; rw [hz]; rfl
  have hn : ¬ z < 0 := by rw [Int32.lt_iff_toInt_lt, e0, hz]; omega
  obtain ⟨T', h', cA, X', e', E', A', st⟩ := newP X hx hZ w eT hg hd hs hn (by rw [e1]; exact hcap) hb hc hl
  exact ⟨T', h', _, rfl, X', e', E', own_AV.new A' e1 hf, st⟩
/-- newarray: the fresh array, its class besides -/
theorem own_newPE {aty : ArrayType} {z : Int32} (X : Stand p l e R s m args below meth c T locs cells slots) (hx : p.tables.exec = Jvm.exec) (hZ : Z.Warmed39 s.vm) (w : (Jvm.Cond.arrayClass (newarray.typeOf aty)).before a0 Z = true) (eT : T.heap = h) (hz : z.toInt = (n : Int)) (hf : fits (newarray.typeOf aty) (defaultValue (newarray.typeOf aty)) = true) (hg : g.method = m) (hs : g.stack = .int z :: rest) (hd : decode c.code g.pc = .ok (.newarray aty, 2)) {cap : Nat} (hcap : n ≤ cap) (hb : cap * 8 ≤ 536870912) (hc : cells + 1 ≤ R.cells) (hl : slots + cap ≤ R.slots) {ad : String} (had : "[" ++ (newarray.typeOf aty).toString = ad) :
    ∃ T' h' a, a = h.size ∧ Stand p l e R s m args below meth c T' locs (cells + 1) (slots + cap) ∧ T'.heap = h' ∧ Ext h h' ∧ own_AV Z h' a (newarray.typeOf aty) n (fun _ => defaultValue (newarray.typeOf aty)) ∧ Exa Z h' a ad ∧ ∀ t, Steps p.tables e below (T'.setTop { g with pc := g.pc + 2, stack := .ref a :: rest }) t → Steps p.tables e below (T.setTop g) t := by
  have e0 : (0 : Int32).toInt = 0 := by decide
  have e1 : z.toNatClampNeg = n := by show z.toInt.toNat = n; rw [hz]; rfl
  have hn : ¬ z < 0 := by rw [Int32.lt_iff_toInt_lt, e0, hz]; omega
  obtain ⟨T', h', cA, X', e', E', A', E2, st⟩ := newPE X hx hZ w eT hg hd hs hn (by rw [e1]; exact hcap) hb hc hl had
  exact ⟨T', h', _, rfl, X', e', E', own_AV.new A' e1 hf, E2, st⟩
/-- anewarray: the fresh array of references, all null; what may lie in it -/
theorem own_newR {C : String} {z : Int32} {own : String} {index : Nat} (X : Stand p l e R s m args below meth c T locs cells slots) (hx : p.tables.exec = Jvm.exec) (hZ : Z.Warmed39 s.vm) (hown : s.vm.findClass own = some m.cls) (w1 : (Jvm.Cond.classLink own index C).before a0 Z = true) (w2 : (Jvm.Cond.arrayOver (.object C)).before a0 Z = true) (eT : T.heap = h) (hz : z.toInt = (n : Int)) (hg : g.method = m) (hs : g.stack = .int z :: rest) (hd : decode c.code g.pc = .ok (.anewarray index, 3)) {cap : Nat} (hcap : n ≤ cap) (hb : cap * 8 ≤ 536870912) (hc : cells + 1 ≤ R.cells) (hl : slots + cap ≤ R.slots) :
    ∃ T' h' a, a = h.size ∧ Stand p l e R s m args below meth c T' locs (cells + 1) (slots + cap) ∧ T'.heap = h' ∧ Ext h h' ∧ own_AV Z h' a (.object C) n (fun _ => .null) ∧ (∃ cl : Cell, h'[a]? = some cl ∧ Ovr Z cl.cls C) ∧ ∀ t, Steps p.tables e below (T'.setTop { g with pc := g.pc + 3, stack := .ref a :: rest }) t → Steps p.tables e below (T.setTop g) t := by
  have e0 : (0 : Int32).toInt = 0 := by decide
  have e1 : z.toNatClampNeg = n := by show z.toInt.toNat = n; rw [hz]; rfl
  have hn : ¬ z < 0 := by rw [Int32.lt_iff_toInt_lt, e0, hz]; omega
  obtain ⟨T', h', cA, X', e', E', A', O', st⟩ := newR X hx hZ hown w1 w2 eT hg hd hs hn (by rw [e1]; exact hcap) hb hc hl
  exact ⟨T', h', _, rfl, X', e', E', own_AV.new A' e1 rfl, ⟨_, A'.1, O'⟩, st⟩
/-- the array over class C at a takes an object of C -/
def own_Ov (Z : State) (h : Heap) (a : Addr) (C : String) : Prop := ∃ cl : Cell, h[a]? = some cl ∧ Ovr Z cl.cls C
theorem own_Ov.keep {a : Addr} {C : String} {ws : List Addr} (O : own_Ov Z h a C) (K : Keep h h' ws) : own_Ov Z h' a C := by
  obtain ⟨cl, h1, h2⟩ := O
  obtain ⟨c', q1, q2, -, -⟩ := K.2.2 a cl h1
  exact ⟨c', q1, by rw [q2]; exact h2⟩
theorem own_Ov.sto {a y : Addr} {C : String} {ty : FieldType} {f : Nat → Value} (O : own_Ov Z h a C) (A : own_AV Z h a ty n f) (I : Ins Z h y C true) : Sto Z h a (.ref y) := by
  obtain ⟨cl, h1, h2⟩ := O
  obtain ⟨c2, A2, -⟩ := A
  cases h1.symm.trans A2.1
  exact Sto.of A2 h2 I
/-- clone() of an array -/
theorem own_clone {own ad : String} {index : Nat} {ty : FieldType} {f : Nat → Value} (X : Stand p l e R s m args below meth c T locs cells slots) (hx : p.tables.exec = Jvm.exec) (hZ : Z.Warmed39 s.vm) (hown : s.vm.findClass own = some m.cls)
    (w1 : (Jvm.Cond.methodLink own index ⟨ad, "clone", "()Ljava/lang/Object;"⟩).before a0 Z = true) (w2 : (Jvm.Cond.sameMethod ad "java/lang/Object" "clone" "()Ljava/lang/Object;").before a0 Z = true) (w3 : (Jvm.Cond.native ⟨"java/lang/Object", "clone", "()Ljava/lang/Object;"⟩).before a0 Z = true)
    (w4 : (Jvm.Cond.instanceMethod ⟨"java/lang/Object", "clone", "()Ljava/lang/Object;"⟩).before a0 Z = true) (w5 : (Jvm.Cond.selects ad ⟨ad, "clone", "()Ljava/lang/Object;"⟩ ⟨"java/lang/Object", "clone", "()Ljava/lang/Object;"⟩).before a0 Z = true) (w6 : (Jvm.Cond.castable ad "java/lang/Cloneable").before a0 Z = true)
    (eT : T.heap = h) (A : own_AV Z h a ty n f) (E : Exa Z h a ad) (hg : g.method = m) (hsize : g.locals.size = c.maxLocals) (hs : g.stack = .ref a :: rest) (hd : decode c.code g.pc = .ok (.invokevirtual index, 3))
    (hf : 1 ≤ R.frames) {W : Nat} (hW : 2 * g.monitorRoom + (rest.map fun v => v.category).sum ≤ W) (hl : W + 14 ≤ R.locals) (hc : cells + 1 ≤ R.cells) (hsl : slots + n ≤ R.slots) :
    ∃ T' h' b, b = h.size ∧ Stand p l e R s m args below meth c T' locs (cells + 1) (slots + n) ∧ T'.heap = h' ∧ Ext h h' ∧ own_AV Z h' b ty n f ∧ Exa Z h' b ad ∧ ∀ t, Steps p.tables e below (T'.setTop { g with pc := g.pc + 3, stack := .ref b :: rest }) t → Steps p.tables e below (T.setTop g) t := by
  obtain ⟨cl, A1, S, H, G⟩ := A
  have F : FitC Z cl := fitC_of A1 fun i hi v hv => by
    rw [S] at hi
    rw [H i hi] at hv
    cases hv
    exact G i hi
  obtain ⟨T', h', X', e', E', A', E2, st⟩ := cloneA X hx hZ hown w1 w2 w3 w4 w5 w6 eT A1 E F hg hsize hs hd hf hW hl (Nat.le_of_eq S) hc hsl
  exact ⟨T', h', _, rfl, X', e', E', ⟨_, A', S, H, G⟩, E2, st⟩
end Rd
end Own
end Jvm.RoadKit
namespace Jvm.Pilot.@@N@@
open Jvm Jvm.ClassFile Sem Op Lib Jvm.Free Jvm.Stand Jvm.LawKit Jvm.RoadKit Bundle Jvm.Pilot.@@N@@.Jvm.D
theorem own_eqI {x y : Int32} (h : x.toInt = y.toInt) : x = y := Int32.toInt_inj.mp h
def own_Dv (Z : State) (h : Heap) (q r d : Nat) (t : Int32) (R : Nat → Int32) : Prop :=
  Exa Z h q "com/example/kingsround/kingsround/engine/Deliveries$Delivered" ∧ Fld Z h q "com/example/kingsround/kingsround/engine/Deliveries$Delivered" "this$0" "Lcom/example/kingsround/kingsround/engine/Deliveries;" (.ref d) ∧ Fld Z h q "com/example/kingsround/kingsround/engine/Deliveries$Delivered" "to" "I" (.int t) ∧ Fld Z h q "com/example/kingsround/kingsround/engine/Deliveries$Delivered" "received" "[B" (.ref r) ∧ own_AI Z h r .byte 3 R
theorem own_Dv.keep {Z : State} {h h' : Heap} {q r d : Nat} {t : Int32} {R : Nat → Int32} {ws : List Addr} (D : own_Dv Z h q r d t R) (K : Keep h h' ws) (n1 : q ∉ ws) (n2 : r ∉ ws) : own_Dv Z h' q r d t R :=
  ⟨D.1.keep K, D.2.1.keep K n1, D.2.2.1.keep K n1, D.2.2.2.1.keep K n1, D.2.2.2.2.keep K n2⟩
def own_D (Z : State) (h : Heap) (d ib kp ta ob : Nat) (q r : Nat → Nat) (K T O : Nat → Int32) (R : Nat → Nat → Int32) (cnt : Int64) : Prop :=
  Exa Z h d "com/example/kingsround/kingsround/engine/Deliveries" ∧ Fld Z h d "com/example/kingsround/kingsround/engine/Deliveries" "inboxes" "[Lcom/example/kingsround/kingsround/engine/Deliveries$Delivered;" (.ref ib) ∧ Fld Z h d "com/example/kingsround/kingsround/engine/Deliveries" "kept" "[Z" (.ref kp) ∧ Fld Z h d "com/example/kingsround/kingsround/engine/Deliveries" "toAll" "[B" (.ref ta) ∧ Fld Z h d "com/example/kingsround/kingsround/engine/Deliveries" "oneByOne" "[Z" (.ref ob) ∧ Fld Z h d "com/example/kingsround/kingsround/engine/Deliveries" "count" "J" (.long cnt) ∧
  own_AV Z h ib (.object "com/example/kingsround/kingsround/engine/Deliveries$Delivered") 3 (fun i => .ref (q i)) ∧ own_AI Z h kp .boolean 3 K ∧ own_AI Z h ta .byte 3 T ∧ own_AI Z h ob .boolean 3 O ∧ ∀ i, i < 3 → own_Dv Z h (q i) (r i) d (Int32.ofNat (i + 1)) (R i)
/-- where they lie -/
def own_Ad (n0 : Nat) (d ib kp ta ob : Nat) (q r : Nat → Nat) : Prop := n0 ≤ d ∧ d < ib ∧ ib < q 0 ∧ q 0 < r 0 ∧ r 0 < q 1 ∧ q 1 < r 1 ∧ r 1 < q 2 ∧ q 2 < r 2 ∧ r 2 < kp ∧ kp < ta ∧ ta < ob
theorem own_lt3 {i : Nat} (h : i < 3) : i = 0 ∨ i = 1 ∨ i = 2 := by omega

theorem own_d4_0 : decode jdk_65_method_109_code 0 = .ok (.iconst 0, 1) := by decide +kernel
theorem own_d4_1 : decode jdk_65_method_109_code 1 = .ok (.istore_n 2, 1) := by decide +kernel
theorem own_d4_2 : decode jdk_65_method_109_code 2 = .ok (.aload_n 0, 1) := by decide +kernel
theorem own_d4_3 : decode jdk_65_method_109_code 3 = .ok (.arraylength, 1) := by decide +kernel
theorem own_d4_4 : decode jdk_65_method_109_code 4 = .ok (.istore_n 3, 1) := by decide +kernel
theorem own_d4_5 : decode jdk_65_method_109_code 5 = .ok (.iload_n 2, 1) := by decide +kernel
theorem own_d4_6 : decode jdk_65_method_109_code 6 = .ok (.iload_n 3, 1) := by decide +kernel
theorem own_d4_7 : decode jdk_65_method_109_code 7 = .ok (.if_icmp .ge 13, 3) := by decide +kernel
theorem own_d4_10 : decode jdk_65_method_109_code 10 = .ok (.aload_n 0, 1) := by decide +kernel
theorem own_d4_11 : decode jdk_65_method_109_code 11 = .ok (.iload_n 2, 1) := by decide +kernel
theorem own_d4_12 : decode jdk_65_method_109_code 12 = .ok (.iload_n 1, 1) := by decide +kernel
theorem own_d4_13 : decode jdk_65_method_109_code 13 = .ok (.bastore, 1) := by decide +kernel
theorem own_d4_14 : decode jdk_65_method_109_code 14 = .ok (.iinc 2 1, 3) := by decide +kernel
theorem own_d4_17 : decode jdk_65_method_109_code 17 = .ok (.goto (-12), 3) := by decide +kernel
theorem own_d4_20 : decode jdk_65_method_109_code 20 = .ok (.return_, 1) := by decide +kernel
theorem own_pn0 : plainName "java/util/Arrays" = true := by first | (simp [plainName, overriddenIn]; done) | decide +kernel
theorem own_effil (m : MethodId) (a : Nat) (x : Int32) : entryFrame m #[(.ref a), (.int x)] 4 = mkF m 0 #[rv a, iv x, .unset, .unset] [] := by first | (simp [entryFrame, mkF, argsToLocals, Value.category]; done) | rfl
set_option maxRecDepth 65536 in
set_option maxHeartbeats 40000000 in
theorem own_rmfil (l : Launch) (Z : State) (a0 : Array Value) (hw : ∀ d ∈ tables_1, d.before a0 Z = true) (a : Nat) (x : Int32) (f : Nat → Int32) (h0 : Heap) (n0 : Nat) (Z0 : n0 ≤ h0.size) (A : own_AI Z h0 a .byte 3 f) (g_a : n0 ≤ a) :
    own_Ct l Z (⟨"java/util/Arrays", "fill", "([BB)V"⟩ : MethodName) jdk_65_method_109_code 4 none ({ frames := 0, cells := 0, slots := 0, locals := 0 } : Room) #[(.ref a), (.int x)] h0 (fun v h L => v = none ∧ Fr n0 L ∧ Keep h0 h [a] ∧ own_AI Z h a .byte 3 (fun _ => nar .byte x)) := by
  refine own_body (y := (⟨"java/util/Arrays", "fill", "([BB)V"⟩ : MethodName)) (Q := fun v h L => v = none ∧ Fr n0 L ∧ Keep h0 h [a] ∧ own_AI Z h a .byte 3 (fun _ => nar .byte x)) (plainFor_of_name own_pn0) ?_
  intro p e s m below meth c s₁ Bd hml0 hZ e0
  have hx := Bd.exec
  have hby := Bd.bytes
  have hml : c.maxLocals = 4 := hml0
  have hown : s.vm.findClass "java/util/Arrays" = some m.cls := findClass_of_methodNamed Bd.named
  have hnm := (name_of_methodNamed Bd.named Bd.method).1
  have X0 : Stand p l e ({ frames := 0, cells := 0, slots := 0, locals := 0 } : Room) s m #[(.ref a), (.int x)] below meth c s₁ [] 0 0 := Stand.of_body Bd
  have N0 := Fr.nil n0
  rw [own_effil]
  have sg1 : own_V p e below s₁ (mkF m 5 #[rv a, iv x, iv (0 : Int32), iv (3 : Int32)] []) (mkF m 0 #[rv a, iv x, .unset, .unset] []) := by
    intro t kt
    refine XS.iconst X0.here hx rfl (hb hby own_d4_0) ?_
    show own_S p e below s₁ m 1 #[rv a, iv x, .unset, .unset] [(.int (0 : Int32))] _
    refine XS.istoreN X0.here hx rfl (hb hby own_d4_1) rfl (l' := #[rv a, iv x, iv (0 : Int32), .unset]) rfl ?_
    show own_S p e below s₁ m 2 #[rv a, iv x, iv (0 : Int32), .unset] [] _
    refine XS.aloadN X0.here hx rfl (hb hby own_d4_2) rfl rfl ?_
    show own_S p e below s₁ m 3 #[rv a, iv x, iv (0 : Int32), .unset] [(.ref a)] _
    refine own_len (z := (3 : Int32)) X0 hx hZ e0 A (by decide) (g := (mkF m 3 #[rv a, iv x, iv (0 : Int32), .unset] [(.ref a)])) rfl rfl (hb hby own_d4_3) _ ?_
    show own_S p e below s₁ m 4 #[rv a, iv x, iv (0 : Int32), .unset] [(.int (3 : Int32))] _
    refine XS.istoreN X0.here hx rfl (hb hby own_d4_4) rfl (l' := #[rv a, iv x, iv (0 : Int32), iv (3 : Int32)]) rfl ?_
    show own_S p e below s₁ m 5 #[rv a, iv x, iv (0 : Int32), iv (3 : Int32)] [] _
    exact kt
  refine own_st sg1 ?_
  have sg2 : own_V p e below s₁ (mkF m 7 #[rv a, iv x, iv (0 : Int32), iv (3 : Int32)] [(.int (3 : Int32)), (.int (0 : Int32))]) (mkF m 5 #[rv a, iv x, iv (0 : Int32), iv (3 : Int32)] []) := by
    intro t kt
    refine XS.iloadN X0.here hx rfl (hb hby own_d4_5) rfl ?_
    show own_S p e below s₁ m 6 #[rv a, iv x, iv (0 : Int32), iv (3 : Int32)] [(.int (0 : Int32))] _
    refine XS.iloadN X0.here hx rfl (hb hby own_d4_6) rfl ?_
    show own_S p e below s₁ m 7 #[rv a, iv x, iv (0 : Int32), iv (3 : Int32)] [(.int (3 : Int32)), (.int (0 : Int32))] _
    exact kt
  refine own_st sg2 ?_
  have sg4 : own_V p e below s₁ (mkF m 10 #[rv a, iv x, iv (0 : Int32), iv (3 : Int32)] []) (mkF m 7 #[rv a, iv x, iv (0 : Int32), iv (3 : Int32)] [(.int (3 : Int32)), (.int (0 : Int32))]) := by
    intro t kt
    refine XS.icmpNo X0.here hx rfl (hb hby own_d4_7) rfl (tlt (by decide : (0 : Int32) < (3 : Int32))).2.1 ?_
    exact kt
  refine own_st sg4 ?_
  have sg5 : own_V p e below s₁ (mkF m 13 #[rv a, iv x, iv (0 : Int32), iv (3 : Int32)] [(.int x), (.int (0 : Int32)), (.ref a)]) (mkF m 10 #[rv a, iv x, iv (0 : Int32), iv (3 : Int32)] []) := by
    intro t kt
    refine XS.aloadN X0.here hx rfl (hb hby own_d4_10) rfl rfl ?_
    show own_S p e below s₁ m 11 #[rv a, iv x, iv (0 : Int32), iv (3 : Int32)] [(.ref a)] _
    refine XS.iloadN X0.here hx rfl (hb hby own_d4_11) rfl ?_
    show own_S p e below s₁ m 12 #[rv a, iv x, iv (0 : Int32), iv (3 : Int32)] [(.int (0 : Int32)), (.ref a)] _
    refine XS.iloadN X0.here hx rfl (hb hby own_d4_12) rfl ?_
    show own_S p e below s₁ m 13 #[rv a, iv x, iv (0 : Int32), iv (3 : Int32)] [(.int x), (.int (0 : Int32)), (.ref a)] _
    exact kt
  refine own_st sg5 ?_
  obtain ⟨T6, h6, X6, e6, W6, A6, st6⟩ := own_wrB X0 hx hZ e0 A (k := 0) (by decide) (by decide) (g := (mkF m 13 #[rv a, iv x, iv (0 : Int32), iv (3 : Int32)] [(.int x), (.int (0 : Int32)), (.ref a)])) rfl rfl (hb hby own_d4_13)
  refine own_st st6 ?_
  have Z6 : n0 ≤ h6.size := by rw [Wr.size W6]; exact Z0
  have N6 := Fr.snoc X6 N0 g_a
  show own_Go p e below _ T6 (mkF m 14 #[rv a, iv x, iv (0 : Int32), iv (3 : Int32)] [])
  have K6 : Keep h0 h6 [a] := (Keep.refl h0 [a]).wr W6 (Or.inl (List.mem_of_getElem? (i := 0) rfl))
  have sg7 : own_V p e below T6 (mkF m 5 #[rv a, iv x, iv ((0 : Int32) + (1 : Int32)), iv (3 : Int32)] []) (mkF m 14 #[rv a, iv x, iv (0 : Int32), iv (3 : Int32)] []) := by
    intro t kt
    refine XS.iinc X6.here hx rfl (hb hby own_d4_14) rfl (l' := #[rv a, iv x, iv ((0 : Int32) + (1 : Int32)), iv (3 : Int32)]) rfl ?_
    show own_S p e below T6 m 17 #[rv a, iv x, iv ((0 : Int32) + (1 : Int32)), iv (3 : Int32)] [] _
    refine XS.goto X6.here hx rfl (pc0 := 17) (pc' := 5) rfl (hb hby own_d4_17) (by decide) (by decide) ?_
    show own_S p e below T6 m 5 #[rv a, iv x, iv ((0 : Int32) + (1 : Int32)), iv (3 : Int32)] [] _
    exact kt
  refine own_st sg7 ?_
  have sg8 : own_V p e below T6 (mkF m 7 #[rv a, iv x, iv ((0 : Int32) + (1 : Int32)), iv (3 : Int32)] [(.int (3 : Int32)), (.int ((0 : Int32) + (1 : Int32)))]) (mkF m 5 #[rv a, iv x, iv ((0 : Int32) + (1 : Int32)), iv (3 : Int32)] []) := by
    intro t kt
    refine XS.iloadN X6.here hx rfl (hb hby own_d4_5) rfl ?_
    show own_S p e below T6 m 6 #[rv a, iv x, iv ((0 : Int32) + (1 : Int32)), iv (3 : Int32)] [(.int ((0 : Int32) + (1 : Int32)))] _
    refine XS.iloadN X6.here hx rfl (hb hby own_d4_6) rfl ?_
    show own_S p e below T6 m 7 #[rv a, iv x, iv ((0 : Int32) + (1 : Int32)), iv (3 : Int32)] [(.int (3 : Int32)), (.int ((0 : Int32) + (1 : Int32)))] _
    exact kt
  refine own_st sg8 ?_
  have sg10 : own_V p e below T6 (mkF m 10 #[rv a, iv x, iv ((0 : Int32) + (1 : Int32)), iv (3 : Int32)] []) (mkF m 7 #[rv a, iv x, iv ((0 : Int32) + (1 : Int32)), iv (3 : Int32)] [(.int (3 : Int32)), (.int ((0 : Int32) + (1 : Int32)))]) := by
    intro t kt
    refine XS.icmpNo X6.here hx rfl (hb hby own_d4_7) rfl (tlt (by decide : ((0 : Int32) + (1 : Int32)) < (3 : Int32))).2.1 ?_
    exact kt
  refine own_st sg10 ?_
  have sg11 : own_V p e below T6 (mkF m 13 #[rv a, iv x, iv ((0 : Int32) + (1 : Int32)), iv (3 : Int32)] [(.int x), (.int ((0 : Int32) + (1 : Int32))), (.ref a)]) (mkF m 10 #[rv a, iv x, iv ((0 : Int32) + (1 : Int32)), iv (3 : Int32)] []) := by
    intro t kt
    refine XS.aloadN X6.here hx rfl (hb hby own_d4_10) rfl rfl ?_
    show own_S p e below T6 m 11 #[rv a, iv x, iv ((0 : Int32) + (1 : Int32)), iv (3 : Int32)] [(.ref a)] _
    refine XS.iloadN X6.here hx rfl (hb hby own_d4_11) rfl ?_
    show own_S p e below T6 m 12 #[rv a, iv x, iv ((0 : Int32) + (1 : Int32)), iv (3 : Int32)] [(.int ((0 : Int32) + (1 : Int32))), (.ref a)] _
    refine XS.iloadN X6.here hx rfl (hb hby own_d4_12) rfl ?_
    show own_S p e below T6 m 13 #[rv a, iv x, iv ((0 : Int32) + (1 : Int32)), iv (3 : Int32)] [(.int x), (.int ((0 : Int32) + (1 : Int32))), (.ref a)] _
    exact kt
  refine own_st sg11 ?_
  obtain ⟨T12, h12, X12, e12, W12, A12, st12⟩ := own_wrB X6 hx hZ e6 A6 (k := 1) (by decide) (by decide) (g := (mkF m 13 #[rv a, iv x, iv ((0 : Int32) + (1 : Int32)), iv (3 : Int32)] [(.int x), (.int ((0 : Int32) + (1 : Int32))), (.ref a)])) rfl rfl (hb hby own_d4_13)
  refine own_st st12 ?_
  have Z12 : n0 ≤ h12.size := by rw [Wr.size W12]; exact Z6
  have N12 := Fr.snoc X12 N6 g_a
  show own_Go p e below _ T12 (mkF m 14 #[rv a, iv x, iv ((0 : Int32) + (1 : Int32)), iv (3 : Int32)] [])
  have K12 : Keep h0 h12 [a] := K6.wr W12 (Or.inl (List.mem_of_getElem? (i := 0) rfl))
  have sg13 : own_V p e below T12 (mkF m 5 #[rv a, iv x, iv (((0 : Int32) + (1 : Int32)) + (1 : Int32)), iv (3 : Int32)] []) (mkF m 14 #[rv a, iv x, iv ((0 : Int32) + (1 : Int32)), iv (3 : Int32)] []) := by
    intro t kt
    refine XS.iinc X12.here hx rfl (hb hby own_d4_14) rfl (l' := #[rv a, iv x, iv (((0 : Int32) + (1 : Int32)) + (1 : Int32)), iv (3 : Int32)]) rfl ?_
    show own_S p e below T12 m 17 #[rv a, iv x, iv (((0 : Int32) + (1 : Int32)) + (1 : Int32)), iv (3 : Int32)] [] _
    refine XS.goto X12.here hx rfl (pc0 := 17) (pc' := 5) rfl (hb hby own_d4_17) (by decide) (by decide) ?_
    show own_S p e below T12 m 5 #[rv a, iv x, iv (((0 : Int32) + (1 : Int32)) + (1 : Int32)), iv (3 : Int32)] [] _
    exact kt
  refine own_st sg13 ?_
  have sg14 : own_V p e below T12 (mkF m 7 #[rv a, iv x, iv (((0 : Int32) + (1 : Int32)) + (1 : Int32)), iv (3 : Int32)] [(.int (3 : Int32)), (.int (((0 : Int32) + (1 : Int32)) + (1 : Int32)))]) (mkF m 5 #[rv a, iv x, iv (((0 : Int32) + (1 : Int32)) + (1 : Int32)), iv (3 : Int32)] []) := by
    intro t kt
    refine XS.iloadN X12.here hx rfl (hb hby own_d4_5) rfl ?_
    show own_S p e below T12 m 6 #[rv a, iv x, iv (((0 : Int32) + (1 : Int32)) + (1 : Int32)), iv (3 : Int32)] [(.int (((0 : Int32) + (1 : Int32)) + (1 : Int32)))] _
    refine XS.iloadN X12.here hx rfl (hb hby own_d4_6) rfl ?_
    show own_S p e below T12 m 7 #[rv a, iv x, iv (((0 : Int32) + (1 : Int32)) + (1 : Int32)), iv (3 : Int32)] [(.int (3 : Int32)), (.int (((0 : Int32) + (1 : Int32)) + (1 : Int32)))] _
    exact kt
  refine own_st sg14 ?_
  have sg16 : own_V p e below T12 (mkF m 10 #[rv a, iv x, iv (((0 : Int32) + (1 : Int32)) + (1 : Int32)), iv (3 : Int32)] []) (mkF m 7 #[rv a, iv x, iv (((0 : Int32) + (1 : Int32)) + (1 : Int32)), iv (3 : Int32)] [(.int (3 : Int32)), (.int (((0 : Int32) + (1 : Int32)) + (1 : Int32)))]) := by
    intro t kt
    refine XS.icmpNo X12.here hx rfl (hb hby own_d4_7) rfl (tlt (by decide : (((0 : Int32) + (1 : Int32)) + (1 : Int32)) < (3 : Int32))).2.1 ?_
    exact kt
  refine own_st sg16 ?_
  have sg17 : own_V p e below T12 (mkF m 13 #[rv a, iv x, iv (((0 : Int32) + (1 : Int32)) + (1 : Int32)), iv (3 : Int32)] [(.int x), (.int (((0 : Int32) + (1 : Int32)) + (1 : Int32))), (.ref a)]) (mkF m 10 #[rv a, iv x, iv (((0 : Int32) + (1 : Int32)) + (1 : Int32)), iv (3 : Int32)] []) := by
    intro t kt
    refine XS.aloadN X12.here hx rfl (hb hby own_d4_10) rfl rfl ?_
    show own_S p e below T12 m 11 #[rv a, iv x, iv (((0 : Int32) + (1 : Int32)) + (1 : Int32)), iv (3 : Int32)] [(.ref a)] _
    refine XS.iloadN X12.here hx rfl (hb hby own_d4_11) rfl ?_
    show own_S p e below T12 m 12 #[rv a, iv x, iv (((0 : Int32) + (1 : Int32)) + (1 : Int32)), iv (3 : Int32)] [(.int (((0 : Int32) + (1 : Int32)) + (1 : Int32))), (.ref a)] _
    refine XS.iloadN X12.here hx rfl (hb hby own_d4_12) rfl ?_
    show own_S p e below T12 m 13 #[rv a, iv x, iv (((0 : Int32) + (1 : Int32)) + (1 : Int32)), iv (3 : Int32)] [(.int x), (.int (((0 : Int32) + (1 : Int32)) + (1 : Int32))), (.ref a)] _
    exact kt
  refine own_st sg17 ?_
  obtain ⟨T18, h18, X18, e18, W18, A18, st18⟩ := own_wrB X12 hx hZ e12 A12 (k := 2) (by decide) (by decide) (g := (mkF m 13 #[rv a, iv x, iv (((0 : Int32) + (1 : Int32)) + (1 : Int32)), iv (3 : Int32)] [(.int x), (.int (((0 : Int32) + (1 : Int32)) + (1 : Int32))), (.ref a)])) rfl rfl (hb hby own_d4_13)
  refine own_st st18 ?_
  have Z18 : n0 ≤ h18.size := by rw [Wr.size W18]; exact Z12
  have N18 := Fr.snoc X18 N12 g_a
  show own_Go p e below _ T18 (mkF m 14 #[rv a, iv x, iv (((0 : Int32) + (1 : Int32)) + (1 : Int32)), iv (3 : Int32)] [])
  have K18 : Keep h0 h18 [a] := K12.wr W18 (Or.inl (List.mem_of_getElem? (i := 0) rfl))
  have sg19 : own_V p e below T18 (mkF m 5 #[rv a, iv x, iv ((((0 : Int32) + (1 : Int32)) + (1 : Int32)) + (1 : Int32)), iv (3 : Int32)] []) (mkF m 14 #[rv a, iv x, iv (((0 : Int32) + (1 : Int32)) + (1 : Int32)), iv (3 : Int32)] []) := by
    intro t kt
    refine XS.iinc X18.here hx rfl (hb hby own_d4_14) rfl (l' := #[rv a, iv x, iv ((((0 : Int32) + (1 : Int32)) + (1 : Int32)) + (1 : Int32)), iv (3 : Int32)]) rfl ?_
    show own_S p e below T18 m 17 #[rv a, iv x, iv ((((0 : Int32) + (1 : Int32)) + (1 : Int32)) + (1 : Int32)), iv (3 : Int32)] [] _
    refine XS.goto X18.here hx rfl (pc0 := 17) (pc' := 5) rfl (hb hby own_d4_17) (by decide) (by decide) ?_
    show own_S p e below T18 m 5 #[rv a, iv x, iv ((((0 : Int32) + (1 : Int32)) + (1 : Int32)) + (1 : Int32)), iv (3 : Int32)] [] _
    exact kt
  refine own_st sg19 ?_
  have sg20 : own_V p e below T18 (mkF m 7 #[rv a, iv x, iv ((((0 : Int32) + (1 : Int32)) + (1 : Int32)) + (1 : Int32)), iv (3 : Int32)] [(.int (3 : Int32)), (.int ((((0 : Int32) + (1 : Int32)) + (1 : Int32)) + (1 : Int32)))]) (mkF m 5 #[rv a, iv x, iv ((((0 : Int32) + (1 : Int32)) + (1 : Int32)) + (1 : Int32)), iv (3 : Int32)] []) := by
    intro t kt
    refine XS.iloadN X18.here hx rfl (hb hby own_d4_5) rfl ?_
    show own_S p e below T18 m 6 #[rv a, iv x, iv ((((0 : Int32) + (1 : Int32)) + (1 : Int32)) + (1 : Int32)), iv (3 : Int32)] [(.int ((((0 : Int32) + (1 : Int32)) + (1 : Int32)) + (1 : Int32)))] _
    refine XS.iloadN X18.here hx rfl (hb hby own_d4_6) rfl ?_
    show own_S p e below T18 m 7 #[rv a, iv x, iv ((((0 : Int32) + (1 : Int32)) + (1 : Int32)) + (1 : Int32)), iv (3 : Int32)] [(.int (3 : Int32)), (.int ((((0 : Int32) + (1 : Int32)) + (1 : Int32)) + (1 : Int32)))] _
    exact kt
  refine own_st sg20 ?_
  have sg22 : own_V p e below T18 (mkF m 20 #[rv a, iv x, iv ((((0 : Int32) + (1 : Int32)) + (1 : Int32)) + (1 : Int32)), iv (3 : Int32)] []) (mkF m 7 #[rv a, iv x, iv ((((0 : Int32) + (1 : Int32)) + (1 : Int32)) + (1 : Int32)), iv (3 : Int32)] [(.int (3 : Int32)), (.int ((((0 : Int32) + (1 : Int32)) + (1 : Int32)) + (1 : Int32)))]) := by
    intro t kt
    refine XS.icmpYes X18.here hx rfl (pc0 := 7) (pc' := 20) rfl (hb hby own_d4_7) rfl (flt (by decide : ¬ ((((0 : Int32) + (1 : Int32)) + (1 : Int32)) + (1 : Int32)) < (3 : Int32))).2.1 (by decide) (by decide) ?_
    exact kt
  refine own_st sg22 ?_
  have AF : own_AI Z h18 a .byte 3 (fun _ => nar .byte x) := A18.congr (fun i hi => by rcases own_lt3 hi with rfl | rfl | rfl <;> rfl)
  exact own_retV X18 hx Bd.notSynchronized Bd.returns (hb hby own_d4_20) (by decide) (by decide) e18 ⟨rfl, N18, K18, AF⟩
theorem own_d5_0 : decode prog_65_method_13_code 0 = .ok (.iconst 0, 1) := by decide +kernel
theorem own_d5_1 : decode prog_65_method_13_code 1 = .ok (.istore_n 1, 1) := by decide +kernel
theorem own_d5_2 : decode prog_65_method_13_code 2 = .ok (.aload_n 0, 1) := by decide +kernel
theorem own_d5_3 : decode prog_65_method_13_code 3 = .ok (.astore_n 2, 1) := by decide +kernel
theorem own_d5_4 : decode prog_65_method_13_code 4 = .ok (.aload_n 2, 1) := by decide +kernel
theorem own_d5_5 : decode prog_65_method_13_code 5 = .ok (.arraylength, 1) := by decide +kernel
theorem own_d5_6 : decode prog_65_method_13_code 6 = .ok (.istore_n 3, 1) := by decide +kernel
theorem own_d5_7 : decode prog_65_method_13_code 7 = .ok (.iconst 0, 1) := by decide +kernel
theorem own_d5_8 : decode prog_65_method_13_code 8 = .ok (.istore 4, 2) := by decide +kernel
theorem own_d5_10 : decode prog_65_method_13_code 10 = .ok (.iload 4, 2) := by decide +kernel
theorem own_d5_12 : decode prog_65_method_13_code 12 = .ok (.iload_n 3, 1) := by decide +kernel
theorem own_d5_13 : decode prog_65_method_13_code 13 = .ok (.if_icmp .ge 28, 3) := by decide +kernel
theorem own_d5_16 : decode prog_65_method_13_code 16 = .ok (.aload_n 2, 1) := by decide +kernel
theorem own_d5_17 : decode prog_65_method_13_code 17 = .ok (.iload 4, 2) := by decide +kernel
theorem own_d5_19 : decode prog_65_method_13_code 19 = .ok (.baload, 1) := by decide +kernel
theorem own_d5_20 : decode prog_65_method_13_code 20 = .ok (.istore 5, 2) := by decide +kernel
theorem own_d5_22 : decode prog_65_method_13_code 22 = .ok (.iload_n 1, 1) := by decide +kernel
theorem own_d5_23 : decode prog_65_method_13_code 23 = .ok (.iload 5, 2) := by decide +kernel
theorem own_d5_25 : decode prog_65_method_13_code 25 = .ok (.ifCond .eq 7, 3) := by decide +kernel
theorem own_d5_28 : decode prog_65_method_13_code 28 = .ok (.iconst 1, 1) := by decide +kernel
theorem own_d5_29 : decode prog_65_method_13_code 29 = .ok (.goto 4, 3) := by decide +kernel
theorem own_d5_32 : decode prog_65_method_13_code 32 = .ok (.iconst 0, 1) := by decide +kernel
theorem own_d5_33 : decode prog_65_method_13_code 33 = .ok (.iadd, 1) := by decide +kernel
theorem own_d5_34 : decode prog_65_method_13_code 34 = .ok (.istore_n 1, 1) := by decide +kernel
theorem own_d5_35 : decode prog_65_method_13_code 35 = .ok (.iinc 4 1, 3) := by decide +kernel
theorem own_d5_38 : decode prog_65_method_13_code 38 = .ok (.goto (-28), 3) := by decide +kernel
theorem own_d5_41 : decode prog_65_method_13_code 41 = .ok (.iload_n 1, 1) := by decide +kernel
theorem own_d5_42 : decode prog_65_method_13_code 42 = .ok (.newarray .int, 2) := by decide +kernel
theorem own_d5_44 : decode prog_65_method_13_code 44 = .ok (.astore_n 2, 1) := by decide +kernel
theorem own_d5_45 : decode prog_65_method_13_code 45 = .ok (.iconst 0, 1) := by decide +kernel
theorem own_d5_46 : decode prog_65_method_13_code 46 = .ok (.istore_n 3, 1) := by decide +kernel
theorem own_d5_47 : decode prog_65_method_13_code 47 = .ok (.iconst 1, 1) := by decide +kernel
theorem own_d5_48 : decode prog_65_method_13_code 48 = .ok (.istore 4, 2) := by decide +kernel
theorem own_d5_50 : decode prog_65_method_13_code 50 = .ok (.iload 4, 2) := by decide +kernel
theorem own_d5_52 : decode prog_65_method_13_code 52 = .ok (.aload_n 0, 1) := by decide +kernel
theorem own_d5_53 : decode prog_65_method_13_code 53 = .ok (.arraylength, 1) := by decide +kernel
theorem own_d5_54 : decode prog_65_method_13_code 54 = .ok (.if_icmp .gt 26, 3) := by decide +kernel
theorem own_d5_57 : decode prog_65_method_13_code 57 = .ok (.aload_n 0, 1) := by decide +kernel
theorem own_d5_58 : decode prog_65_method_13_code 58 = .ok (.iload 4, 2) := by decide +kernel
theorem own_d5_60 : decode prog_65_method_13_code 60 = .ok (.iconst 1, 1) := by decide +kernel
theorem own_d5_61 : decode prog_65_method_13_code 61 = .ok (.isub, 1) := by decide +kernel
theorem own_d5_62 : decode prog_65_method_13_code 62 = .ok (.baload, 1) := by decide +kernel
theorem own_d5_63 : decode prog_65_method_13_code 63 = .ok (.ifCond .eq 11, 3) := by decide +kernel
theorem own_d5_66 : decode prog_65_method_13_code 66 = .ok (.aload_n 2, 1) := by decide +kernel
theorem own_d5_67 : decode prog_65_method_13_code 67 = .ok (.iload_n 3, 1) := by decide +kernel
theorem own_d5_68 : decode prog_65_method_13_code 68 = .ok (.iinc 3 1, 3) := by decide +kernel
theorem own_d5_71 : decode prog_65_method_13_code 71 = .ok (.iload 4, 2) := by decide +kernel
theorem own_d5_73 : decode prog_65_method_13_code 73 = .ok (.iastore, 1) := by decide +kernel
theorem own_d5_74 : decode prog_65_method_13_code 74 = .ok (.iinc 4 1, 3) := by decide +kernel
theorem own_d5_77 : decode prog_65_method_13_code 77 = .ok (.goto (-27), 3) := by decide +kernel
theorem own_d5_80 : decode prog_65_method_13_code 80 = .ok (.aload_n 2, 1) := by decide +kernel
theorem own_d5_81 : decode prog_65_method_13_code 81 = .ok (.areturn, 1) := by decide +kernel
theorem own_u {u : Int32} {k : Nat} {P : Prop} (h : (P ∧ u = 0 ∧ k = 0) ∨ (¬ P ∧ u = 1 ∧ k = 1)) : u.toInt = (k : Int) ∧ k ≤ 1 := by
  rcases h with ⟨-, h1, h2⟩ | ⟨-, h1, h2⟩ <;> rw [h1, h2] <;> decide
theorem own_addN (x y : Int32) (a b : Nat) (h1 : x.toInt = (a : Int)) (h2 : y.toInt = (b : Int)) (hb : a + b < 1000) : (x + y).toInt = ((a + b : Nat) : Int) := by
  have c := c_iadd x y
  have r := rng32 (x + y)
  omega
theorem own_pn1 : plainName "com/example/kingsround/kingsround/engine/Deliveries" = true := by first | (simp [plainName, overriddenIn]; done) | decide +kernel
theorem own_efkp (m : MethodId) (a : Nat) : entryFrame m #[(.ref a)] 6 = mkF m 0 #[rv a, .unset, .unset, .unset, .unset, .unset] [] := by first | (simp [entryFrame, mkF, argsToLocals, Value.category]; done) | rfl
set_option maxRecDepth 65536 in
set_option maxHeartbeats 40000000 in
theorem own_rmkp (l : Launch) (Z : State) (a0 : Array Value) (hw : ∀ d ∈ tables_1, d.before a0 Z = true) (a : Nat) (kk : Nat → Int32) (h0 : Heap) (n0 : Nat) (Z0 : n0 ≤ h0.size) (A : own_AI Z h0 a .boolean 3 kk) :
    own_Ct l Z (⟨"com/example/kingsround/kingsround/engine/Deliveries", "keptParties", "([Z)[I"⟩ : MethodName) prog_65_method_13_code 6 (some (.array .int)) ({ frames := 0, cells := 1, slots := 3, locals := 0 } : Room) #[(.ref a)] h0 (fun v h L => (∃ b : Nat, v = some (.ref b)) ∧ Fr n0 L ∧ Keep h0 h []) := by
  refine own_body (y := (⟨"com/example/kingsround/kingsround/engine/Deliveries", "keptParties", "([Z)[I"⟩ : MethodName)) (Q := fun v h L => (∃ b : Nat, v = some (.ref b)) ∧ Fr n0 L ∧ Keep h0 h []) (plainFor_of_name own_pn1) ?_
  intro p e s m below meth c s₁ Bd hml0 hZ e0
  have hx := Bd.exec
  have hby := Bd.bytes
  have hml : c.maxLocals = 6 := hml0
  have hown : s.vm.findClass "com/example/kingsround/kingsround/engine/Deliveries" = some m.cls := findClass_of_methodNamed Bd.named
  have hnm := (name_of_methodNamed Bd.named Bd.method).1
  have X0 : Stand p l e ({ frames := 0, cells := 1, slots := 3, locals := 0 } : Room) s m #[(.ref a)] below meth c s₁ [] 0 0 := Stand.of_body Bd
  have N0 := Fr.nil n0
  rw [own_efkp]
  have sg1 : own_V p e below s₁ (mkF m 10 #[rv a, iv (0 : Int32), rv a, iv (3 : Int32), iv (0 : Int32), .unset] []) (mkF m 0 #[rv a, .unset, .unset, .unset, .unset, .unset] []) := by
    intro t kt
    refine XS.iconst X0.here hx rfl (hb hby own_d5_0) ?_
    show own_S p e below s₁ m 1 #[rv a, .unset, .unset, .unset, .unset, .unset] [(.int (0 : Int32))] _
    refine XS.istoreN X0.here hx rfl (hb hby own_d5_1) rfl (l' := #[rv a, iv (0 : Int32), .unset, .unset, .unset, .unset]) rfl ?_
    show own_S p e below s₁ m 2 #[rv a, iv (0 : Int32), .unset, .unset, .unset, .unset] [] _
    refine XS.aloadN X0.here hx rfl (hb hby own_d5_2) rfl rfl ?_
    show own_S p e below s₁ m 3 #[rv a, iv (0 : Int32), .unset, .unset, .unset, .unset] [(.ref a)] _
    refine XS.astoreN X0.here hx rfl (hb hby own_d5_3) rfl rfl (l' := #[rv a, iv (0 : Int32), rv a, .unset, .unset, .unset]) rfl ?_
    show own_S p e below s₁ m 4 #[rv a, iv (0 : Int32), rv a, .unset, .unset, .unset] [] _
    refine XS.aloadN X0.here hx rfl (hb hby own_d5_4) rfl rfl ?_
    show own_S p e below s₁ m 5 #[rv a, iv (0 : Int32), rv a, .unset, .unset, .unset] [(.ref a)] _
    refine own_len (z := (3 : Int32)) X0 hx hZ e0 A (by decide) (g := (mkF m 5 #[rv a, iv (0 : Int32), rv a, .unset, .unset, .unset] [(.ref a)])) rfl rfl (hb hby own_d5_5) _ ?_
    show own_S p e below s₁ m 6 #[rv a, iv (0 : Int32), rv a, .unset, .unset, .unset] [(.int (3 : Int32))] _
    refine XS.istoreN X0.here hx rfl (hb hby own_d5_6) rfl (l' := #[rv a, iv (0 : Int32), rv a, iv (3 : Int32), .unset, .unset]) rfl ?_
    show own_S p e below s₁ m 7 #[rv a, iv (0 : Int32), rv a, iv (3 : Int32), .unset, .unset] [] _
    refine XS.iconst X0.here hx rfl (hb hby own_d5_7) ?_
    show own_S p e below s₁ m 8 #[rv a, iv (0 : Int32), rv a, iv (3 : Int32), .unset, .unset] [(.int (0 : Int32))] _
    refine XS.istore X0.here hx rfl (hb hby own_d5_8) rfl (l' := #[rv a, iv (0 : Int32), rv a, iv (3 : Int32), iv (0 : Int32), .unset]) rfl ?_
    show own_S p e below s₁ m 10 #[rv a, iv (0 : Int32), rv a, iv (3 : Int32), iv (0 : Int32), .unset] [] _
    exact kt
  refine own_st sg1 ?_
  have sg2 : own_V p e below s₁ (mkF m 13 #[rv a, iv (0 : Int32), rv a, iv (3 : Int32), iv (0 : Int32), .unset] [(.int (3 : Int32)), (.int (0 : Int32))]) (mkF m 10 #[rv a, iv (0 : Int32), rv a, iv (3 : Int32), iv (0 : Int32), .unset] []) := by
    intro t kt
    refine XS.iload X0.here hx rfl (hb hby own_d5_10) rfl ?_
    show own_S p e below s₁ m 12 #[rv a, iv (0 : Int32), rv a, iv (3 : Int32), iv (0 : Int32), .unset] [(.int (0 : Int32))] _
    refine XS.iloadN X0.here hx rfl (hb hby own_d5_12) rfl ?_
    show own_S p e below s₁ m 13 #[rv a, iv (0 : Int32), rv a, iv (3 : Int32), iv (0 : Int32), .unset] [(.int (3 : Int32)), (.int (0 : Int32))] _
    exact kt
  refine own_st sg2 ?_
  have sg4 : own_V p e below s₁ (mkF m 16 #[rv a, iv (0 : Int32), rv a, iv (3 : Int32), iv (0 : Int32), .unset] []) (mkF m 13 #[rv a, iv (0 : Int32), rv a, iv (3 : Int32), iv (0 : Int32), .unset] [(.int (3 : Int32)), (.int (0 : Int32))]) := by
    intro t kt
    refine XS.icmpNo X0.here hx rfl (hb hby own_d5_13) rfl (tlt (by decide : (0 : Int32) < (3 : Int32))).2.1 ?_
    exact kt
  refine own_st sg4 ?_
  obtain ⟨u0, hu0⟩ : ∃ z : Int32, z = (if (kk 0) = (0 : Int32) then (0 : Int32) else (1 : Int32)) := ⟨_, rfl⟩
  have sg6 : own_V p e below s₁ (mkF m 33 #[rv a, iv (0 : Int32), rv a, iv (3 : Int32), iv (0 : Int32), iv (kk 0)] [(.int u0), (.int (0 : Int32))]) (mkF m 16 #[rv a, iv (0 : Int32), rv a, iv (3 : Int32), iv (0 : Int32), .unset] []) := by
    intro t kt
    refine XS.aloadN X0.here hx rfl (hb hby own_d5_16) rfl rfl ?_
    show own_S p e below s₁ m 17 #[rv a, iv (0 : Int32), rv a, iv (3 : Int32), iv (0 : Int32), .unset] [(.ref a)] _
    refine XS.iload X0.here hx rfl (hb hby own_d5_17) rfl ?_
    show own_S p e below s₁ m 19 #[rv a, iv (0 : Int32), rv a, iv (3 : Int32), iv (0 : Int32), .unset] [(.int (0 : Int32)), (.ref a)] _
    refine own_rdZ X0 hx hZ e0 A (k := 0) (by decide) (by decide) (g := (mkF m 19 #[rv a, iv (0 : Int32), rv a, iv (3 : Int32), iv (0 : Int32), .unset] [(.int (0 : Int32)), (.ref a)])) rfl rfl (hb hby own_d5_19) _ ?_
    show own_S p e below s₁ m 20 #[rv a, iv (0 : Int32), rv a, iv (3 : Int32), iv (0 : Int32), .unset] [(.int (kk 0))] _
    refine XS.istore X0.here hx rfl (hb hby own_d5_20) rfl (l' := #[rv a, iv (0 : Int32), rv a, iv (3 : Int32), iv (0 : Int32), iv (kk 0)]) rfl ?_
    show own_S p e below s₁ m 22 #[rv a, iv (0 : Int32), rv a, iv (3 : Int32), iv (0 : Int32), iv (kk 0)] [] _
    refine XS.iloadN X0.here hx rfl (hb hby own_d5_22) rfl ?_
    show own_S p e below s₁ m 23 #[rv a, iv (0 : Int32), rv a, iv (3 : Int32), iv (0 : Int32), iv (kk 0)] [(.int (0 : Int32))] _
    refine XS.iload X0.here hx rfl (hb hby own_d5_23) rfl ?_
    show own_S p e below s₁ m 25 #[rv a, iv (0 : Int32), rv a, iv (3 : Int32), iv (0 : Int32), iv (kk 0)] [(.int (kk 0)), (.int (0 : Int32))] _
    by_cases hc5 : (kk 0) = (0 : Int32)
    · refine XS.ifYes X0.here hx rfl (pc0 := 25) (pc' := 32) rfl (hb hby own_d5_25) rfl ((if0 _ _).trans (teq hc5).1) (by decide) (by decide) ?_
      show own_S p e below s₁ m 32 #[rv a, iv (0 : Int32), rv a, iv (3 : Int32), iv (0 : Int32), iv (kk 0)] [(.int (0 : Int32))] _
      refine XS.iconst X0.here hx rfl (hb hby own_d5_32) ?_
      show own_S p e below s₁ m 33 #[rv a, iv (0 : Int32), rv a, iv (3 : Int32), iv (0 : Int32), iv (kk 0)] [(.int (0 : Int32)), (.int (0 : Int32))] _
      rw [show u0 = (0 : Int32) from by rw [hu0, if_pos hc5]] at kt
      exact kt
    · refine XS.ifNo X0.here hx rfl (hb hby own_d5_25) rfl ((if0 _ _).trans (feq hc5).1) ?_
      show own_S p e below s₁ m 28 #[rv a, iv (0 : Int32), rv a, iv (3 : Int32), iv (0 : Int32), iv (kk 0)] [(.int (0 : Int32))] _
      refine XS.iconst X0.here hx rfl (hb hby own_d5_28) ?_
      show own_S p e below s₁ m 29 #[rv a, iv (0 : Int32), rv a, iv (3 : Int32), iv (0 : Int32), iv (kk 0)] [(.int (1 : Int32)), (.int (0 : Int32))] _
      refine XS.goto X0.here hx rfl (pc0 := 29) (pc' := 33) rfl (hb hby own_d5_29) (by decide) (by decide) ?_
      show own_S p e below s₁ m 33 #[rv a, iv (0 : Int32), rv a, iv (3 : Int32), iv (0 : Int32), iv (kk 0)] [(.int (1 : Int32)), (.int (0 : Int32))] _
      rw [show u0 = (1 : Int32) from by rw [hu0, if_neg hc5]] at kt
      exact kt
  refine own_st sg6 ?_
  have sg7 : own_V p e below s₁ (mkF m 10 #[rv a, iv ((0 : Int32) + u0), rv a, iv (3 : Int32), iv ((0 : Int32) + (1 : Int32)), iv (kk 0)] []) (mkF m 33 #[rv a, iv (0 : Int32), rv a, iv (3 : Int32), iv (0 : Int32), iv (kk 0)] [(.int u0), (.int (0 : Int32))]) := by
    intro t kt
    refine XS.iadd X0.here hx rfl (hb hby own_d5_33) rfl ?_
    show own_S p e below s₁ m 34 #[rv a, iv (0 : Int32), rv a, iv (3 : Int32), iv (0 : Int32), iv (kk 0)] [(.int ((0 : Int32) + u0))] _
    refine XS.istoreN X0.here hx rfl (hb hby own_d5_34) rfl (l' := #[rv a, iv ((0 : Int32) + u0), rv a, iv (3 : Int32), iv (0 : Int32), iv (kk 0)]) rfl ?_
    show own_S p e below s₁ m 35 #[rv a, iv ((0 : Int32) + u0), rv a, iv (3 : Int32), iv (0 : Int32), iv (kk 0)] [] _
    refine XS.iinc X0.here hx rfl (hb hby own_d5_35) rfl (l' := #[rv a, iv ((0 : Int32) + u0), rv a, iv (3 : Int32), iv ((0 : Int32) + (1 : Int32)), iv (kk 0)]) rfl ?_
    show own_S p e below s₁ m 38 #[rv a, iv ((0 : Int32) + u0), rv a, iv (3 : Int32), iv ((0 : Int32) + (1 : Int32)), iv (kk 0)] [] _
    refine XS.goto X0.here hx rfl (pc0 := 38) (pc' := 10) rfl (hb hby own_d5_38) (by decide) (by decide) ?_
    show own_S p e below s₁ m 10 #[rv a, iv ((0 : Int32) + u0), rv a, iv (3 : Int32), iv ((0 : Int32) + (1 : Int32)), iv (kk 0)] [] _
    exact kt
  refine own_st sg7 ?_
  have sg8 : own_V p e below s₁ (mkF m 13 #[rv a, iv ((0 : Int32) + u0), rv a, iv (3 : Int32), iv ((0 : Int32) + (1 : Int32)), iv (kk 0)] [(.int (3 : Int32)), (.int ((0 : Int32) + (1 : Int32)))]) (mkF m 10 #[rv a, iv ((0 : Int32) + u0), rv a, iv (3 : Int32), iv ((0 : Int32) + (1 : Int32)), iv (kk 0)] []) := by
    intro t kt
    refine XS.iload X0.here hx rfl (hb hby own_d5_10) rfl ?_
    show own_S p e below s₁ m 12 #[rv a, iv ((0 : Int32) + u0), rv a, iv (3 : Int32), iv ((0 : Int32) + (1 : Int32)), iv (kk 0)] [(.int ((0 : Int32) + (1 : Int32)))] _
    refine XS.iloadN X0.here hx rfl (hb hby own_d5_12) rfl ?_
    show own_S p e below s₁ m 13 #[rv a, iv ((0 : Int32) + u0), rv a, iv (3 : Int32), iv ((0 : Int32) + (1 : Int32)), iv (kk 0)] [(.int (3 : Int32)), (.int ((0 : Int32) + (1 : Int32)))] _
    exact kt
  refine own_st sg8 ?_
  have sg10 : own_V p e below s₁ (mkF m 16 #[rv a, iv ((0 : Int32) + u0), rv a, iv (3 : Int32), iv ((0 : Int32) + (1 : Int32)), iv (kk 0)] []) (mkF m 13 #[rv a, iv ((0 : Int32) + u0), rv a, iv (3 : Int32), iv ((0 : Int32) + (1 : Int32)), iv (kk 0)] [(.int (3 : Int32)), (.int ((0 : Int32) + (1 : Int32)))]) := by
    intro t kt
    refine XS.icmpNo X0.here hx rfl (hb hby own_d5_13) rfl (tlt (by decide : ((0 : Int32) + (1 : Int32)) < (3 : Int32))).2.1 ?_
    exact kt
  refine own_st sg10 ?_
  obtain ⟨u1, hu1⟩ : ∃ z : Int32, z = (if (kk 1) = (0 : Int32) then (0 : Int32) else (1 : Int32)) := ⟨_, rfl⟩
  have sg12 : own_V p e below s₁ (mkF m 33 #[rv a, iv ((0 : Int32) + u0), rv a, iv (3 : Int32), iv ((0 : Int32) + (1 : Int32)), iv (kk 1)] [(.int u1), (.int ((0 : Int32) + u0))]) (mkF m 16 #[rv a, iv ((0 : Int32) + u0), rv a, iv (3 : Int32), iv ((0 : Int32) + (1 : Int32)), iv (kk 0)] []) := by
    intro t kt
    refine XS.aloadN X0.here hx rfl (hb hby own_d5_16) rfl rfl ?_
    show own_S p e below s₁ m 17 #[rv a, iv ((0 : Int32) + u0), rv a, iv (3 : Int32), iv ((0 : Int32) + (1 : Int32)), iv (kk 0)] [(.ref a)] _
    refine XS.iload X0.here hx rfl (hb hby own_d5_17) rfl ?_
    show own_S p e below s₁ m 19 #[rv a, iv ((0 : Int32) + u0), rv a, iv (3 : Int32), iv ((0 : Int32) + (1 : Int32)), iv (kk 0)] [(.int ((0 : Int32) + (1 : Int32))), (.ref a)] _
    refine own_rdZ X0 hx hZ e0 A (k := 1) (by decide) (by decide) (g := (mkF m 19 #[rv a, iv ((0 : Int32) + u0), rv a, iv (3 : Int32), iv ((0 : Int32) + (1 : Int32)), iv (kk 0)] [(.int ((0 : Int32) + (1 : Int32))), (.ref a)])) rfl rfl (hb hby own_d5_19) _ ?_
    show own_S p e below s₁ m 20 #[rv a, iv ((0 : Int32) + u0), rv a, iv (3 : Int32), iv ((0 : Int32) + (1 : Int32)), iv (kk 0)] [(.int (kk 1))] _
    refine XS.istore X0.here hx rfl (hb hby own_d5_20) rfl (l' := #[rv a, iv ((0 : Int32) + u0), rv a, iv (3 : Int32), iv ((0 : Int32) + (1 : Int32)), iv (kk 1)]) rfl ?_
    show own_S p e below s₁ m 22 #[rv a, iv ((0 : Int32) + u0), rv a, iv (3 : Int32), iv ((0 : Int32) + (1 : Int32)), iv (kk 1)] [] _
    refine XS.iloadN X0.here hx rfl (hb hby own_d5_22) rfl ?_
    show own_S p e below s₁ m 23 #[rv a, iv ((0 : Int32) + u0), rv a, iv (3 : Int32), iv ((0 : Int32) + (1 : Int32)), iv (kk 1)] [(.int ((0 : Int32) + u0))] _
    refine XS.iload X0.here hx rfl (hb hby own_d5_23) rfl ?_
    show own_S p e below s₁ m 25 #[rv a, iv ((0 : Int32) + u0), rv a, iv (3 : Int32), iv ((0 : Int32) + (1 : Int32)), iv (kk 1)] [(.int (kk 1)), (.int ((0 : Int32) + u0))] _
    by_cases hc11 : (kk 1) = (0 : Int32)
    · refine XS.ifYes X0.here hx rfl (pc0 := 25) (pc' := 32) rfl (hb hby own_d5_25) rfl ((if0 _ _).trans (teq hc11).1) (by decide) (by decide) ?_
      show own_S p e below s₁ m 32 #[rv a, iv ((0 : Int32) + u0), rv a, iv (3 : Int32), iv ((0 : Int32) + (1 : Int32)), iv (kk 1)] [(.int ((0 : Int32) + u0))] _
      refine XS.iconst X0.here hx rfl (hb hby own_d5_32) ?_
      show own_S p e below s₁ m 33 #[rv a, iv ((0 : Int32) + u0), rv a, iv (3 : Int32), iv ((0 : Int32) + (1 : Int32)), iv (kk 1)] [(.int (0 : Int32)), (.int ((0 : Int32) + u0))] _
      rw [show u1 = (0 : Int32) from by rw [hu1, if_pos hc11]] at kt
      exact kt
    · refine XS.ifNo X0.here hx rfl (hb hby own_d5_25) rfl ((if0 _ _).trans (feq hc11).1) ?_
      show own_S p e below s₁ m 28 #[rv a, iv ((0 : Int32) + u0), rv a, iv (3 : Int32), iv ((0 : Int32) + (1 : Int32)), iv (kk 1)] [(.int ((0 : Int32) + u0))] _
      refine XS.iconst X0.here hx rfl (hb hby own_d5_28) ?_
      show own_S p e below s₁ m 29 #[rv a, iv ((0 : Int32) + u0), rv a, iv (3 : Int32), iv ((0 : Int32) + (1 : Int32)), iv (kk 1)] [(.int (1 : Int32)), (.int ((0 : Int32) + u0))] _
      refine XS.goto X0.here hx rfl (pc0 := 29) (pc' := 33) rfl (hb hby own_d5_29) (by decide) (by decide) ?_
      show own_S p e below s₁ m 33 #[rv a, iv ((0 : Int32) + u0), rv a, iv (3 : Int32), iv ((0 : Int32) + (1 : Int32)), iv (kk 1)] [(.int (1 : Int32)), (.int ((0 : Int32) + u0))] _
      rw [show u1 = (1 : Int32) from by rw [hu1, if_neg hc11]] at kt
      exact kt
  refine own_st sg12 ?_
  have sg13 : own_V p e below s₁ (mkF m 10 #[rv a, iv (((0 : Int32) + u0) + u1), rv a, iv (3 : Int32), iv (((0 : Int32) + (1 : Int32)) + (1 : Int32)), iv (kk 1)] []) (mkF m 33 #[rv a, iv ((0 : Int32) + u0), rv a, iv (3 : Int32), iv ((0 : Int32) + (1 : Int32)), iv (kk 1)] [(.int u1), (.int ((0 : Int32) + u0))]) := by
    intro t kt
    refine XS.iadd X0.here hx rfl (hb hby own_d5_33) rfl ?_
    show own_S p e below s₁ m 34 #[rv a, iv ((0 : Int32) + u0), rv a, iv (3 : Int32), iv ((0 : Int32) + (1 : Int32)), iv (kk 1)] [(.int (((0 : Int32) + u0) + u1))] _
    refine XS.istoreN X0.here hx rfl (hb hby own_d5_34) rfl (l' := #[rv a, iv (((0 : Int32) + u0) + u1), rv a, iv (3 : Int32), iv ((0 : Int32) + (1 : Int32)), iv (kk 1)]) rfl ?_
    show own_S p e below s₁ m 35 #[rv a, iv (((0 : Int32) + u0) + u1), rv a, iv (3 : Int32), iv ((0 : Int32) + (1 : Int32)), iv (kk 1)] [] _
    refine XS.iinc X0.here hx rfl (hb hby own_d5_35) rfl (l' := #[rv a, iv (((0 : Int32) + u0) + u1), rv a, iv (3 : Int32), iv (((0 : Int32) + (1 : Int32)) + (1 : Int32)), iv (kk 1)]) rfl ?_
    show own_S p e below s₁ m 38 #[rv a, iv (((0 : Int32) + u0) + u1), rv a, iv (3 : Int32), iv (((0 : Int32) + (1 : Int32)) + (1 : Int32)), iv (kk 1)] [] _
    refine XS.goto X0.here hx rfl (pc0 := 38) (pc' := 10) rfl (hb hby own_d5_38) (by decide) (by decide) ?_
    show own_S p e below s₁ m 10 #[rv a, iv (((0 : Int32) + u0) + u1), rv a, iv (3 : Int32), iv (((0 : Int32) + (1 : Int32)) + (1 : Int32)), iv (kk 1)] [] _
    exact kt
  refine own_st sg13 ?_
  have sg14 : own_V p e below s₁ (mkF m 13 #[rv a, iv (((0 : Int32) + u0) + u1), rv a, iv (3 : Int32), iv (((0 : Int32) + (1 : Int32)) + (1 : Int32)), iv (kk 1)] [(.int (3 : Int32)), (.int (((0 : Int32) + (1 : Int32)) + (1 : Int32)))]) (mkF m 10 #[rv a, iv (((0 : Int32) + u0) + u1), rv a, iv (3 : Int32), iv (((0 : Int32) + (1 : Int32)) + (1 : Int32)), iv (kk 1)] []) := by
    intro t kt
    refine XS.iload X0.here hx rfl (hb hby own_d5_10) rfl ?_
    show own_S p e below s₁ m 12 #[rv a, iv (((0 : Int32) + u0) + u1), rv a, iv (3 : Int32), iv (((0 : Int32) + (1 : Int32)) + (1 : Int32)), iv (kk 1)] [(.int (((0 : Int32) + (1 : Int32)) + (1 : Int32)))] _
    refine XS.iloadN X0.here hx rfl (hb hby own_d5_12) rfl ?_
    show own_S p e below s₁ m 13 #[rv a, iv (((0 : Int32) + u0) + u1), rv a, iv (3 : Int32), iv (((0 : Int32) + (1 : Int32)) + (1 : Int32)), iv (kk 1)] [(.int (3 : Int32)), (.int (((0 : Int32) + (1 : Int32)) + (1 : Int32)))] _
    exact kt
  refine own_st sg14 ?_
  have sg16 : own_V p e below s₁ (mkF m 16 #[rv a, iv (((0 : Int32) + u0) + u1), rv a, iv (3 : Int32), iv (((0 : Int32) + (1 : Int32)) + (1 : Int32)), iv (kk 1)] []) (mkF m 13 #[rv a, iv (((0 : Int32) + u0) + u1), rv a, iv (3 : Int32), iv (((0 : Int32) + (1 : Int32)) + (1 : Int32)), iv (kk 1)] [(.int (3 : Int32)), (.int (((0 : Int32) + (1 : Int32)) + (1 : Int32)))]) := by
    intro t kt
    refine XS.icmpNo X0.here hx rfl (hb hby own_d5_13) rfl (tlt (by decide : (((0 : Int32) + (1 : Int32)) + (1 : Int32)) < (3 : Int32))).2.1 ?_
    exact kt
  refine own_st sg16 ?_
  obtain ⟨u2, hu2⟩ : ∃ z : Int32, z = (if (kk 2) = (0 : Int32) then (0 : Int32) else (1 : Int32)) := ⟨_, rfl⟩
  have sg18 : own_V p e below s₁ (mkF m 33 #[rv a, iv (((0 : Int32) + u0) + u1), rv a, iv (3 : Int32), iv (((0 : Int32) + (1 : Int32)) + (1 : Int32)), iv (kk 2)] [(.int u2), (.int (((0 : Int32) + u0) + u1))]) (mkF m 16 #[rv a, iv (((0 : Int32) + u0) + u1), rv a, iv (3 : Int32), iv (((0 : Int32) + (1 : Int32)) + (1 : Int32)), iv (kk 1)] []) := by
    intro t kt
    refine XS.aloadN X0.here hx rfl (hb hby own_d5_16) rfl rfl ?_
    show own_S p e below s₁ m 17 #[rv a, iv (((0 : Int32) + u0) + u1), rv a, iv (3 : Int32), iv (((0 : Int32) + (1 : Int32)) + (1 : Int32)), iv (kk 1)] [(.ref a)] _
    refine XS.iload X0.here hx rfl (hb hby own_d5_17) rfl ?_
    show own_S p e below s₁ m 19 #[rv a, iv (((0 : Int32) + u0) + u1), rv a, iv (3 : Int32), iv (((0 : Int32) + (1 : Int32)) + (1 : Int32)), iv (kk 1)] [(.int (((0 : Int32) + (1 : Int32)) + (1 : Int32))), (.ref a)] _
    refine own_rdZ X0 hx hZ e0 A (k := 2) (by decide) (by decide) (g := (mkF m 19 #[rv a, iv (((0 : Int32) + u0) + u1), rv a, iv (3 : Int32), iv (((0 : Int32) + (1 : Int32)) + (1 : Int32)), iv (kk 1)] [(.int (((0 : Int32) + (1 : Int32)) + (1 : Int32))), (.ref a)])) rfl rfl (hb hby own_d5_19) _ ?_
    show own_S p e below s₁ m 20 #[rv a, iv (((0 : Int32) + u0) + u1), rv a, iv (3 : Int32), iv (((0 : Int32) + (1 : Int32)) + (1 : Int32)), iv (kk 1)] [(.int (kk 2))] _
    refine XS.istore X0.here hx rfl (hb hby own_d5_20) rfl (l' := #[rv a, iv (((0 : Int32) + u0) + u1), rv a, iv (3 : Int32), iv (((0 : Int32) + (1 : Int32)) + (1 : Int32)), iv (kk 2)]) rfl ?_
    show own_S p e below s₁ m 22 #[rv a, iv (((0 : Int32) + u0) + u1), rv a, iv (3 : Int32), iv (((0 : Int32) + (1 : Int32)) + (1 : Int32)), iv (kk 2)] [] _
    refine XS.iloadN X0.here hx rfl (hb hby own_d5_22) rfl ?_
    show own_S p e below s₁ m 23 #[rv a, iv (((0 : Int32) + u0) + u1), rv a, iv (3 : Int32), iv (((0 : Int32) + (1 : Int32)) + (1 : Int32)), iv (kk 2)] [(.int (((0 : Int32) + u0) + u1))] _
    refine XS.iload X0.here hx rfl (hb hby own_d5_23) rfl ?_
    show own_S p e below s₁ m 25 #[rv a, iv (((0 : Int32) + u0) + u1), rv a, iv (3 : Int32), iv (((0 : Int32) + (1 : Int32)) + (1 : Int32)), iv (kk 2)] [(.int (kk 2)), (.int (((0 : Int32) + u0) + u1))] _
    by_cases hc17 : (kk 2) = (0 : Int32)
    · refine XS.ifYes X0.here hx rfl (pc0 := 25) (pc' := 32) rfl (hb hby own_d5_25) rfl ((if0 _ _).trans (teq hc17).1) (by decide) (by decide) ?_
      show own_S p e below s₁ m 32 #[rv a, iv (((0 : Int32) + u0) + u1), rv a, iv (3 : Int32), iv (((0 : Int32) + (1 : Int32)) + (1 : Int32)), iv (kk 2)] [(.int (((0 : Int32) + u0) + u1))] _
      refine XS.iconst X0.here hx rfl (hb hby own_d5_32) ?_
      show own_S p e below s₁ m 33 #[rv a, iv (((0 : Int32) + u0) + u1), rv a, iv (3 : Int32), iv (((0 : Int32) + (1 : Int32)) + (1 : Int32)), iv (kk 2)] [(.int (0 : Int32)), (.int (((0 : Int32) + u0) + u1))] _
      rw [show u2 = (0 : Int32) from by rw [hu2, if_pos hc17]] at kt
      exact kt
    · refine XS.ifNo X0.here hx rfl (hb hby own_d5_25) rfl ((if0 _ _).trans (feq hc17).1) ?_
      show own_S p e below s₁ m 28 #[rv a, iv (((0 : Int32) + u0) + u1), rv a, iv (3 : Int32), iv (((0 : Int32) + (1 : Int32)) + (1 : Int32)), iv (kk 2)] [(.int (((0 : Int32) + u0) + u1))] _
      refine XS.iconst X0.here hx rfl (hb hby own_d5_28) ?_
      show own_S p e below s₁ m 29 #[rv a, iv (((0 : Int32) + u0) + u1), rv a, iv (3 : Int32), iv (((0 : Int32) + (1 : Int32)) + (1 : Int32)), iv (kk 2)] [(.int (1 : Int32)), (.int (((0 : Int32) + u0) + u1))] _
      refine XS.goto X0.here hx rfl (pc0 := 29) (pc' := 33) rfl (hb hby own_d5_29) (by decide) (by decide) ?_
      show own_S p e below s₁ m 33 #[rv a, iv (((0 : Int32) + u0) + u1), rv a, iv (3 : Int32), iv (((0 : Int32) + (1 : Int32)) + (1 : Int32)), iv (kk 2)] [(.int (1 : Int32)), (.int (((0 : Int32) + u0) + u1))] _
      rw [show u2 = (1 : Int32) from by rw [hu2, if_neg hc17]] at kt
      exact kt
  refine own_st sg18 ?_
  have sg19 : own_V p e below s₁ (mkF m 10 #[rv a, iv ((((0 : Int32) + u0) + u1) + u2), rv a, iv (3 : Int32), iv ((((0 : Int32) + (1 : Int32)) + (1 : Int32)) + (1 : Int32)), iv (kk 2)] []) (mkF m 33 #[rv a, iv (((0 : Int32) + u0) + u1), rv a, iv (3 : Int32), iv (((0 : Int32) + (1 : Int32)) + (1 : Int32)), iv (kk 2)] [(.int u2), (.int (((0 : Int32) + u0) + u1))]) := by
    intro t kt
    refine XS.iadd X0.here hx rfl (hb hby own_d5_33) rfl ?_
    show own_S p e below s₁ m 34 #[rv a, iv (((0 : Int32) + u0) + u1), rv a, iv (3 : Int32), iv (((0 : Int32) + (1 : Int32)) + (1 : Int32)), iv (kk 2)] [(.int ((((0 : Int32) + u0) + u1) + u2))] _
    refine XS.istoreN X0.here hx rfl (hb hby own_d5_34) rfl (l' := #[rv a, iv ((((0 : Int32) + u0) + u1) + u2), rv a, iv (3 : Int32), iv (((0 : Int32) + (1 : Int32)) + (1 : Int32)), iv (kk 2)]) rfl ?_
    show own_S p e below s₁ m 35 #[rv a, iv ((((0 : Int32) + u0) + u1) + u2), rv a, iv (3 : Int32), iv (((0 : Int32) + (1 : Int32)) + (1 : Int32)), iv (kk 2)] [] _
    refine XS.iinc X0.here hx rfl (hb hby own_d5_35) rfl (l' := #[rv a, iv ((((0 : Int32) + u0) + u1) + u2), rv a, iv (3 : Int32), iv ((((0 : Int32) + (1 : Int32)) + (1 : Int32)) + (1 : Int32)), iv (kk 2)]) rfl ?_
    show own_S p e below s₁ m 38 #[rv a, iv ((((0 : Int32) + u0) + u1) + u2), rv a, iv (3 : Int32), iv ((((0 : Int32) + (1 : Int32)) + (1 : Int32)) + (1 : Int32)), iv (kk 2)] [] _
    refine XS.goto X0.here hx rfl (pc0 := 38) (pc' := 10) rfl (hb hby own_d5_38) (by decide) (by decide) ?_
    show own_S p e below s₁ m 10 #[rv a, iv ((((0 : Int32) + u0) + u1) + u2), rv a, iv (3 : Int32), iv ((((0 : Int32) + (1 : Int32)) + (1 : Int32)) + (1 : Int32)), iv (kk 2)] [] _
    exact kt
  refine own_st sg19 ?_
  have sg20 : own_V p e below s₁ (mkF m 13 #[rv a, iv ((((0 : Int32) + u0) + u1) + u2), rv a, iv (3 : Int32), iv ((((0 : Int32) + (1 : Int32)) + (1 : Int32)) + (1 : Int32)), iv (kk 2)] [(.int (3 : Int32)), (.int ((((0 : Int32) + (1 : Int32)) + (1 : Int32)) + (1 : Int32)))]) (mkF m 10 #[rv a, iv ((((0 : Int32) + u0) + u1) + u2), rv a, iv (3 : Int32), iv ((((0 : Int32) + (1 : Int32)) + (1 : Int32)) + (1 : Int32)), iv (kk 2)] []) := by
    intro t kt
    refine XS.iload X0.here hx rfl (hb hby own_d5_10) rfl ?_
    show own_S p e below s₁ m 12 #[rv a, iv ((((0 : Int32) + u0) + u1) + u2), rv a, iv (3 : Int32), iv ((((0 : Int32) + (1 : Int32)) + (1 : Int32)) + (1 : Int32)), iv (kk 2)] [(.int ((((0 : Int32) + (1 : Int32)) + (1 : Int32)) + (1 : Int32)))] _
    refine XS.iloadN X0.here hx rfl (hb hby own_d5_12) rfl ?_
    show own_S p e below s₁ m 13 #[rv a, iv ((((0 : Int32) + u0) + u1) + u2), rv a, iv (3 : Int32), iv ((((0 : Int32) + (1 : Int32)) + (1 : Int32)) + (1 : Int32)), iv (kk 2)] [(.int (3 : Int32)), (.int ((((0 : Int32) + (1 : Int32)) + (1 : Int32)) + (1 : Int32)))] _
    exact kt
  refine own_st sg20 ?_
  have sg22 : own_V p e below s₁ (mkF m 41 #[rv a, iv ((((0 : Int32) + u0) + u1) + u2), rv a, iv (3 : Int32), iv ((((0 : Int32) + (1 : Int32)) + (1 : Int32)) + (1 : Int32)), iv (kk 2)] []) (mkF m 13 #[rv a, iv ((((0 : Int32) + u0) + u1) + u2), rv a, iv (3 : Int32), iv ((((0 : Int32) + (1 : Int32)) + (1 : Int32)) + (1 : Int32)), iv (kk 2)] [(.int (3 : Int32)), (.int ((((0 : Int32) + (1 : Int32)) + (1 : Int32)) + (1 : Int32)))]) := by
    intro t kt
    refine XS.icmpYes X0.here hx rfl (pc0 := 13) (pc' := 41) rfl (hb hby own_d5_13) rfl (flt (by decide : ¬ ((((0 : Int32) + (1 : Int32)) + (1 : Int32)) + (1 : Int32)) < (3 : Int32))).2.1 (by decide) (by decide) ?_
    exact kt
  refine own_st sg22 ?_
  obtain ⟨k0, hk0⟩ : ∃ k : Nat, (kk 0 = 0 ∧ u0 = 0 ∧ k = 0) ∨ (¬ kk 0 = 0 ∧ u0 = 1 ∧ k = 1) := by
    by_cases z : kk 0 = 0
    · exact ⟨0, Or.inl ⟨z, by rw [hu0, if_pos z], rfl⟩⟩
    · exact ⟨1, Or.inr ⟨z, by rw [hu0, if_neg z], rfl⟩⟩
  obtain ⟨k1, hk1⟩ : ∃ k : Nat, (kk 1 = 0 ∧ u1 = 0 ∧ k = 0) ∨ (¬ kk 1 = 0 ∧ u1 = 1 ∧ k = 1) := by
    by_cases z : kk 1 = 0
    · exact ⟨0, Or.inl ⟨z, by rw [hu1, if_pos z], rfl⟩⟩
    · exact ⟨1, Or.inr ⟨z, by rw [hu1, if_neg z], rfl⟩⟩
  obtain ⟨k2, hk2⟩ : ∃ k : Nat, (kk 2 = 0 ∧ u2 = 0 ∧ k = 0) ∨ (¬ kk 2 = 0 ∧ u2 = 1 ∧ k = 1) := by
    by_cases z : kk 2 = 0
    · exact ⟨0, Or.inl ⟨z, by rw [hu2, if_pos z], rfl⟩⟩
    · exact ⟨1, Or.inr ⟨z, by rw [hu2, if_neg z], rfl⟩⟩
  have hq0 := own_u hk0
  have hq1 := own_u hk1
  have hq2 := own_u hk2
  have hcnt : ((((0 : Int32) + u0) + u1) + u2).toInt = ((0 + k0 + k1 + k2 : Nat) : Int) := own_addN _ u2 _ k2 (own_addN _ u1 _ k1 (own_addN 0 u0 0 k0 (by decide) hq0.1 (by omega)) hq1.1 (by omega)) hq2.1 (by omega)
  have sg23 : own_V p e below s₁ (mkF m 42 #[rv a, iv ((((0 : Int32) + u0) + u1) + u2), rv a, iv (3 : Int32), iv ((((0 : Int32) + (1 : Int32)) + (1 : Int32)) + (1 : Int32)), iv (kk 2)] [(.int ((((0 : Int32) + u0) + u1) + u2))]) (mkF m 41 #[rv a, iv ((((0 : Int32) + u0) + u1) + u2), rv a, iv (3 : Int32), iv ((((0 : Int32) + (1 : Int32)) + (1 : Int32)) + (1 : Int32)), iv (kk 2)] []) := by
    intro t kt
    refine XS.iloadN X0.here hx rfl (hb hby own_d5_41) rfl ?_
    show own_S p e below s₁ m 42 #[rv a, iv ((((0 : Int32) + u0) + u1) + u2), rv a, iv (3 : Int32), iv ((((0 : Int32) + (1 : Int32)) + (1 : Int32)) + (1 : Int32)), iv (kk 2)] [(.int ((((0 : Int32) + u0) + u1) + u2))] _
    exact kt
  refine own_st sg23 ?_
  obtain ⟨T24, h24, a24, g24, X24, e24, E24, A24, st24⟩ := own_newP (n := (0 + k0 + k1 + k2)) X0 hx hZ (hw _ (List.mem_of_getElem? (i := 47) rfl)) e0 hcnt rfl (g := (mkF m 42 #[rv a, iv ((((0 : Int32) + u0) + u1) + u2), rv a, iv (3 : Int32), iv ((((0 : Int32) + (1 : Int32)) + (1 : Int32)) + (1 : Int32)), iv (kk 2)] [(.int ((((0 : Int32) + u0) + u1) + u2))])) rfl rfl (hb hby own_d5_42) (cap := 3) (by omega) (by decide) (by decide) (by decide)
  refine own_st st24 ?_
  have g_a24 : n0 ≤ a24 := by rw [g24]; exact Z0
  have Z24 : n0 ≤ h24.size := Nat.le_trans Z0 E24.1
  have B24 : own_AI Z h24 a24 .int (0 + k0 + k1 + k2) (fun _ => 0) := A24
  show own_Go p e below _ T24 (mkF m 44 #[rv a, iv ((((0 : Int32) + u0) + u1) + u2), rv a, iv (3 : Int32), iv ((((0 : Int32) + (1 : Int32)) + (1 : Int32)) + (1 : Int32)), iv (kk 2)] [(.ref a24)])
  have K24 : Keep h0 h24 [] := (Keep.refl h0 []).ext E24
  have sz : h0.size ≤ a24 := Nat.le_of_eq g24.symm
  obtain ⟨fz, FZ⟩ : ∃ f, own_AI Z h24 a24 .int (0 + k0 + k1 + k2) f := ⟨_, B24⟩
  have AA : own_AI Z h24 a .boolean 3 kk := A.ext E24
  have nea : a ≠ a24 := Nat.ne_of_lt (by rw [g24]; exact A.lt)
  have sg25 : own_V p e below T24 (mkF m 50 #[rv a, iv ((((0 : Int32) + u0) + u1) + u2), rv a24, iv (0 : Int32), iv (1 : Int32), iv (kk 2)] []) (mkF m 44 #[rv a, iv ((((0 : Int32) + u0) + u1) + u2), rv a, iv (3 : Int32), iv ((((0 : Int32) + (1 : Int32)) + (1 : Int32)) + (1 : Int32)), iv (kk 2)] [(.ref a24)]) := by
    intro t kt
    refine XS.astoreN X24.here hx rfl (hb hby own_d5_44) rfl rfl (l' := #[rv a, iv ((((0 : Int32) + u0) + u1) + u2), rv a24, iv (3 : Int32), iv ((((0 : Int32) + (1 : Int32)) + (1 : Int32)) + (1 : Int32)), iv (kk 2)]) rfl ?_
    show own_S p e below T24 m 45 #[rv a, iv ((((0 : Int32) + u0) + u1) + u2), rv a24, iv (3 : Int32), iv ((((0 : Int32) + (1 : Int32)) + (1 : Int32)) + (1 : Int32)), iv (kk 2)] [] _
    refine XS.iconst X24.here hx rfl (hb hby own_d5_45) ?_
    show own_S p e below T24 m 46 #[rv a, iv ((((0 : Int32) + u0) + u1) + u2), rv a24, iv (3 : Int32), iv ((((0 : Int32) + (1 : Int32)) + (1 : Int32)) + (1 : Int32)), iv (kk 2)] [(.int (0 : Int32))] _
    refine XS.istoreN X24.here hx rfl (hb hby own_d5_46) rfl (l' := #[rv a, iv ((((0 : Int32) + u0) + u1) + u2), rv a24, iv (0 : Int32), iv ((((0 : Int32) + (1 : Int32)) + (1 : Int32)) + (1 : Int32)), iv (kk 2)]) rfl ?_
    show own_S p e below T24 m 47 #[rv a, iv ((((0 : Int32) + u0) + u1) + u2), rv a24, iv (0 : Int32), iv ((((0 : Int32) + (1 : Int32)) + (1 : Int32)) + (1 : Int32)), iv (kk 2)] [] _
    refine XS.iconst X24.here hx rfl (hb hby own_d5_47) ?_
    show own_S p e below T24 m 48 #[rv a, iv ((((0 : Int32) + u0) + u1) + u2), rv a24, iv (0 : Int32), iv ((((0 : Int32) + (1 : Int32)) + (1 : Int32)) + (1 : Int32)), iv (kk 2)] [(.int (1 : Int32))] _
    refine XS.istore X24.here hx rfl (hb hby own_d5_48) rfl (l' := #[rv a, iv ((((0 : Int32) + u0) + u1) + u2), rv a24, iv (0 : Int32), iv (1 : Int32), iv (kk 2)]) rfl ?_
    show own_S p e below T24 m 50 #[rv a, iv ((((0 : Int32) + u0) + u1) + u2), rv a24, iv (0 : Int32), iv (1 : Int32), iv (kk 2)] [] _
    exact kt
  refine own_st sg25 ?_
  have J0 : (0 : Int32).toInt = ((0 : Nat) : Int) := by decide
  have sg26 : own_V p e below T24 (mkF m 54 #[rv a, iv ((((0 : Int32) + u0) + u1) + u2), rv a24, iv (0 : Int32), iv (1 : Int32), iv (kk 2)] [(.int (3 : Int32)), (.int (1 : Int32))]) (mkF m 50 #[rv a, iv ((((0 : Int32) + u0) + u1) + u2), rv a24, iv (0 : Int32), iv (1 : Int32), iv (kk 2)] []) := by
    intro t kt
    refine XS.iload X24.here hx rfl (hb hby own_d5_50) rfl ?_
    show own_S p e below T24 m 52 #[rv a, iv ((((0 : Int32) + u0) + u1) + u2), rv a24, iv (0 : Int32), iv (1 : Int32), iv (kk 2)] [(.int (1 : Int32))] _
    refine XS.aloadN X24.here hx rfl (hb hby own_d5_52) rfl rfl ?_
    show own_S p e below T24 m 53 #[rv a, iv ((((0 : Int32) + u0) + u1) + u2), rv a24, iv (0 : Int32), iv (1 : Int32), iv (kk 2)] [(.ref a), (.int (1 : Int32))] _
    refine own_len (z := (3 : Int32)) X24 hx hZ e24 AA (by decide) (g := (mkF m 53 #[rv a, iv ((((0 : Int32) + u0) + u1) + u2), rv a24, iv (0 : Int32), iv (1 : Int32), iv (kk 2)] [(.ref a), (.int (1 : Int32))])) rfl rfl (hb hby own_d5_53) _ ?_
    show own_S p e below T24 m 54 #[rv a, iv ((((0 : Int32) + u0) + u1) + u2), rv a24, iv (0 : Int32), iv (1 : Int32), iv (kk 2)] [(.int (3 : Int32)), (.int (1 : Int32))] _
    exact kt
  refine own_st sg26 ?_
  have sg28 : own_V p e below T24 (mkF m 57 #[rv a, iv ((((0 : Int32) + u0) + u1) + u2), rv a24, iv (0 : Int32), iv (1 : Int32), iv (kk 2)] []) (mkF m 54 #[rv a, iv ((((0 : Int32) + u0) + u1) + u2), rv a24, iv (0 : Int32), iv (1 : Int32), iv (kk 2)] [(.int (3 : Int32)), (.int (1 : Int32))]) := by
    intro t kt
    refine XS.icmpNo X24.here hx rfl (hb hby own_d5_54) rfl (flt (by decide : ¬ (3 : Int32) < (1 : Int32))).2.2.1 ?_
    exact kt
  refine own_st sg28 ?_
  obtain ⟨T29, _, ⟨h29, L29, jx29, fx29, rfl, X29, e29, N29, Z29, F29, K29, AA29, J29⟩, st29⟩ : own_Pk p e below (fun T' f' => ∃ (h' : Heap) (locs' : List Loc) (jx : Int32) (fx : Nat → Int32), f' = (mkF m 74 #[rv a, iv ((((0 : Int32) + u0) + u1) + u2), rv a24, iv jx, iv (1 : Int32), iv (kk 2)] []) ∧ Stand p l e ({ frames := 0, cells := 1, slots := 3, locals := 0 } : Room) s m #[(.ref a)] below meth c T' locs' 1 3 ∧ T'.heap = h' ∧ Fr n0 locs' ∧ n0 ≤ h'.size ∧ (own_AI Z h' a24 .int (0 + k0 + k1 + k2) fx ∧ Keep h0 h' [] ∧ own_AI Z h' a .boolean 3 kk ∧ jx.toInt = ((0 + k0 : Nat) : Int))) T24 (mkF m 57 #[rv a, iv ((((0 : Int32) + u0) + u1) + u2), rv a24, iv (0 : Int32), iv (1 : Int32), iv (kk 2)] []) := by
    have sg30 : own_V p e below T24 (mkF m 63 #[rv a, iv ((((0 : Int32) + u0) + u1) + u2), rv a24, iv (0 : Int32), iv (1 : Int32), iv (kk 2)] [(.int (kk 0))]) (mkF m 57 #[rv a, iv ((((0 : Int32) + u0) + u1) + u2), rv a24, iv (0 : Int32), iv (1 : Int32), iv (kk 2)] []) := by
      intro t kt
      refine XS.aloadN X24.here hx rfl (hb hby own_d5_57) rfl rfl ?_
      show own_S p e below T24 m 58 #[rv a, iv ((((0 : Int32) + u0) + u1) + u2), rv a24, iv (0 : Int32), iv (1 : Int32), iv (kk 2)] [(.ref a)] _
      refine XS.iload X24.here hx rfl (hb hby own_d5_58) rfl ?_
      show own_S p e below T24 m 60 #[rv a, iv ((((0 : Int32) + u0) + u1) + u2), rv a24, iv (0 : Int32), iv (1 : Int32), iv (kk 2)] [(.int (1 : Int32)), (.ref a)] _
      refine XS.iconst X24.here hx rfl (hb hby own_d5_60) ?_
      show own_S p e below T24 m 61 #[rv a, iv ((((0 : Int32) + u0) + u1) + u2), rv a24, iv (0 : Int32), iv (1 : Int32), iv (kk 2)] [(.int (1 : Int32)), (.int (1 : Int32)), (.ref a)] _
      refine XS.isub X24.here hx rfl (hb hby own_d5_61) rfl ?_
      show own_S p e below T24 m 62 #[rv a, iv ((((0 : Int32) + u0) + u1) + u2), rv a24, iv (0 : Int32), iv (1 : Int32), iv (kk 2)] [(.int ((1 : Int32) - (1 : Int32))), (.ref a)] _
      refine own_rdZ X24 hx hZ e24 AA (k := 0) (by decide) (by decide) (g := (mkF m 62 #[rv a, iv ((((0 : Int32) + u0) + u1) + u2), rv a24, iv (0 : Int32), iv (1 : Int32), iv (kk 2)] [(.int ((1 : Int32) - (1 : Int32))), (.ref a)])) rfl rfl (hb hby own_d5_62) _ ?_
      show own_S p e below T24 m 63 #[rv a, iv ((((0 : Int32) + u0) + u1) + u2), rv a24, iv (0 : Int32), iv (1 : Int32), iv (kk 2)] [(.int (kk 0))] _
      exact kt
    refine own_sp sg30 ?_
    by_cases hc31 : (kk 0) = (0 : Int32)
    · skip
      have sg32 : own_V p e below T24 (mkF m 74 #[rv a, iv ((((0 : Int32) + u0) + u1) + u2), rv a24, iv (0 : Int32), iv (1 : Int32), iv (kk 2)] []) (mkF m 63 #[rv a, iv ((((0 : Int32) + u0) + u1) + u2), rv a24, iv (0 : Int32), iv (1 : Int32), iv (kk 2)] [(.int (kk 0))]) := by
        intro t kt
        refine XS.ifYes X24.here hx rfl (pc0 := 63) (pc' := 74) rfl (hb hby own_d5_63) rfl ((if0 _ _).trans (teq hc31).1) (by decide) (by decide) ?_
        exact kt
      refine own_sp sg32 ?_
      have hz : k0 = 0 := hk0.elim (fun z => z.2.2) (fun z => absurd hc31 z.1)
      exact ⟨T24, _, ⟨_, _, _, _, rfl, X24, e24, N0, Z24, ⟨FZ, K24, AA, by rw [hz]; exact J0⟩⟩, fun t k => k⟩
    have sg33 : own_V p e below T24 (mkF m 66 #[rv a, iv ((((0 : Int32) + u0) + u1) + u2), rv a24, iv (0 : Int32), iv (1 : Int32), iv (kk 2)] []) (mkF m 63 #[rv a, iv ((((0 : Int32) + u0) + u1) + u2), rv a24, iv (0 : Int32), iv (1 : Int32), iv (kk 2)] [(.int (kk 0))]) := by
      intro t kt
      refine XS.ifNo X24.here hx rfl (hb hby own_d5_63) rfl ((if0 _ _).trans (feq hc31).1) ?_
      exact kt
    refine own_sp sg33 ?_
    have hz : k0 = 1 := hk0.elim (fun z => absurd z.1 hc31) (fun z => z.2.2)
    have sg34 : own_V p e below T24 (mkF m 73 #[rv a, iv ((((0 : Int32) + u0) + u1) + u2), rv a24, iv ((0 : Int32) + (1 : Int32)), iv (1 : Int32), iv (kk 2)] [(.int (1 : Int32)), (.int (0 : Int32)), (.ref a24)]) (mkF m 66 #[rv a, iv ((((0 : Int32) + u0) + u1) + u2), rv a24, iv (0 : Int32), iv (1 : Int32), iv (kk 2)] []) := by
      intro t kt
      refine XS.aloadN X24.here hx rfl (hb hby own_d5_66) rfl rfl ?_
      show own_S p e below T24 m 67 #[rv a, iv ((((0 : Int32) + u0) + u1) + u2), rv a24, iv (0 : Int32), iv (1 : Int32), iv (kk 2)] [(.ref a24)] _
      refine XS.iloadN X24.here hx rfl (hb hby own_d5_67) rfl ?_
      show own_S p e below T24 m 68 #[rv a, iv ((((0 : Int32) + u0) + u1) + u2), rv a24, iv (0 : Int32), iv (1 : Int32), iv (kk 2)] [(.int (0 : Int32)), (.ref a24)] _
      refine XS.iinc X24.here hx rfl (hb hby own_d5_68) rfl (l' := #[rv a, iv ((((0 : Int32) + u0) + u1) + u2), rv a24, iv ((0 : Int32) + (1 : Int32)), iv (1 : Int32), iv (kk 2)]) rfl ?_
      show own_S p e below T24 m 71 #[rv a, iv ((((0 : Int32) + u0) + u1) + u2), rv a24, iv ((0 : Int32) + (1 : Int32)), iv (1 : Int32), iv (kk 2)] [(.int (0 : Int32)), (.ref a24)] _
      refine XS.iload X24.here hx rfl (hb hby own_d5_71) rfl ?_
      show own_S p e below T24 m 73 #[rv a, iv ((((0 : Int32) + u0) + u1) + u2), rv a24, iv ((0 : Int32) + (1 : Int32)), iv (1 : Int32), iv (kk 2)] [(.int (1 : Int32)), (.int (0 : Int32)), (.ref a24)] _
      exact kt
    refine own_sp sg34 ?_
    obtain ⟨T35, h35, X35, e35, W35, A35, st35⟩ := own_wrI X24 hx hZ e24 FZ (k := (0)) J0 (by omega) (g := (mkF m 73 #[rv a, iv ((((0 : Int32) + u0) + u1) + u2), rv a24, iv ((0 : Int32) + (1 : Int32)), iv (1 : Int32), iv (kk 2)] [(.int (1 : Int32)), (.int (0 : Int32)), (.ref a24)])) rfl rfl (hb hby own_d5_73)
    refine own_sp st35 ?_
    have Z35 : n0 ≤ h35.size := by rw [Wr.size W35]; exact Z24
    have N35 := Fr.snoc X35 N0 g_a24
    show own_Pk p e below _ T35 (mkF m 74 #[rv a, iv ((((0 : Int32) + u0) + u1) + u2), rv a24, iv ((0 : Int32) + (1 : Int32)), iv (1 : Int32), iv (kk 2)] [])
    have hj2 := own_addN (0 : Int32) 1 (0) 1 J0 (by decide) (by omega)
    exact ⟨T35, _, ⟨_, _, _, _, rfl, X35, e35, N35, Z35, ⟨A35, K24.wr W35 (Or.inr sz), AA.other W35 nea, by rw [hz]; exact hj2⟩⟩, fun t k => k⟩
  refine own_st st29 ?_
  show own_Go p e below _ T29 (mkF m 74 #[rv a, iv ((((0 : Int32) + u0) + u1) + u2), rv a24, iv jx29, iv (1 : Int32), iv (kk 2)] [])
  have sg36 : own_V p e below T29 (mkF m 50 #[rv a, iv ((((0 : Int32) + u0) + u1) + u2), rv a24, iv jx29, iv ((1 : Int32) + (1 : Int32)), iv (kk 2)] []) (mkF m 74 #[rv a, iv ((((0 : Int32) + u0) + u1) + u2), rv a24, iv jx29, iv (1 : Int32), iv (kk 2)] []) := by
    intro t kt
    refine XS.iinc X29.here hx rfl (hb hby own_d5_74) rfl (l' := #[rv a, iv ((((0 : Int32) + u0) + u1) + u2), rv a24, iv jx29, iv ((1 : Int32) + (1 : Int32)), iv (kk 2)]) rfl ?_
    show own_S p e below T29 m 77 #[rv a, iv ((((0 : Int32) + u0) + u1) + u2), rv a24, iv jx29, iv ((1 : Int32) + (1 : Int32)), iv (kk 2)] [] _
    refine XS.goto X29.here hx rfl (pc0 := 77) (pc' := 50) rfl (hb hby own_d5_77) (by decide) (by decide) ?_
    show own_S p e below T29 m 50 #[rv a, iv ((((0 : Int32) + u0) + u1) + u2), rv a24, iv jx29, iv ((1 : Int32) + (1 : Int32)), iv (kk 2)] [] _
    exact kt
  refine own_st sg36 ?_
  have sg37 : own_V p e below T29 (mkF m 54 #[rv a, iv ((((0 : Int32) + u0) + u1) + u2), rv a24, iv jx29, iv ((1 : Int32) + (1 : Int32)), iv (kk 2)] [(.int (3 : Int32)), (.int ((1 : Int32) + (1 : Int32)))]) (mkF m 50 #[rv a, iv ((((0 : Int32) + u0) + u1) + u2), rv a24, iv jx29, iv ((1 : Int32) + (1 : Int32)), iv (kk 2)] []) := by
    intro t kt
    refine XS.iload X29.here hx rfl (hb hby own_d5_50) rfl ?_
    show own_S p e below T29 m 52 #[rv a, iv ((((0 : Int32) + u0) + u1) + u2), rv a24, iv jx29, iv ((1 : Int32) + (1 : Int32)), iv (kk 2)] [(.int ((1 : Int32) + (1 : Int32)))] _
    refine XS.aloadN X29.here hx rfl (hb hby own_d5_52) rfl rfl ?_
    show own_S p e below T29 m 53 #[rv a, iv ((((0 : Int32) + u0) + u1) + u2), rv a24, iv jx29, iv ((1 : Int32) + (1 : Int32)), iv (kk 2)] [(.ref a), (.int ((1 : Int32) + (1 : Int32)))] _
    refine own_len (z := (3 : Int32)) X29 hx hZ e29 AA29 (by decide) (g := (mkF m 53 #[rv a, iv ((((0 : Int32) + u0) + u1) + u2), rv a24, iv jx29, iv ((1 : Int32) + (1 : Int32)), iv (kk 2)] [(.ref a), (.int ((1 : Int32) + (1 : Int32)))])) rfl rfl (hb hby own_d5_53) _ ?_
    show own_S p e below T29 m 54 #[rv a, iv ((((0 : Int32) + u0) + u1) + u2), rv a24, iv jx29, iv ((1 : Int32) + (1 : Int32)), iv (kk 2)] [(.int (3 : Int32)), (.int ((1 : Int32) + (1 : Int32)))] _
    exact kt
  refine own_st sg37 ?_
  have sg39 : own_V p e below T29 (mkF m 57 #[rv a, iv ((((0 : Int32) + u0) + u1) + u2), rv a24, iv jx29, iv ((1 : Int32) + (1 : Int32)), iv (kk 2)] []) (mkF m 54 #[rv a, iv ((((0 : Int32) + u0) + u1) + u2), rv a24, iv jx29, iv ((1 : Int32) + (1 : Int32)), iv (kk 2)] [(.int (3 : Int32)), (.int ((1 : Int32) + (1 : Int32)))]) := by
    intro t kt
    refine XS.icmpNo X29.here hx rfl (hb hby own_d5_54) rfl (flt (by decide : ¬ (3 : Int32) < ((1 : Int32) + (1 : Int32)))).2.2.1 ?_
    exact kt
  refine own_st sg39 ?_
  obtain ⟨T40, _, ⟨h40, L40, jx40, fx40, rfl, X40, e40, N40, Z40, F40, K40, AA40, J40⟩, st40⟩ : own_Pk p e below (fun T' f' => ∃ (h' : Heap) (locs' : List Loc) (jx : Int32) (fx : Nat → Int32), f' = (mkF m 74 #[rv a, iv ((((0 : Int32) + u0) + u1) + u2), rv a24, iv jx, iv ((1 : Int32) + (1 : Int32)), iv (kk 2)] []) ∧ Stand p l e ({ frames := 0, cells := 1, slots := 3, locals := 0 } : Room) s m #[(.ref a)] below meth c T' locs' 1 3 ∧ T'.heap = h' ∧ Fr n0 locs' ∧ n0 ≤ h'.size ∧ (own_AI Z h' a24 .int (0 + k0 + k1 + k2) fx ∧ Keep h0 h' [] ∧ own_AI Z h' a .boolean 3 kk ∧ jx.toInt = ((0 + k0 + k1 : Nat) : Int))) T29 (mkF m 57 #[rv a, iv ((((0 : Int32) + u0) + u1) + u2), rv a24, iv jx29, iv ((1 : Int32) + (1 : Int32)), iv (kk 2)] []) := by
    have sg41 : own_V p e below T29 (mkF m 63 #[rv a, iv ((((0 : Int32) + u0) + u1) + u2), rv a24, iv jx29, iv ((1 : Int32) + (1 : Int32)), iv (kk 2)] [(.int (kk 1))]) (mkF m 57 #[rv a, iv ((((0 : Int32) + u0) + u1) + u2), rv a24, iv jx29, iv ((1 : Int32) + (1 : Int32)), iv (kk 2)] []) := by
      intro t kt
      refine XS.aloadN X29.here hx rfl (hb hby own_d5_57) rfl rfl ?_
      show own_S p e below T29 m 58 #[rv a, iv ((((0 : Int32) + u0) + u1) + u2), rv a24, iv jx29, iv ((1 : Int32) + (1 : Int32)), iv (kk 2)] [(.ref a)] _
      refine XS.iload X29.here hx rfl (hb hby own_d5_58) rfl ?_
      show own_S p e below T29 m 60 #[rv a, iv ((((0 : Int32) + u0) + u1) + u2), rv a24, iv jx29, iv ((1 : Int32) + (1 : Int32)), iv (kk 2)] [(.int ((1 : Int32) + (1 : Int32))), (.ref a)] _
      refine XS.iconst X29.here hx rfl (hb hby own_d5_60) ?_
      show own_S p e below T29 m 61 #[rv a, iv ((((0 : Int32) + u0) + u1) + u2), rv a24, iv jx29, iv ((1 : Int32) + (1 : Int32)), iv (kk 2)] [(.int (1 : Int32)), (.int ((1 : Int32) + (1 : Int32))), (.ref a)] _
      refine XS.isub X29.here hx rfl (hb hby own_d5_61) rfl ?_
      show own_S p e below T29 m 62 #[rv a, iv ((((0 : Int32) + u0) + u1) + u2), rv a24, iv jx29, iv ((1 : Int32) + (1 : Int32)), iv (kk 2)] [(.int (((1 : Int32) + (1 : Int32)) - (1 : Int32))), (.ref a)] _
      refine own_rdZ X29 hx hZ e29 AA29 (k := 1) (by decide) (by decide) (g := (mkF m 62 #[rv a, iv ((((0 : Int32) + u0) + u1) + u2), rv a24, iv jx29, iv ((1 : Int32) + (1 : Int32)), iv (kk 2)] [(.int (((1 : Int32) + (1 : Int32)) - (1 : Int32))), (.ref a)])) rfl rfl (hb hby own_d5_62) _ ?_
      show own_S p e below T29 m 63 #[rv a, iv ((((0 : Int32) + u0) + u1) + u2), rv a24, iv jx29, iv ((1 : Int32) + (1 : Int32)), iv (kk 2)] [(.int (kk 1))] _
      exact kt
    refine own_sp sg41 ?_
    by_cases hc42 : (kk 1) = (0 : Int32)
    · skip
      have sg43 : own_V p e below T29 (mkF m 74 #[rv a, iv ((((0 : Int32) + u0) + u1) + u2), rv a24, iv jx29, iv ((1 : Int32) + (1 : Int32)), iv (kk 2)] []) (mkF m 63 #[rv a, iv ((((0 : Int32) + u0) + u1) + u2), rv a24, iv jx29, iv ((1 : Int32) + (1 : Int32)), iv (kk 2)] [(.int (kk 1))]) := by
        intro t kt
        refine XS.ifYes X29.here hx rfl (pc0 := 63) (pc' := 74) rfl (hb hby own_d5_63) rfl ((if0 _ _).trans (teq hc42).1) (by decide) (by decide) ?_
        exact kt
      refine own_sp sg43 ?_
      have hz : k1 = 0 := hk1.elim (fun z => z.2.2) (fun z => absurd hc42 z.1)
      exact ⟨T29, _, ⟨_, _, _, _, rfl, X29, e29, N29, Z29, ⟨F29, K29, AA29, by rw [hz]; exact J29⟩⟩, fun t k => k⟩
    have sg44 : own_V p e below T29 (mkF m 66 #[rv a, iv ((((0 : Int32) + u0) + u1) + u2), rv a24, iv jx29, iv ((1 : Int32) + (1 : Int32)), iv (kk 2)] []) (mkF m 63 #[rv a, iv ((((0 : Int32) + u0) + u1) + u2), rv a24, iv jx29, iv ((1 : Int32) + (1 : Int32)), iv (kk 2)] [(.int (kk 1))]) := by
      intro t kt
      refine XS.ifNo X29.here hx rfl (hb hby own_d5_63) rfl ((if0 _ _).trans (feq hc42).1) ?_
      exact kt
    refine own_sp sg44 ?_
    have hz : k1 = 1 := hk1.elim (fun z => absurd z.1 hc42) (fun z => z.2.2)
    have sg45 : own_V p e below T29 (mkF m 73 #[rv a, iv ((((0 : Int32) + u0) + u1) + u2), rv a24, iv (jx29 + (1 : Int32)), iv ((1 : Int32) + (1 : Int32)), iv (kk 2)] [(.int ((1 : Int32) + (1 : Int32))), (.int jx29), (.ref a24)]) (mkF m 66 #[rv a, iv ((((0 : Int32) + u0) + u1) + u2), rv a24, iv jx29, iv ((1 : Int32) + (1 : Int32)), iv (kk 2)] []) := by
      intro t kt
      refine XS.aloadN X29.here hx rfl (hb hby own_d5_66) rfl rfl ?_
      show own_S p e below T29 m 67 #[rv a, iv ((((0 : Int32) + u0) + u1) + u2), rv a24, iv jx29, iv ((1 : Int32) + (1 : Int32)), iv (kk 2)] [(.ref a24)] _
      refine XS.iloadN X29.here hx rfl (hb hby own_d5_67) rfl ?_
      show own_S p e below T29 m 68 #[rv a, iv ((((0 : Int32) + u0) + u1) + u2), rv a24, iv jx29, iv ((1 : Int32) + (1 : Int32)), iv (kk 2)] [(.int jx29), (.ref a24)] _
      refine XS.iinc X29.here hx rfl (hb hby own_d5_68) rfl (l' := #[rv a, iv ((((0 : Int32) + u0) + u1) + u2), rv a24, iv (jx29 + (1 : Int32)), iv ((1 : Int32) + (1 : Int32)), iv (kk 2)]) rfl ?_
      show own_S p e below T29 m 71 #[rv a, iv ((((0 : Int32) + u0) + u1) + u2), rv a24, iv (jx29 + (1 : Int32)), iv ((1 : Int32) + (1 : Int32)), iv (kk 2)] [(.int jx29), (.ref a24)] _
      refine XS.iload X29.here hx rfl (hb hby own_d5_71) rfl ?_
      show own_S p e below T29 m 73 #[rv a, iv ((((0 : Int32) + u0) + u1) + u2), rv a24, iv (jx29 + (1 : Int32)), iv ((1 : Int32) + (1 : Int32)), iv (kk 2)] [(.int ((1 : Int32) + (1 : Int32))), (.int jx29), (.ref a24)] _
      exact kt
    refine own_sp sg45 ?_
    obtain ⟨T46, h46, X46, e46, W46, A46, st46⟩ := own_wrI X29 hx hZ e29 F29 (k := (0 + k0)) J29 (by omega) (g := (mkF m 73 #[rv a, iv ((((0 : Int32) + u0) + u1) + u2), rv a24, iv (jx29 + (1 : Int32)), iv ((1 : Int32) + (1 : Int32)), iv (kk 2)] [(.int ((1 : Int32) + (1 : Int32))), (.int jx29), (.ref a24)])) rfl rfl (hb hby own_d5_73)
    refine own_sp st46 ?_
    have Z46 : n0 ≤ h46.size := by rw [Wr.size W46]; exact Z29
    have N46 := Fr.snoc X46 N29 g_a24
    show own_Pk p e below _ T46 (mkF m 74 #[rv a, iv ((((0 : Int32) + u0) + u1) + u2), rv a24, iv (jx29 + (1 : Int32)), iv ((1 : Int32) + (1 : Int32)), iv (kk 2)] [])
    have hj2 := own_addN jx29 1 (0 + k0) 1 J29 (by decide) (by omega)
    exact ⟨T46, _, ⟨_, _, _, _, rfl, X46, e46, N46, Z46, ⟨A46, K29.wr W46 (Or.inr sz), AA29.other W46 nea, by rw [hz]; exact hj2⟩⟩, fun t k => k⟩
  refine own_st st40 ?_
  show own_Go p e below _ T40 (mkF m 74 #[rv a, iv ((((0 : Int32) + u0) + u1) + u2), rv a24, iv jx40, iv ((1 : Int32) + (1 : Int32)), iv (kk 2)] [])
  have sg47 : own_V p e below T40 (mkF m 50 #[rv a, iv ((((0 : Int32) + u0) + u1) + u2), rv a24, iv jx40, iv (((1 : Int32) + (1 : Int32)) + (1 : Int32)), iv (kk 2)] []) (mkF m 74 #[rv a, iv ((((0 : Int32) + u0) + u1) + u2), rv a24, iv jx40, iv ((1 : Int32) + (1 : Int32)), iv (kk 2)] []) := by
    intro t kt
    refine XS.iinc X40.here hx rfl (hb hby own_d5_74) rfl (l' := #[rv a, iv ((((0 : Int32) + u0) + u1) + u2), rv a24, iv jx40, iv (((1 : Int32) + (1 : Int32)) + (1 : Int32)), iv (kk 2)]) rfl ?_
    show own_S p e below T40 m 77 #[rv a, iv ((((0 : Int32) + u0) + u1) + u2), rv a24, iv jx40, iv (((1 : Int32) + (1 : Int32)) + (1 : Int32)), iv (kk 2)] [] _
    refine XS.goto X40.here hx rfl (pc0 := 77) (pc' := 50) rfl (hb hby own_d5_77) (by decide) (by decide) ?_
    show own_S p e below T40 m 50 #[rv a, iv ((((0 : Int32) + u0) + u1) + u2), rv a24, iv jx40, iv (((1 : Int32) + (1 : Int32)) + (1 : Int32)), iv (kk 2)] [] _
    exact kt
  refine own_st sg47 ?_
  have sg48 : own_V p e below T40 (mkF m 54 #[rv a, iv ((((0 : Int32) + u0) + u1) + u2), rv a24, iv jx40, iv (((1 : Int32) + (1 : Int32)) + (1 : Int32)), iv (kk 2)] [(.int (3 : Int32)), (.int (((1 : Int32) + (1 : Int32)) + (1 : Int32)))]) (mkF m 50 #[rv a, iv ((((0 : Int32) + u0) + u1) + u2), rv a24, iv jx40, iv (((1 : Int32) + (1 : Int32)) + (1 : Int32)), iv (kk 2)] []) := by
    intro t kt
    refine XS.iload X40.here hx rfl (hb hby own_d5_50) rfl ?_
    show own_S p e below T40 m 52 #[rv a, iv ((((0 : Int32) + u0) + u1) + u2), rv a24, iv jx40, iv (((1 : Int32) + (1 : Int32)) + (1 : Int32)), iv (kk 2)] [(.int (((1 : Int32) + (1 : Int32)) + (1 : Int32)))] _
    refine XS.aloadN X40.here hx rfl (hb hby own_d5_52) rfl rfl ?_
    show own_S p e below T40 m 53 #[rv a, iv ((((0 : Int32) + u0) + u1) + u2), rv a24, iv jx40, iv (((1 : Int32) + (1 : Int32)) + (1 : Int32)), iv (kk 2)] [(.ref a), (.int (((1 : Int32) + (1 : Int32)) + (1 : Int32)))] _
    refine own_len (z := (3 : Int32)) X40 hx hZ e40 AA40 (by decide) (g := (mkF m 53 #[rv a, iv ((((0 : Int32) + u0) + u1) + u2), rv a24, iv jx40, iv (((1 : Int32) + (1 : Int32)) + (1 : Int32)), iv (kk 2)] [(.ref a), (.int (((1 : Int32) + (1 : Int32)) + (1 : Int32)))])) rfl rfl (hb hby own_d5_53) _ ?_
    show own_S p e below T40 m 54 #[rv a, iv ((((0 : Int32) + u0) + u1) + u2), rv a24, iv jx40, iv (((1 : Int32) + (1 : Int32)) + (1 : Int32)), iv (kk 2)] [(.int (3 : Int32)), (.int (((1 : Int32) + (1 : Int32)) + (1 : Int32)))] _
    exact kt
  refine own_st sg48 ?_
  have sg50 : own_V p e below T40 (mkF m 57 #[rv a, iv ((((0 : Int32) + u0) + u1) + u2), rv a24, iv jx40, iv (((1 : Int32) + (1 : Int32)) + (1 : Int32)), iv (kk 2)] []) (mkF m 54 #[rv a, iv ((((0 : Int32) + u0) + u1) + u2), rv a24, iv jx40, iv (((1 : Int32) + (1 : Int32)) + (1 : Int32)), iv (kk 2)] [(.int (3 : Int32)), (.int (((1 : Int32) + (1 : Int32)) + (1 : Int32)))]) := by
    intro t kt
    refine XS.icmpNo X40.here hx rfl (hb hby own_d5_54) rfl (flt (by decide : ¬ (3 : Int32) < (((1 : Int32) + (1 : Int32)) + (1 : Int32)))).2.2.1 ?_
    exact kt
  refine own_st sg50 ?_
  obtain ⟨T51, _, ⟨h51, L51, jx51, fx51, rfl, X51, e51, N51, Z51, F51, K51, AA51, J51⟩, st51⟩ : own_Pk p e below (fun T' f' => ∃ (h' : Heap) (locs' : List Loc) (jx : Int32) (fx : Nat → Int32), f' = (mkF m 74 #[rv a, iv ((((0 : Int32) + u0) + u1) + u2), rv a24, iv jx, iv (((1 : Int32) + (1 : Int32)) + (1 : Int32)), iv (kk 2)] []) ∧ Stand p l e ({ frames := 0, cells := 1, slots := 3, locals := 0 } : Room) s m #[(.ref a)] below meth c T' locs' 1 3 ∧ T'.heap = h' ∧ Fr n0 locs' ∧ n0 ≤ h'.size ∧ (own_AI Z h' a24 .int (0 + k0 + k1 + k2) fx ∧ Keep h0 h' [] ∧ own_AI Z h' a .boolean 3 kk ∧ jx.toInt = ((0 + k0 + k1 + k2 : Nat) : Int))) T40 (mkF m 57 #[rv a, iv ((((0 : Int32) + u0) + u1) + u2), rv a24, iv jx40, iv (((1 : Int32) + (1 : Int32)) + (1 : Int32)), iv (kk 2)] []) := by
    have sg52 : own_V p e below T40 (mkF m 63 #[rv a, iv ((((0 : Int32) + u0) + u1) + u2), rv a24, iv jx40, iv (((1 : Int32) + (1 : Int32)) + (1 : Int32)), iv (kk 2)] [(.int (kk 2))]) (mkF m 57 #[rv a, iv ((((0 : Int32) + u0) + u1) + u2), rv a24, iv jx40, iv (((1 : Int32) + (1 : Int32)) + (1 : Int32)), iv (kk 2)] []) := by
      intro t kt
      refine XS.aloadN X40.here hx rfl (hb hby own_d5_57) rfl rfl ?_
      show own_S p e below T40 m 58 #[rv a, iv ((((0 : Int32) + u0) + u1) + u2), rv a24, iv jx40, iv (((1 : Int32) + (1 : Int32)) + (1 : Int32)), iv (kk 2)] [(.ref a)] _
      refine XS.iload X40.here hx rfl (hb hby own_d5_58) rfl ?_
      show own_S p e below T40 m 60 #[rv a, iv ((((0 : Int32) + u0) + u1) + u2), rv a24, iv jx40, iv (((1 : Int32) + (1 : Int32)) + (1 : Int32)), iv (kk 2)] [(.int (((1 : Int32) + (1 : Int32)) + (1 : Int32))), (.ref a)] _
      refine XS.iconst X40.here hx rfl (hb hby own_d5_60) ?_
      show own_S p e below T40 m 61 #[rv a, iv ((((0 : Int32) + u0) + u1) + u2), rv a24, iv jx40, iv (((1 : Int32) + (1 : Int32)) + (1 : Int32)), iv (kk 2)] [(.int (1 : Int32)), (.int (((1 : Int32) + (1 : Int32)) + (1 : Int32))), (.ref a)] _
      refine XS.isub X40.here hx rfl (hb hby own_d5_61) rfl ?_
      show own_S p e below T40 m 62 #[rv a, iv ((((0 : Int32) + u0) + u1) + u2), rv a24, iv jx40, iv (((1 : Int32) + (1 : Int32)) + (1 : Int32)), iv (kk 2)] [(.int ((((1 : Int32) + (1 : Int32)) + (1 : Int32)) - (1 : Int32))), (.ref a)] _
      refine own_rdZ X40 hx hZ e40 AA40 (k := 2) (by decide) (by decide) (g := (mkF m 62 #[rv a, iv ((((0 : Int32) + u0) + u1) + u2), rv a24, iv jx40, iv (((1 : Int32) + (1 : Int32)) + (1 : Int32)), iv (kk 2)] [(.int ((((1 : Int32) + (1 : Int32)) + (1 : Int32)) - (1 : Int32))), (.ref a)])) rfl rfl (hb hby own_d5_62) _ ?_
      show own_S p e below T40 m 63 #[rv a, iv ((((0 : Int32) + u0) + u1) + u2), rv a24, iv jx40, iv (((1 : Int32) + (1 : Int32)) + (1 : Int32)), iv (kk 2)] [(.int (kk 2))] _
      exact kt
    refine own_sp sg52 ?_
    by_cases hc53 : (kk 2) = (0 : Int32)
    · skip
      have sg54 : own_V p e below T40 (mkF m 74 #[rv a, iv ((((0 : Int32) + u0) + u1) + u2), rv a24, iv jx40, iv (((1 : Int32) + (1 : Int32)) + (1 : Int32)), iv (kk 2)] []) (mkF m 63 #[rv a, iv ((((0 : Int32) + u0) + u1) + u2), rv a24, iv jx40, iv (((1 : Int32) + (1 : Int32)) + (1 : Int32)), iv (kk 2)] [(.int (kk 2))]) := by
        intro t kt
        refine XS.ifYes X40.here hx rfl (pc0 := 63) (pc' := 74) rfl (hb hby own_d5_63) rfl ((if0 _ _).trans (teq hc53).1) (by decide) (by decide) ?_
        exact kt
      refine own_sp sg54 ?_
      have hz : k2 = 0 := hk2.elim (fun z => z.2.2) (fun z => absurd hc53 z.1)
      exact ⟨T40, _, ⟨_, _, _, _, rfl, X40, e40, N40, Z40, ⟨F40, K40, AA40, by rw [hz]; exact J40⟩⟩, fun t k => k⟩
    have sg55 : own_V p e below T40 (mkF m 66 #[rv a, iv ((((0 : Int32) + u0) + u1) + u2), rv a24, iv jx40, iv (((1 : Int32) + (1 : Int32)) + (1 : Int32)), iv (kk 2)] []) (mkF m 63 #[rv a, iv ((((0 : Int32) + u0) + u1) + u2), rv a24, iv jx40, iv (((1 : Int32) + (1 : Int32)) + (1 : Int32)), iv (kk 2)] [(.int (kk 2))]) := by
      intro t kt
      refine XS.ifNo X40.here hx rfl (hb hby own_d5_63) rfl ((if0 _ _).trans (feq hc53).1) ?_
      exact kt
    refine own_sp sg55 ?_
    have hz : k2 = 1 := hk2.elim (fun z => absurd z.1 hc53) (fun z => z.2.2)
    have sg56 : own_V p e below T40 (mkF m 73 #[rv a, iv ((((0 : Int32) + u0) + u1) + u2), rv a24, iv (jx40 + (1 : Int32)), iv (((1 : Int32) + (1 : Int32)) + (1 : Int32)), iv (kk 2)] [(.int (((1 : Int32) + (1 : Int32)) + (1 : Int32))), (.int jx40), (.ref a24)]) (mkF m 66 #[rv a, iv ((((0 : Int32) + u0) + u1) + u2), rv a24, iv jx40, iv (((1 : Int32) + (1 : Int32)) + (1 : Int32)), iv (kk 2)] []) := by
      intro t kt
      refine XS.aloadN X40.here hx rfl (hb hby own_d5_66) rfl rfl ?_
      show own_S p e below T40 m 67 #[rv a, iv ((((0 : Int32) + u0) + u1) + u2), rv a24, iv jx40, iv (((1 : Int32) + (1 : Int32)) + (1 : Int32)), iv (kk 2)] [(.ref a24)] _
      refine XS.iloadN X40.here hx rfl (hb hby own_d5_67) rfl ?_
      show own_S p e below T40 m 68 #[rv a, iv ((((0 : Int32) + u0) + u1) + u2), rv a24, iv jx40, iv (((1 : Int32) + (1 : Int32)) + (1 : Int32)), iv (kk 2)] [(.int jx40), (.ref a24)] _
      refine XS.iinc X40.here hx rfl (hb hby own_d5_68) rfl (l' := #[rv a, iv ((((0 : Int32) + u0) + u1) + u2), rv a24, iv (jx40 + (1 : Int32)), iv (((1 : Int32) + (1 : Int32)) + (1 : Int32)), iv (kk 2)]) rfl ?_
      show own_S p e below T40 m 71 #[rv a, iv ((((0 : Int32) + u0) + u1) + u2), rv a24, iv (jx40 + (1 : Int32)), iv (((1 : Int32) + (1 : Int32)) + (1 : Int32)), iv (kk 2)] [(.int jx40), (.ref a24)] _
      refine XS.iload X40.here hx rfl (hb hby own_d5_71) rfl ?_
      show own_S p e below T40 m 73 #[rv a, iv ((((0 : Int32) + u0) + u1) + u2), rv a24, iv (jx40 + (1 : Int32)), iv (((1 : Int32) + (1 : Int32)) + (1 : Int32)), iv (kk 2)] [(.int (((1 : Int32) + (1 : Int32)) + (1 : Int32))), (.int jx40), (.ref a24)] _
      exact kt
    refine own_sp sg56 ?_
    obtain ⟨T57, h57, X57, e57, W57, A57, st57⟩ := own_wrI X40 hx hZ e40 F40 (k := (0 + k0 + k1)) J40 (by omega) (g := (mkF m 73 #[rv a, iv ((((0 : Int32) + u0) + u1) + u2), rv a24, iv (jx40 + (1 : Int32)), iv (((1 : Int32) + (1 : Int32)) + (1 : Int32)), iv (kk 2)] [(.int (((1 : Int32) + (1 : Int32)) + (1 : Int32))), (.int jx40), (.ref a24)])) rfl rfl (hb hby own_d5_73)
    refine own_sp st57 ?_
    have Z57 : n0 ≤ h57.size := by rw [Wr.size W57]; exact Z40
    have N57 := Fr.snoc X57 N40 g_a24
    show own_Pk p e below _ T57 (mkF m 74 #[rv a, iv ((((0 : Int32) + u0) + u1) + u2), rv a24, iv (jx40 + (1 : Int32)), iv (((1 : Int32) + (1 : Int32)) + (1 : Int32)), iv (kk 2)] [])
    have hj2 := own_addN jx40 1 (0 + k0 + k1) 1 J40 (by decide) (by omega)
    exact ⟨T57, _, ⟨_, _, _, _, rfl, X57, e57, N57, Z57, ⟨A57, K40.wr W57 (Or.inr sz), AA40.other W57 nea, by rw [hz]; exact hj2⟩⟩, fun t k => k⟩
  refine own_st st51 ?_
  show own_Go p e below _ T51 (mkF m 74 #[rv a, iv ((((0 : Int32) + u0) + u1) + u2), rv a24, iv jx51, iv (((1 : Int32) + (1 : Int32)) + (1 : Int32)), iv (kk 2)] [])
  have sg58 : own_V p e below T51 (mkF m 50 #[rv a, iv ((((0 : Int32) + u0) + u1) + u2), rv a24, iv jx51, iv ((((1 : Int32) + (1 : Int32)) + (1 : Int32)) + (1 : Int32)), iv (kk 2)] []) (mkF m 74 #[rv a, iv ((((0 : Int32) + u0) + u1) + u2), rv a24, iv jx51, iv (((1 : Int32) + (1 : Int32)) + (1 : Int32)), iv (kk 2)] []) := by
    intro t kt
    refine XS.iinc X51.here hx rfl (hb hby own_d5_74) rfl (l' := #[rv a, iv ((((0 : Int32) + u0) + u1) + u2), rv a24, iv jx51, iv ((((1 : Int32) + (1 : Int32)) + (1 : Int32)) + (1 : Int32)), iv (kk 2)]) rfl ?_
    show own_S p e below T51 m 77 #[rv a, iv ((((0 : Int32) + u0) + u1) + u2), rv a24, iv jx51, iv ((((1 : Int32) + (1 : Int32)) + (1 : Int32)) + (1 : Int32)), iv (kk 2)] [] _
    refine XS.goto X51.here hx rfl (pc0 := 77) (pc' := 50) rfl (hb hby own_d5_77) (by decide) (by decide) ?_
    show own_S p e below T51 m 50 #[rv a, iv ((((0 : Int32) + u0) + u1) + u2), rv a24, iv jx51, iv ((((1 : Int32) + (1 : Int32)) + (1 : Int32)) + (1 : Int32)), iv (kk 2)] [] _
    exact kt
  refine own_st sg58 ?_
  have sg59 : own_V p e below T51 (mkF m 54 #[rv a, iv ((((0 : Int32) + u0) + u1) + u2), rv a24, iv jx51, iv ((((1 : Int32) + (1 : Int32)) + (1 : Int32)) + (1 : Int32)), iv (kk 2)] [(.int (3 : Int32)), (.int ((((1 : Int32) + (1 : Int32)) + (1 : Int32)) + (1 : Int32)))]) (mkF m 50 #[rv a, iv ((((0 : Int32) + u0) + u1) + u2), rv a24, iv jx51, iv ((((1 : Int32) + (1 : Int32)) + (1 : Int32)) + (1 : Int32)), iv (kk 2)] []) := by
    intro t kt
    refine XS.iload X51.here hx rfl (hb hby own_d5_50) rfl ?_
    show own_S p e below T51 m 52 #[rv a, iv ((((0 : Int32) + u0) + u1) + u2), rv a24, iv jx51, iv ((((1 : Int32) + (1 : Int32)) + (1 : Int32)) + (1 : Int32)), iv (kk 2)] [(.int ((((1 : Int32) + (1 : Int32)) + (1 : Int32)) + (1 : Int32)))] _
    refine XS.aloadN X51.here hx rfl (hb hby own_d5_52) rfl rfl ?_
    show own_S p e below T51 m 53 #[rv a, iv ((((0 : Int32) + u0) + u1) + u2), rv a24, iv jx51, iv ((((1 : Int32) + (1 : Int32)) + (1 : Int32)) + (1 : Int32)), iv (kk 2)] [(.ref a), (.int ((((1 : Int32) + (1 : Int32)) + (1 : Int32)) + (1 : Int32)))] _
    refine own_len (z := (3 : Int32)) X51 hx hZ e51 AA51 (by decide) (g := (mkF m 53 #[rv a, iv ((((0 : Int32) + u0) + u1) + u2), rv a24, iv jx51, iv ((((1 : Int32) + (1 : Int32)) + (1 : Int32)) + (1 : Int32)), iv (kk 2)] [(.ref a), (.int ((((1 : Int32) + (1 : Int32)) + (1 : Int32)) + (1 : Int32)))])) rfl rfl (hb hby own_d5_53) _ ?_
    show own_S p e below T51 m 54 #[rv a, iv ((((0 : Int32) + u0) + u1) + u2), rv a24, iv jx51, iv ((((1 : Int32) + (1 : Int32)) + (1 : Int32)) + (1 : Int32)), iv (kk 2)] [(.int (3 : Int32)), (.int ((((1 : Int32) + (1 : Int32)) + (1 : Int32)) + (1 : Int32)))] _
    exact kt
  refine own_st sg59 ?_
  have sg61 : own_V p e below T51 (mkF m 80 #[rv a, iv ((((0 : Int32) + u0) + u1) + u2), rv a24, iv jx51, iv ((((1 : Int32) + (1 : Int32)) + (1 : Int32)) + (1 : Int32)), iv (kk 2)] []) (mkF m 54 #[rv a, iv ((((0 : Int32) + u0) + u1) + u2), rv a24, iv jx51, iv ((((1 : Int32) + (1 : Int32)) + (1 : Int32)) + (1 : Int32)), iv (kk 2)] [(.int (3 : Int32)), (.int ((((1 : Int32) + (1 : Int32)) + (1 : Int32)) + (1 : Int32)))]) := by
    intro t kt
    refine XS.icmpYes X51.here hx rfl (pc0 := 54) (pc' := 80) rfl (hb hby own_d5_54) rfl (tlt (by decide : (3 : Int32) < ((((1 : Int32) + (1 : Int32)) + (1 : Int32)) + (1 : Int32)))).2.2.1 (by decide) (by decide) ?_
    exact kt
  refine own_st sg61 ?_
  have sg62 : own_V p e below T51 (mkF m 81 #[rv a, iv ((((0 : Int32) + u0) + u1) + u2), rv a24, iv jx51, iv ((((1 : Int32) + (1 : Int32)) + (1 : Int32)) + (1 : Int32)), iv (kk 2)] [(.ref a24)]) (mkF m 80 #[rv a, iv ((((0 : Int32) + u0) + u1) + u2), rv a24, iv jx51, iv ((((1 : Int32) + (1 : Int32)) + (1 : Int32)) + (1 : Int32)), iv (kk 2)] []) := by
    intro t kt
    refine XS.aloadN X51.here hx rfl (hb hby own_d5_80) rfl rfl ?_
    show own_S p e below T51 m 81 #[rv a, iv ((((0 : Int32) + u0) + u1) + u2), rv a24, iv jx51, iv ((((1 : Int32) + (1 : Int32)) + (1 : Int32)) + (1 : Int32)), iv (kk 2)] [(.ref a24)] _
    exact kt
  refine own_st sg62 ?_
  exact own_retR X51 hx Bd.notSynchronized Bd.returns rfl rfl (hb hby own_d5_81) (by decide) (by decide) e51 ⟨⟨_, rfl⟩, N51, K51⟩
theorem own_d3_0 : decode prog_67_method_1_code 0 = .ok (.aload_n 0, 1) := by decide +kernel
theorem own_d3_1 : decode prog_67_method_1_code 1 = .ok (.aload_n 1, 1) := by decide +kernel
theorem own_d3_2 : decode prog_67_method_1_code 2 = .ok (.putfield 1, 3) := by decide +kernel
theorem own_d3_5 : decode prog_67_method_1_code 5 = .ok (.aload_n 0, 1) := by decide +kernel
theorem own_d3_6 : decode prog_67_method_1_code 6 = .ok (.invokespecial 7, 3) := by decide +kernel
theorem own_d3_9 : decode prog_67_method_1_code 9 = .ok (.aload_n 0, 1) := by decide +kernel
theorem own_d3_10 : decode prog_67_method_1_code 10 = .ok (.iload_n 2, 1) := by decide +kernel
theorem own_d3_11 : decode prog_67_method_1_code 11 = .ok (.putfield 13, 3) := by decide +kernel
theorem own_d3_14 : decode prog_67_method_1_code 14 = .ok (.aload_n 0, 1) := by decide +kernel
theorem own_d3_15 : decode prog_67_method_1_code 15 = .ok (.iload_n 3, 1) := by decide +kernel
theorem own_d3_16 : decode prog_67_method_1_code 16 = .ok (.newarray .byte, 2) := by decide +kernel
theorem own_d3_18 : decode prog_67_method_1_code 18 = .ok (.putfield 17, 3) := by decide +kernel
theorem own_d3_21 : decode prog_67_method_1_code 21 = .ok (.aload_n 0, 1) := by decide +kernel
theorem own_d3_22 : decode prog_67_method_1_code 22 = .ok (.getfield 17, 3) := by decide +kernel
theorem own_d3_25 : decode prog_67_method_1_code 25 = .ok (.iconst (-1), 1) := by decide +kernel
theorem own_d3_26 : decode prog_67_method_1_code 26 = .ok (.invokestatic 23, 3) := by decide +kernel
theorem own_d3_29 : decode prog_67_method_1_code 29 = .ok (.return_, 1) := by decide +kernel
theorem own_pd0 : parseMethodDescriptor "([BB)V" = some ⟨[(.array .byte), .byte], none⟩ := by decide +kernel
theorem own_pn2 : plainName "com/example/kingsround/kingsround/engine/Deliveries$Delivered" = true := by first | (simp [plainName, overriddenIn]; done) | decide +kernel
theorem own_efdv (m : MethodId) (a : Nat) (d : Nat) (tt : Int32) (n : Int32) : entryFrame m #[(.ref a), (.ref d), (.int tt), (.int n)] 4 = mkF m 0 #[rv a, rv d, iv tt, iv n] [] := by first | (simp [entryFrame, mkF, argsToLocals, Value.category]; done) | rfl
set_option maxRecDepth 65536 in
set_option maxHeartbeats 40000000 in
theorem own_rmdv (l : Launch) (Z : State) (a0 : Array Value) (hw : ∀ d ∈ tables_1, d.before a0 Z = true) (a : Nat) (d : Nat) (tt : Int32) (n : Int32) (h0 : Heap) (n0 : Nat) (Z0 : n0 ≤ h0.size) (EE : Exa Z h0 a "com/example/kingsround/kingsround/engine/Deliveries$Delivered") (F1 : Fld Z h0 a "com/example/kingsround/kingsround/engine/Deliveries$Delivered" "this$0" "Lcom/example/kingsround/kingsround/engine/Deliveries;" .null) (F2 : Fld Z h0 a "com/example/kingsround/kingsround/engine/Deliveries$Delivered" "to" "I" (.int (0 : Int32))) (F3 : Fld Z h0 a "com/example/kingsround/kingsround/engine/Deliveries$Delivered" "received" "[B" .null) (g_a : n0 ≤ a) (hn : n = 3) :
    own_Ct l Z (⟨"com/example/kingsround/kingsround/engine/Deliveries$Delivered", "<init>", "(Lcom/example/kingsround/kingsround/engine/Deliveries;II)V"⟩ : MethodName) prog_67_method_1_code 4 none ({ frames := 1, cells := 1, slots := 3, locals := 15 } : Room) #[(.ref a), (.ref d), (.int tt), (.int n)] h0 (fun v h L => v = none ∧ Fr n0 L ∧ Keep h0 h [a] ∧ ∃ r : Nat, h0.size ≤ r ∧ own_Dv Z h a r d tt (fun _ => -1)) := by
  refine own_body (y := (⟨"com/example/kingsround/kingsround/engine/Deliveries$Delivered", "<init>", "(Lcom/example/kingsround/kingsround/engine/Deliveries;II)V"⟩ : MethodName)) (Q := fun v h L => v = none ∧ Fr n0 L ∧ Keep h0 h [a] ∧ ∃ r : Nat, h0.size ≤ r ∧ own_Dv Z h a r d tt (fun _ => -1)) (plainFor_of_name own_pn2) ?_
  intro p e s m below meth c s₁ Bd hml0 hZ e0
  have hx := Bd.exec
  have hby := Bd.bytes
  have hml : c.maxLocals = 4 := hml0
  have hown : s.vm.findClass "com/example/kingsround/kingsround/engine/Deliveries$Delivered" = some m.cls := findClass_of_methodNamed Bd.named
  have hnm := (name_of_methodNamed Bd.named Bd.method).1
  have X0 : Stand p l e ({ frames := 1, cells := 1, slots := 3, locals := 15 } : Room) s m #[(.ref a), (.ref d), (.int tt), (.int n)] below meth c s₁ [] 0 0 := Stand.of_body Bd
  have N0 := Fr.nil n0
  rw [own_efdv]
  have lta : a < h0.size := EE.lt
  have sg1 : own_V p e below s₁ (mkF m 2 #[rv a, rv d, iv tt, iv n] [(.ref d), (.ref a)]) (mkF m 0 #[rv a, rv d, iv tt, iv n] []) := by
    intro t kt
    refine XS.aloadN X0.here hx rfl (hb hby own_d3_0) rfl rfl ?_
    show own_S p e below s₁ m 1 #[rv a, rv d, iv tt, iv n] [(.ref a)] _
    refine XS.aloadN X0.here hx rfl (hb hby own_d3_1) rfl rfl ?_
    show own_S p e below s₁ m 2 #[rv a, rv d, iv tt, iv n] [(.ref d), (.ref a)] _
    exact kt
  refine own_st sg1 ?_
  obtain ⟨T2, h2, X2, e2, W2, st2⟩ := putF X0 hx hZ hown (host := "") (Or.inl (hw _ (List.mem_of_getElem? (i := 20) rfl))) Via.refl e0 F1 EE (Or.inr ⟨(hw _ (List.mem_of_getElem? (i := 21) rfl)), rfl, hnm⟩) (hw _ (List.mem_of_getElem? (i := 15) rfl)) (ty := (.object "com/example/kingsround/kingsround/engine/Deliveries")) (by decide) rfl rfl (g := (mkF m 2 #[rv a, rv d, iv tt, iv n] [(.ref d), (.ref a)])) rfl rfl (hb hby own_d3_2)
  refine own_st st2 ?_
  have Z2 : n0 ≤ h2.size := by rw [Wr.size W2]; exact Z0
  have N2 := Fr.snoc X2 N0 g_a
  show own_Go p e below _ T2 (mkF m 5 #[rv a, rv d, iv tt, iv n] [])
  have KK2 := Keep.of_wr W2
  have F2_2 := F2.other W2 (Or.inr (slot_ne (Or.inr (hw _ (List.mem_of_getElem? (i := 24) rfl))) (Or.inr (hw _ (List.mem_of_getElem? (i := 21) rfl))) (by decide) (t := .int) (t' := (.object "com/example/kingsround/kingsround/engine/Deliveries")) (by decide) (by decide)))
  have F3_2 := F3.other W2 (Or.inr (slot_ne (Or.inr (hw _ (List.mem_of_getElem? (i := 27) rfl))) (Or.inr (hw _ (List.mem_of_getElem? (i := 21) rfl))) (by decide) (t := (.array .byte)) (t' := (.object "com/example/kingsround/kingsround/engine/Deliveries")) (by decide) (by decide)))
  have EE_2 := EE.keep KK2
  have F1_2 := F1.same W2
  have KA2 : Keep h0 h2 [a] := (Keep.refl h0 [a]).wr W2 (Or.inl (List.mem_of_getElem? (i := 0) rfl))
  have sg3 : own_V p e below T2 (mkF m 6 #[rv a, rv d, iv tt, iv n] [(.ref a)]) (mkF m 5 #[rv a, rv d, iv tt, iv n] []) := by
    intro t kt
    refine XS.aloadN X2.here hx rfl (hb hby own_d3_5) rfl rfl ?_
    show own_S p e below T2 m 6 #[rv a, rv d, iv tt, iv n] [(.ref a)] _
    exact kt
  refine own_st sg3 ?_
  obtain ⟨T4, X4, e4, st4⟩ := initO X2 hx hZ hown (hw _ (List.mem_of_getElem? (i := 22) rfl)) (hw _ (List.mem_of_getElem? (i := 9) rfl)) (hw _ (List.mem_of_getElem? (i := 10) rfl)) e2 (g := (mkF m 6 #[rv a, rv d, iv tt, iv n] [(.ref a)])) rfl (by rw [hml]; rfl) rfl (hb hby own_d3_6) (by decide) (W := 0) (by show 2 * 0 + _ ≤ _; exact Nat.le_of_eq rfl) (by decide)
  refine own_st st4 ?_
  show own_Go p e below _ T4 (mkF m 9 #[rv a, rv d, iv tt, iv n] [])
  have sg5 : own_V p e below T4 (mkF m 11 #[rv a, rv d, iv tt, iv n] [(.int tt), (.ref a)]) (mkF m 9 #[rv a, rv d, iv tt, iv n] []) := by
    intro t kt
    refine XS.aloadN X4.here hx rfl (hb hby own_d3_9) rfl rfl ?_
    show own_S p e below T4 m 10 #[rv a, rv d, iv tt, iv n] [(.ref a)] _
    refine XS.iloadN X4.here hx rfl (hb hby own_d3_10) rfl ?_
    show own_S p e below T4 m 11 #[rv a, rv d, iv tt, iv n] [(.int tt), (.ref a)] _
    exact kt
  refine own_st sg5 ?_
  obtain ⟨T6, h6, X6, e6, W6, st6⟩ := putF X4 hx hZ hown (host := "") (Or.inl (hw _ (List.mem_of_getElem? (i := 23) rfl))) Via.refl e4 F2_2 EE_2 (Or.inr ⟨(hw _ (List.mem_of_getElem? (i := 24) rfl)), rfl, hnm⟩) (hw _ (List.mem_of_getElem? (i := 15) rfl)) (ty := .int) (by decide) rfl rfl (g := (mkF m 11 #[rv a, rv d, iv tt, iv n] [(.int tt), (.ref a)])) rfl rfl (hb hby own_d3_11)
  refine own_st st6 ?_
  have Z6 : n0 ≤ h6.size := by rw [Wr.size W6]; exact Z2
  have N6 := Fr.snoc X6 N2 g_a
  show own_Go p e below _ T6 (mkF m 14 #[rv a, rv d, iv tt, iv n] [])
  have KK6 := Keep.of_wr W6
  have F1_6 := F1_2.other W6 (Or.inr (slot_ne (Or.inr (hw _ (List.mem_of_getElem? (i := 21) rfl))) (Or.inr (hw _ (List.mem_of_getElem? (i := 24) rfl))) (by decide) (t := (.object "com/example/kingsround/kingsround/engine/Deliveries")) (t' := .int) (by decide) (by decide)))
  have F3_6 := F3_2.other W6 (Or.inr (slot_ne (Or.inr (hw _ (List.mem_of_getElem? (i := 27) rfl))) (Or.inr (hw _ (List.mem_of_getElem? (i := 24) rfl))) (by decide) (t := (.array .byte)) (t' := .int) (by decide) (by decide)))
  have EE_6 := EE_2.keep KK6
  have F2_6 := F2_2.same W6
  have KA6 : Keep h0 h6 [a] := KA2.wr W6 (Or.inl (List.mem_of_getElem? (i := 0) rfl))
  have sg7 : own_V p e below T6 (mkF m 16 #[rv a, rv d, iv tt, iv n] [(.int n), (.ref a)]) (mkF m 14 #[rv a, rv d, iv tt, iv n] []) := by
    intro t kt
    refine XS.aloadN X6.here hx rfl (hb hby own_d3_14) rfl rfl ?_
    show own_S p e below T6 m 15 #[rv a, rv d, iv tt, iv n] [(.ref a)] _
    refine XS.iloadN X6.here hx rfl (hb hby own_d3_15) rfl ?_
    show own_S p e below T6 m 16 #[rv a, rv d, iv tt, iv n] [(.int n), (.ref a)] _
    exact kt
  refine own_st sg7 ?_
  obtain ⟨T8, h8, a8, g8, X8, e8, E8, A8, st8⟩ := own_newP (n := 3) X6 hx hZ (hw _ (List.mem_of_getElem? (i := 25) rfl)) e6 (by rw [hn]; decide) rfl (g := (mkF m 16 #[rv a, rv d, iv tt, iv n] [(.int n), (.ref a)])) rfl rfl (hb hby own_d3_16) (cap := 3) (by decide) (by decide) (by decide) (by decide)
  refine own_st st8 ?_
  have g_a8 : n0 ≤ a8 := by rw [g8]; exact Z6
  have Z8 : n0 ≤ h8.size := Nat.le_trans Z6 E8.1
  have B8 : own_AI Z h8 a8 .byte 3 (fun _ => 0) := A8
  show own_Go p e below _ T8 (mkF m 18 #[rv a, rv d, iv tt, iv n] [(.ref a8), (.ref a)])
  have KK8 : Keep h6 h8 [] := (Keep.refl _ _).ext E8
  have EE_8 := EE_6.keep KK8
  have F1_8 := F1_6.keep KK8 nin0
  have F2_8 := F2_6.keep KK8 nin0
  have F3_8 := F3_6.keep KK8 nin0
  have KA8 : Keep h0 h8 [a] := KA6.ext E8
  have szr : h0.size ≤ a8 := by rw [g8]; exact KA6.1
  obtain ⟨T9, h9, X9, e9, W9, st9⟩ := putF X8 hx hZ hown (host := "") (Or.inl (hw _ (List.mem_of_getElem? (i := 26) rfl))) Via.refl e8 F3_8 EE_8 (Or.inr ⟨(hw _ (List.mem_of_getElem? (i := 27) rfl)), rfl, hnm⟩) (hw _ (List.mem_of_getElem? (i := 15) rfl)) (ty := (.array .byte)) (by decide) rfl rfl (g := (mkF m 18 #[rv a, rv d, iv tt, iv n] [(.ref a8), (.ref a)])) rfl rfl (hb hby own_d3_18)
  refine own_st st9 ?_
  have Z9 : n0 ≤ h9.size := by rw [Wr.size W9]; exact Z8
  have N9 := Fr.snoc X9 N6 g_a
  show own_Go p e below _ T9 (mkF m 21 #[rv a, rv d, iv tt, iv n] [])
  have KK9 := Keep.of_wr W9
  have F1_9 := F1_8.other W9 (Or.inr (slot_ne (Or.inr (hw _ (List.mem_of_getElem? (i := 21) rfl))) (Or.inr (hw _ (List.mem_of_getElem? (i := 27) rfl))) (by decide) (t := (.object "com/example/kingsround/kingsround/engine/Deliveries")) (t' := (.array .byte)) (by decide) (by decide)))
  have F2_9 := F2_8.other W9 (Or.inr (slot_ne (Or.inr (hw _ (List.mem_of_getElem? (i := 24) rfl))) (Or.inr (hw _ (List.mem_of_getElem? (i := 27) rfl))) (by decide) (t := .int) (t' := (.array .byte)) (by decide) (by decide)))
  have EE_9 := EE_8.keep KK9
  have AR_9 := B8.keep KK9 (own_ninS (by omega) nin0)
  have F3_9 := F3_8.same W9
  have KA9 : Keep h0 h9 [a] := KA8.wr W9 (Or.inl (List.mem_of_getElem? (i := 0) rfl))
  have sg10 : own_V p e below T9 (mkF m 22 #[rv a, rv d, iv tt, iv n] [(.ref a)]) (mkF m 21 #[rv a, rv d, iv tt, iv n] []) := by
    intro t kt
    refine XS.aloadN X9.here hx rfl (hb hby own_d3_21) rfl rfl ?_
    show own_S p e below T9 m 22 #[rv a, rv d, iv tt, iv n] [(.ref a)] _
    exact kt
  refine own_st sg10 ?_
  obtain ⟨T11, X11, e11, st11⟩ := getF X9 hx hZ hown (host := "") (Or.inl (hw _ (List.mem_of_getElem? (i := 26) rfl))) Via.refl e9 F3_9 (g := (mkF m 22 #[rv a, rv d, iv tt, iv n] [(.ref a)])) rfl rfl (hb hby own_d3_22)
  refine own_st st11 ?_
  show own_Go p e below _ T11 (mkF m 25 #[rv a, rv d, iv tt, iv n] [(.ref a8)])
  have sg12 : own_V p e below T11 (mkF m 26 #[rv a, rv d, iv tt, iv n] [(.int (-1 : Int32)), (.ref a8)]) (mkF m 25 #[rv a, rv d, iv tt, iv n] [(.ref a8)]) := by
    intro t kt
    refine XS.iconst X11.here hx rfl (hb hby own_d3_25) ?_
    show own_S p e below T11 m 26 #[rv a, rv d, iv tt, iv n] [(.int (-1 : Int32)), (.ref a8)] _
    exact kt
  refine own_st sg12 ?_
  obtain ⟨_, T13, L13, X13, hQ13, st13⟩ := own_callS (y := (⟨"java/util/Arrays", "fill", "([BB)V"⟩ : MethodName)) X11 hx hZ hown (hw _ (List.mem_of_getElem? (i := 28) rfl)) (hw _ (List.mem_of_getElem? (i := 29) rfl)) (hw _ (List.mem_of_getElem? (i := 30) rfl)) (hw _ (List.mem_of_getElem? (i := 31) rfl)) (by decide) (own_rmfil l Z a0 hw a8 (-1 : Int32) (fun _ => 0) h9 n0 Z9 AR_9 g_a8) e11 (g := (mkF m 26 #[rv a, rv d, iv tt, iv n] [(.int (-1 : Int32)), (.ref a8)])) rfl (by rw [hml]; rfl) (argsL := [(.ref a8), (.int (-1 : Int32))]) (rest := []) (lenOf own_pd0 rfl) rfl (W := 0) (by show 2 * 0 + _ ≤ _; exact Nat.le_of_eq rfl) (hb hby own_d3_26) (by decide) (by decide) (by decide) (by decide)
  obtain ⟨rfl, Nq13, K13, A13⟩ := hQ13
  refine own_st st13 ?_
  have Z13 : n0 ≤ T13.heap.size := Nat.le_trans Z9 K13.1
  have N13 := Fr.app N9 Nq13
  show own_Go p e below _ T13 (mkF m 29 #[rv a, rv d, iv tt, iv n] [])
  have EE_13 := EE_9.keep K13
  have F1_13 := F1_9.keep K13 (own_ninS (by omega) nin0)
  have F2_13 := F2_9.keep K13 (own_ninS (by omega) nin0)
  have F3_13 := F3_9.keep K13 (own_ninS (by omega) nin0)
  have KB : Keep h0 T13.heap [a] := KA9.trans K13 (allS (Or.inr szr) all0)
  exact own_retV X13 hx Bd.notSynchronized Bd.returns (hb hby own_d3_29) (by decide) (by decide) rfl ⟨rfl, N13, KB, a8, szr, EE_13, F1_13, F2_13, F3_13, A13⟩
theorem own_d6_0 : decode prog_66_method_1_code 0 = .ok (.aload_n 0, 1) := by decide +kernel
theorem own_d6_1 : decode prog_66_method_1_code 1 = .ok (.aload_n 1, 1) := by decide +kernel
theorem own_d6_2 : decode prog_66_method_1_code 2 = .ok (.putfield 1, 3) := by decide +kernel
theorem own_d6_5 : decode prog_66_method_1_code 5 = .ok (.aload_n 0, 1) := by decide +kernel
theorem own_d6_6 : decode prog_66_method_1_code 6 = .ok (.invokespecial 7, 3) := by decide +kernel
theorem own_d6_9 : decode prog_66_method_1_code 9 = .ok (.return_, 1) := by decide +kernel
theorem own_pn3 : plainName "com/example/kingsround/kingsround/engine/Deliveries$1" = true := by first | (simp [plainName, overriddenIn]; done) | decide +kernel
theorem own_efd1 (m : MethodId) (a : Nat) (d : Nat) : entryFrame m #[(.ref a), (.ref d)] 2 = mkF m 0 #[rv a, rv d] [] := by first | (simp [entryFrame, mkF, argsToLocals, Value.category]; done) | rfl
set_option maxRecDepth 65536 in
set_option maxHeartbeats 40000000 in
theorem own_rmd1 (l : Launch) (Z : State) (a0 : Array Value) (hw : ∀ d ∈ tables_1, d.before a0 Z = true) (a : Nat) (d : Nat) (h0 : Heap) (n0 : Nat) (Z0 : n0 ≤ h0.size) (EE : Exa Z h0 a "com/example/kingsround/kingsround/engine/Deliveries$1") (F1 : Fld Z h0 a "com/example/kingsround/kingsround/engine/Deliveries$1" "this$0" "Lcom/example/kingsround/kingsround/engine/Deliveries;" .null) (g_a : n0 ≤ a) :
    own_Ct l Z (⟨"com/example/kingsround/kingsround/engine/Deliveries$1", "<init>", "(Lcom/example/kingsround/kingsround/engine/Deliveries;)V"⟩ : MethodName) prog_66_method_1_code 2 none ({ frames := 1, cells := 0, slots := 0, locals := 12 } : Room) #[(.ref a), (.ref d)] h0 (fun v h L => v = none ∧ Fr n0 L ∧ Keep h0 h [a]) := by
  refine own_body (y := (⟨"com/example/kingsround/kingsround/engine/Deliveries$1", "<init>", "(Lcom/example/kingsround/kingsround/engine/Deliveries;)V"⟩ : MethodName)) (Q := fun v h L => v = none ∧ Fr n0 L ∧ Keep h0 h [a]) (plainFor_of_name own_pn3) ?_
  intro p e s m below meth c s₁ Bd hml0 hZ e0
  have hx := Bd.exec
  have hby := Bd.bytes
  have hml : c.maxLocals = 2 := hml0
  have hown : s.vm.findClass "com/example/kingsround/kingsround/engine/Deliveries$1" = some m.cls := findClass_of_methodNamed Bd.named
  have hnm := (name_of_methodNamed Bd.named Bd.method).1
  have X0 : Stand p l e ({ frames := 1, cells := 0, slots := 0, locals := 12 } : Room) s m #[(.ref a), (.ref d)] below meth c s₁ [] 0 0 := Stand.of_body Bd
  have N0 := Fr.nil n0
  rw [own_efd1]
  have sg1 : own_V p e below s₁ (mkF m 2 #[rv a, rv d] [(.ref d), (.ref a)]) (mkF m 0 #[rv a, rv d] []) := by
    intro t kt
    refine XS.aloadN X0.here hx rfl (hb hby own_d6_0) rfl rfl ?_
    show own_S p e below s₁ m 1 #[rv a, rv d] [(.ref a)] _
    refine XS.aloadN X0.here hx rfl (hb hby own_d6_1) rfl rfl ?_
    show own_S p e below s₁ m 2 #[rv a, rv d] [(.ref d), (.ref a)] _
    exact kt
  refine own_st sg1 ?_
  obtain ⟨T2, h2, X2, e2, W2, st2⟩ := putF X0 hx hZ hown (host := "") (Or.inl (hw _ (List.mem_of_getElem? (i := 64) rfl))) Via.refl e0 F1 EE (Or.inr ⟨(hw _ (List.mem_of_getElem? (i := 65) rfl)), rfl, hnm⟩) (hw _ (List.mem_of_getElem? (i := 59) rfl)) (ty := (.object "com/example/kingsround/kingsround/engine/Deliveries")) (by decide) rfl rfl (g := (mkF m 2 #[rv a, rv d] [(.ref d), (.ref a)])) rfl rfl (hb hby own_d6_2)
  refine own_st st2 ?_
  have Z2 : n0 ≤ h2.size := by rw [Wr.size W2]; exact Z0
  have N2 := Fr.snoc X2 N0 g_a
  show own_Go p e below _ T2 (mkF m 5 #[rv a, rv d] [])
  have sg3 : own_V p e below T2 (mkF m 6 #[rv a, rv d] [(.ref a)]) (mkF m 5 #[rv a, rv d] []) := by
    intro t kt
    refine XS.aloadN X2.here hx rfl (hb hby own_d6_5) rfl rfl ?_
    show own_S p e below T2 m 6 #[rv a, rv d] [(.ref a)] _
    exact kt
  refine own_st sg3 ?_
  obtain ⟨T4, X4, e4, st4⟩ := initO X2 hx hZ hown (hw _ (List.mem_of_getElem? (i := 66) rfl)) (hw _ (List.mem_of_getElem? (i := 9) rfl)) (hw _ (List.mem_of_getElem? (i := 10) rfl)) e2 (g := (mkF m 6 #[rv a, rv d] [(.ref a)])) rfl (by rw [hml]; rfl) rfl (hb hby own_d6_6) (by decide) (W := 0) (by show 2 * 0 + _ ≤ _; exact Nat.le_of_eq rfl) (by decide)
  refine own_st st4 ?_
  show own_Go p e below _ T4 (mkF m 9 #[rv a, rv d] [])
  exact own_retV X4 hx Bd.notSynchronized Bd.returns (hb hby own_d6_9) (by decide) (by decide) e4 ⟨rfl, N2, Keep.of_wr W2⟩
theorem own_d7_0 : decode prog_62_method_1_code 0 = .ok (.aload_n 0, 1) := by decide +kernel
theorem own_d7_1 : decode prog_62_method_1_code 1 = .ok (.invokespecial 1, 3) := by decide +kernel
theorem own_d7_4 : decode prog_62_method_1_code 4 = .ok (.aload_n 0, 1) := by decide +kernel
theorem own_d7_5 : decode prog_62_method_1_code 5 = .ok (.iload_n 1, 1) := by decide +kernel
theorem own_d7_6 : decode prog_62_method_1_code 6 = .ok (.putfield 7, 3) := by decide +kernel
theorem own_d7_9 : decode prog_62_method_1_code 9 = .ok (.aload_n 0, 1) := by decide +kernel
theorem own_d7_10 : decode prog_62_method_1_code 10 = .ok (.aload_n 2, 1) := by decide +kernel
theorem own_d7_11 : decode prog_62_method_1_code 11 = .ok (.putfield 13, 3) := by decide +kernel
theorem own_d7_14 : decode prog_62_method_1_code 14 = .ok (.return_, 1) := by decide +kernel
theorem own_pn4 : plainName "com/example/kingsround/kingsround/engine/CheckedOutbox" = true := by first | (simp [plainName, overriddenIn]; done) | decide +kernel
theorem own_efobx (m : MethodId) (a : Nat) (x : Int32) (k : Nat) : entryFrame m #[(.ref a), (.int x), (.ref k)] 3 = mkF m 0 #[rv a, iv x, rv k] [] := by first | (simp [entryFrame, mkF, argsToLocals, Value.category]; done) | rfl
set_option maxRecDepth 65536 in
set_option maxHeartbeats 40000000 in
theorem own_rmobx (l : Launch) (Z : State) (a0 : Array Value) (hw : ∀ d ∈ tables_1, d.before a0 Z = true) (a : Nat) (x : Int32) (k : Nat) (h0 : Heap) (n0 : Nat) (Z0 : n0 ≤ h0.size) (EE : Exa Z h0 a "com/example/kingsround/kingsround/engine/CheckedOutbox") (F1 : Fld Z h0 a "com/example/kingsround/kingsround/engine/CheckedOutbox" "n" "I" (.int (0 : Int32))) (F2 : Fld Z h0 a "com/example/kingsround/kingsround/engine/CheckedOutbox" "sink" "Lcom/example/kingsround/kingsround/engine/CheckedOutbox$Sink;" .null) (g_a : n0 ≤ a) :
    own_Ct l Z (⟨"com/example/kingsround/kingsround/engine/CheckedOutbox", "<init>", "(ILcom/example/kingsround/kingsround/engine/CheckedOutbox$Sink;)V"⟩ : MethodName) prog_62_method_1_code 3 none ({ frames := 1, cells := 0, slots := 0, locals := 12 } : Room) #[(.ref a), (.int x), (.ref k)] h0 (fun v h L => v = none ∧ Fr n0 L ∧ Keep h0 h [a]) := by
  refine own_body (y := (⟨"com/example/kingsround/kingsround/engine/CheckedOutbox", "<init>", "(ILcom/example/kingsround/kingsround/engine/CheckedOutbox$Sink;)V"⟩ : MethodName)) (Q := fun v h L => v = none ∧ Fr n0 L ∧ Keep h0 h [a]) (plainFor_of_name own_pn4) ?_
  intro p e s m below meth c s₁ Bd hml0 hZ e0
  have hx := Bd.exec
  have hby := Bd.bytes
  have hml : c.maxLocals = 3 := hml0
  have hown : s.vm.findClass "com/example/kingsround/kingsround/engine/CheckedOutbox" = some m.cls := findClass_of_methodNamed Bd.named
  have hnm := (name_of_methodNamed Bd.named Bd.method).1
  have X0 : Stand p l e ({ frames := 1, cells := 0, slots := 0, locals := 12 } : Room) s m #[(.ref a), (.int x), (.ref k)] below meth c s₁ [] 0 0 := Stand.of_body Bd
  have N0 := Fr.nil n0
  rw [own_efobx]
  have sg1 : own_V p e below s₁ (mkF m 1 #[rv a, iv x, rv k] [(.ref a)]) (mkF m 0 #[rv a, iv x, rv k] []) := by
    intro t kt
    refine XS.aloadN X0.here hx rfl (hb hby own_d7_0) rfl rfl ?_
    show own_S p e below s₁ m 1 #[rv a, iv x, rv k] [(.ref a)] _
    exact kt
  refine own_st sg1 ?_
  obtain ⟨T2, X2, e2, st2⟩ := initO X0 hx hZ hown (hw _ (List.mem_of_getElem? (i := 70) rfl)) (hw _ (List.mem_of_getElem? (i := 9) rfl)) (hw _ (List.mem_of_getElem? (i := 10) rfl)) e0 (g := (mkF m 1 #[rv a, iv x, rv k] [(.ref a)])) rfl (by rw [hml]; rfl) rfl (hb hby own_d7_1) (by decide) (W := 0) (by show 2 * 0 + _ ≤ _; exact Nat.le_of_eq rfl) (by decide)
  refine own_st st2 ?_
  show own_Go p e below _ T2 (mkF m 4 #[rv a, iv x, rv k] [])
  have sg3 : own_V p e below T2 (mkF m 6 #[rv a, iv x, rv k] [(.int x), (.ref a)]) (mkF m 4 #[rv a, iv x, rv k] []) := by
    intro t kt
    refine XS.aloadN X2.here hx rfl (hb hby own_d7_4) rfl rfl ?_
    show own_S p e below T2 m 5 #[rv a, iv x, rv k] [(.ref a)] _
    refine XS.iloadN X2.here hx rfl (hb hby own_d7_5) rfl ?_
    show own_S p e below T2 m 6 #[rv a, iv x, rv k] [(.int x), (.ref a)] _
    exact kt
  refine own_st sg3 ?_
  obtain ⟨T4, h4, X4, e4, W4, st4⟩ := putF X2 hx hZ hown (host := "") (Or.inl (hw _ (List.mem_of_getElem? (i := 71) rfl))) Via.refl e2 F1 EE (Or.inr ⟨(hw _ (List.mem_of_getElem? (i := 72) rfl)), rfl, hnm⟩) (hw _ (List.mem_of_getElem? (i := 56) rfl)) (ty := .int) (by decide) rfl rfl (g := (mkF m 6 #[rv a, iv x, rv k] [(.int x), (.ref a)])) rfl rfl (hb hby own_d7_6)
  refine own_st st4 ?_
  have Z4 : n0 ≤ h4.size := by rw [Wr.size W4]; exact Z0
  have N4 := Fr.snoc X4 N0 g_a
  show own_Go p e below _ T4 (mkF m 9 #[rv a, iv x, rv k] [])
  have KK4 := Keep.of_wr W4
  have F2_4 := F2.other W4 (Or.inr (slot_ne (Or.inr (hw _ (List.mem_of_getElem? (i := 74) rfl))) (Or.inr (hw _ (List.mem_of_getElem? (i := 72) rfl))) (by decide) (t := (.object "com/example/kingsround/kingsround/engine/CheckedOutbox$Sink")) (t' := .int) (by decide) (by decide)))
  have EE_4 := EE.keep KK4
  have sg5 : own_V p e below T4 (mkF m 11 #[rv a, iv x, rv k] [(.ref k), (.ref a)]) (mkF m 9 #[rv a, iv x, rv k] []) := by
    intro t kt
    refine XS.aloadN X4.here hx rfl (hb hby own_d7_9) rfl rfl ?_
    show own_S p e below T4 m 10 #[rv a, iv x, rv k] [(.ref a)] _
    refine XS.aloadN X4.here hx rfl (hb hby own_d7_10) rfl rfl ?_
    show own_S p e below T4 m 11 #[rv a, iv x, rv k] [(.ref k), (.ref a)] _
    exact kt
  refine own_st sg5 ?_
  obtain ⟨T6, h6, X6, e6, W6, st6⟩ := putF X4 hx hZ hown (host := "") (Or.inl (hw _ (List.mem_of_getElem? (i := 73) rfl))) Via.refl e4 F2_4 EE_4 (Or.inr ⟨(hw _ (List.mem_of_getElem? (i := 74) rfl)), rfl, hnm⟩) (hw _ (List.mem_of_getElem? (i := 56) rfl)) (ty := (.object "com/example/kingsround/kingsround/engine/CheckedOutbox$Sink")) (by decide) rfl rfl (g := (mkF m 11 #[rv a, iv x, rv k] [(.ref k), (.ref a)])) rfl rfl (hb hby own_d7_11)
  refine own_st st6 ?_
  have Z6 : n0 ≤ h6.size := by rw [Wr.size W6]; exact Z4
  have N6 := Fr.snoc X6 N4 g_a
  show own_Go p e below _ T6 (mkF m 14 #[rv a, iv x, rv k] [])
  exact own_retV X6 hx Bd.notSynchronized Bd.returns (hb hby own_d7_14) (by decide) (by decide) e6 ⟨rfl, N6, (Keep.of_wr W4).wr W6 (Or.inl (List.mem_of_getElem? (i := 0) rfl))⟩
theorem own_d1_0 : decode prog_65_method_2_code 0 = .ok (.aload_n 0, 1) := by decide +kernel
theorem own_d1_1 : decode prog_65_method_2_code 1 = .ok (.invokespecial 11, 3) := by decide +kernel
theorem own_d1_4 : decode prog_65_method_2_code 4 = .ok (.aload_n 1, 1) := by decide +kernel
theorem own_d1_5 : decode prog_65_method_2_code 5 = .ok (.arraylength, 1) := by decide +kernel
theorem own_d1_6 : decode prog_65_method_2_code 6 = .ok (.istore_n 2, 1) := by decide +kernel
theorem own_d1_7 : decode prog_65_method_2_code 7 = .ok (.aload_n 0, 1) := by decide +kernel
theorem own_d1_8 : decode prog_65_method_2_code 8 = .ok (.iload_n 2, 1) := by decide +kernel
theorem own_d1_9 : decode prog_65_method_2_code 9 = .ok (.anewarray 16, 3) := by decide +kernel
theorem own_d1_12 : decode prog_65_method_2_code 12 = .ok (.putfield 18, 3) := by decide +kernel
theorem own_d1_15 : decode prog_65_method_2_code 15 = .ok (.iconst 1, 1) := by decide +kernel
theorem own_d1_16 : decode prog_65_method_2_code 16 = .ok (.istore_n 3, 1) := by decide +kernel
theorem own_d1_17 : decode prog_65_method_2_code 17 = .ok (.iload_n 3, 1) := by decide +kernel
theorem own_d1_18 : decode prog_65_method_2_code 18 = .ok (.iload_n 2, 1) := by decide +kernel
theorem own_d1_19 : decode prog_65_method_2_code 19 = .ok (.if_icmp .gt 27, 3) := by decide +kernel
theorem own_d1_22 : decode prog_65_method_2_code 22 = .ok (.aload_n 0, 1) := by decide +kernel
theorem own_d1_23 : decode prog_65_method_2_code 23 = .ok (.getfield 18, 3) := by decide +kernel
theorem own_d1_26 : decode prog_65_method_2_code 26 = .ok (.iload_n 3, 1) := by decide +kernel
theorem own_d1_27 : decode prog_65_method_2_code 27 = .ok (.iconst 1, 1) := by decide +kernel
theorem own_d1_28 : decode prog_65_method_2_code 28 = .ok (.isub, 1) := by decide +kernel
theorem own_d1_29 : decode prog_65_method_2_code 29 = .ok (.new 16, 3) := by decide +kernel
theorem own_d1_32 : decode prog_65_method_2_code 32 = .ok (.dup, 1) := by decide +kernel
theorem own_d1_33 : decode prog_65_method_2_code 33 = .ok (.aload_n 0, 1) := by decide +kernel
theorem own_d1_34 : decode prog_65_method_2_code 34 = .ok (.iload_n 3, 1) := by decide +kernel
theorem own_d1_35 : decode prog_65_method_2_code 35 = .ok (.iload_n 2, 1) := by decide +kernel
theorem own_d1_36 : decode prog_65_method_2_code 36 = .ok (.invokespecial 22, 3) := by decide +kernel
theorem own_d1_39 : decode prog_65_method_2_code 39 = .ok (.aastore, 1) := by decide +kernel
theorem own_d1_40 : decode prog_65_method_2_code 40 = .ok (.iinc 3 1, 3) := by decide +kernel
theorem own_d1_43 : decode prog_65_method_2_code 43 = .ok (.goto (-26), 3) := by decide +kernel
theorem own_d1_46 : decode prog_65_method_2_code 46 = .ok (.aload_n 0, 1) := by decide +kernel
theorem own_d1_47 : decode prog_65_method_2_code 47 = .ok (.aload_n 1, 1) := by decide +kernel
theorem own_d1_48 : decode prog_65_method_2_code 48 = .ok (.invokevirtual 25, 3) := by decide +kernel
theorem own_d1_51 : decode prog_65_method_2_code 51 = .ok (.checkcast 26, 3) := by decide +kernel
theorem own_d1_54 : decode prog_65_method_2_code 54 = .ok (.putfield 31, 3) := by decide +kernel
theorem own_d1_57 : decode prog_65_method_2_code 57 = .ok (.aload_n 0, 1) := by decide +kernel
theorem own_d1_58 : decode prog_65_method_2_code 58 = .ok (.aload_n 1, 1) := by decide +kernel
theorem own_d1_59 : decode prog_65_method_2_code 59 = .ok (.invokestatic 34, 3) := by decide +kernel
theorem own_d1_62 : decode prog_65_method_2_code 62 = .ok (.putfield 38, 3) := by decide +kernel
theorem own_d1_65 : decode prog_65_method_2_code 65 = .ok (.aload_n 0, 1) := by decide +kernel
theorem own_d1_66 : decode prog_65_method_2_code 66 = .ok (.iload_n 2, 1) := by decide +kernel
theorem own_d1_67 : decode prog_65_method_2_code 67 = .ok (.newarray .byte, 2) := by decide +kernel
theorem own_d1_69 : decode prog_65_method_2_code 69 = .ok (.putfield 41, 3) := by decide +kernel
theorem own_d1_72 : decode prog_65_method_2_code 72 = .ok (.aload_n 0, 1) := by decide +kernel
theorem own_d1_73 : decode prog_65_method_2_code 73 = .ok (.getfield 41, 3) := by decide +kernel
theorem own_d1_76 : decode prog_65_method_2_code 76 = .ok (.iconst (-1), 1) := by decide +kernel
theorem own_d1_77 : decode prog_65_method_2_code 77 = .ok (.invokestatic 47, 3) := by decide +kernel
theorem own_d1_80 : decode prog_65_method_2_code 80 = .ok (.aload_n 0, 1) := by decide +kernel
theorem own_d1_81 : decode prog_65_method_2_code 81 = .ok (.iload_n 2, 1) := by decide +kernel
theorem own_d1_82 : decode prog_65_method_2_code 82 = .ok (.newarray .boolean, 2) := by decide +kernel
theorem own_d1_84 : decode prog_65_method_2_code 84 = .ok (.putfield 53, 3) := by decide +kernel
theorem own_d1_87 : decode prog_65_method_2_code 87 = .ok (.aload_n 0, 1) := by decide +kernel
theorem own_d1_88 : decode prog_65_method_2_code 88 = .ok (.new 56, 3) := by decide +kernel
theorem own_d1_91 : decode prog_65_method_2_code 91 = .ok (.dup, 1) := by decide +kernel
theorem own_d1_92 : decode prog_65_method_2_code 92 = .ok (.iload_n 2, 1) := by decide +kernel
theorem own_d1_93 : decode prog_65_method_2_code 93 = .ok (.new 58, 3) := by decide +kernel
theorem own_d1_96 : decode prog_65_method_2_code 96 = .ok (.dup, 1) := by decide +kernel
theorem own_d1_97 : decode prog_65_method_2_code 97 = .ok (.aload_n 0, 1) := by decide +kernel
theorem own_d1_98 : decode prog_65_method_2_code 98 = .ok (.invokespecial 60, 3) := by decide +kernel
theorem own_d1_101 : decode prog_65_method_2_code 101 = .ok (.invokespecial 63, 3) := by decide +kernel
theorem own_d1_104 : decode prog_65_method_2_code 104 = .ok (.putfield 66, 3) := by decide +kernel
theorem own_d1_107 : decode prog_65_method_2_code 107 = .ok (.return_, 1) := by decide +kernel
theorem own_pd1 : parseMethodDescriptor "(Lcom/example/kingsround/kingsround/engine/Deliveries;II)V" = some ⟨[(.object "com/example/kingsround/kingsround/engine/Deliveries"), .int, .int], none⟩ := by decide +kernel
theorem own_pd2 : parseMethodDescriptor "([Z)[I" = some ⟨[(.array .boolean)], some (.array .int)⟩ := by decide +kernel
theorem own_pd3 : parseMethodDescriptor "(Lcom/example/kingsround/kingsround/engine/Deliveries;)V" = some ⟨[(.object "com/example/kingsround/kingsround/engine/Deliveries")], none⟩ := by decide +kernel
theorem own_pd4 : parseMethodDescriptor "(ILcom/example/kingsround/kingsround/engine/CheckedOutbox$Sink;)V" = some ⟨[.int, (.object "com/example/kingsround/kingsround/engine/CheckedOutbox$Sink")], none⟩ := by decide +kernel
theorem own_efini (m : MethodId) (d : Nat) (lk : Nat) : entryFrame m #[(.ref d), (.ref lk)] 4 = mkF m 0 #[rv d, rv lk, .unset, .unset] [] := by first | (simp [entryFrame, mkF, argsToLocals, Value.category]; done) | rfl
set_option maxRecDepth 65536 in
set_option maxHeartbeats 40000000 in
theorem own_rmini (l : Launch) (Z : State) (a0 : Array Value) (hw : ∀ d ∈ tables_1, d.before a0 Z = true) (d : Nat) (lk : Nat) (kk : Nat → Int32) (h0 : Heap) (n0 : Nat) (Z0 : n0 ≤ h0.size) (EE : Exa Z h0 d "com/example/kingsround/kingsround/engine/Deliveries") (Finboxes : Fld Z h0 d "com/example/kingsround/kingsround/engine/Deliveries" "inboxes" "[Lcom/example/kingsround/kingsround/engine/Deliveries$Delivered;" .null) (Fkept : Fld Z h0 d "com/example/kingsround/kingsround/engine/Deliveries" "kept" "[Z" .null) (FkeptParties : Fld Z h0 d "com/example/kingsround/kingsround/engine/Deliveries" "keptParties" "[I" .null) (FtoAll : Fld Z h0 d "com/example/kingsround/kingsround/engine/Deliveries" "toAll" "[B" .null) (FoneByOne : Fld Z h0 d "com/example/kingsround/kingsround/engine/Deliveries" "oneByOne" "[Z" .null) (Foutbox : Fld Z h0 d "com/example/kingsround/kingsround/engine/Deliveries" "outbox" "Lcom/example/kingsround/kingsround/engine/CheckedOutbox;" .null) (Fcount : Fld Z h0 d "com/example/kingsround/kingsround/engine/Deliveries" "count" "J" (.long (0 : Int64))) (A : own_AI Z h0 lk .boolean 3 kk) (EK : Exa Z h0 lk "[Z") (g_d : n0 ≤ d) (hld : lk < d) :
    own_Ct l Z (⟨"com/example/kingsround/kingsround/engine/Deliveries", "<init>", "([Z)V"⟩ : MethodName) prog_65_method_2_code 4 none ({ frames := 2, cells := 13, slots := 38, locals := 33 } : Room) #[(.ref d), (.ref lk)] h0 (fun v h L => v = none ∧ Fr n0 L ∧ Keep h0 h [d] ∧ ∃ (ib kp ta ob : Nat) (q r : Nat → Nat), own_Ad n0 d ib kp ta ob q r ∧ own_D Z h d ib kp ta ob q r kk (fun _ => -1) (fun _ => 0) (fun _ _ => -1) 0) := by
  refine own_body (y := (⟨"com/example/kingsround/kingsround/engine/Deliveries", "<init>", "([Z)V"⟩ : MethodName)) (Q := fun v h L => v = none ∧ Fr n0 L ∧ Keep h0 h [d] ∧ ∃ (ib kp ta ob : Nat) (q r : Nat → Nat), own_Ad n0 d ib kp ta ob q r ∧ own_D Z h d ib kp ta ob q r kk (fun _ => -1) (fun _ => 0) (fun _ _ => -1) 0) (plainFor_of_name own_pn1) ?_
  intro p e s m below meth c s₁ Bd hml0 hZ e0
  have hx := Bd.exec
  have hby := Bd.bytes
  have hml : c.maxLocals = 4 := hml0
  have hown : s.vm.findClass "com/example/kingsround/kingsround/engine/Deliveries" = some m.cls := findClass_of_methodNamed Bd.named
  have hnm := (name_of_methodNamed Bd.named Bd.method).1
  have X0 : Stand p l e ({ frames := 2, cells := 13, slots := 38, locals := 33 } : Room) s m #[(.ref d), (.ref lk)] below meth c s₁ [] 0 0 := Stand.of_body Bd
  have N0 := Fr.nil n0
  rw [own_efini]
  have ltd : d < h0.size := EE.lt
  have sg1 : own_V p e below s₁ (mkF m 1 #[rv d, rv lk, .unset, .unset] [(.ref d)]) (mkF m 0 #[rv d, rv lk, .unset, .unset] []) := by
    intro t kt
    refine XS.aloadN X0.here hx rfl (hb hby own_d1_0) rfl rfl ?_
    show own_S p e below s₁ m 1 #[rv d, rv lk, .unset, .unset] [(.ref d)] _
    exact kt
  refine own_st sg1 ?_
  obtain ⟨T2, X2, e2, st2⟩ := initO X0 hx hZ hown (hw _ (List.mem_of_getElem? (i := 8) rfl)) (hw _ (List.mem_of_getElem? (i := 9) rfl)) (hw _ (List.mem_of_getElem? (i := 10) rfl)) e0 (g := (mkF m 1 #[rv d, rv lk, .unset, .unset] [(.ref d)])) rfl (by rw [hml]; rfl) rfl (hb hby own_d1_1) (by decide) (W := 0) (by show 2 * 0 + _ ≤ _; exact Nat.le_of_eq rfl) (by decide)
  refine own_st st2 ?_
  show own_Go p e below _ T2 (mkF m 4 #[rv d, rv lk, .unset, .unset] [])
  have sg3 : own_V p e below T2 (mkF m 9 #[rv d, rv lk, iv (3 : Int32), .unset] [(.int (3 : Int32)), (.ref d)]) (mkF m 4 #[rv d, rv lk, .unset, .unset] []) := by
    intro t kt
    refine XS.aloadN X2.here hx rfl (hb hby own_d1_4) rfl rfl ?_
    show own_S p e below T2 m 5 #[rv d, rv lk, .unset, .unset] [(.ref lk)] _
    refine own_len (z := (3 : Int32)) X2 hx hZ e2 A (by decide) (g := (mkF m 5 #[rv d, rv lk, .unset, .unset] [(.ref lk)])) rfl rfl (hb hby own_d1_5) _ ?_
    show own_S p e below T2 m 6 #[rv d, rv lk, .unset, .unset] [(.int (3 : Int32))] _
    refine XS.istoreN X2.here hx rfl (hb hby own_d1_6) rfl (l' := #[rv d, rv lk, iv (3 : Int32), .unset]) rfl ?_
    show own_S p e below T2 m 7 #[rv d, rv lk, iv (3 : Int32), .unset] [] _
    refine XS.aloadN X2.here hx rfl (hb hby own_d1_7) rfl rfl ?_
    show own_S p e below T2 m 8 #[rv d, rv lk, iv (3 : Int32), .unset] [(.ref d)] _
    refine XS.iloadN X2.here hx rfl (hb hby own_d1_8) rfl ?_
    show own_S p e below T2 m 9 #[rv d, rv lk, iv (3 : Int32), .unset] [(.int (3 : Int32)), (.ref d)] _
    exact kt
  refine own_st sg3 ?_
  obtain ⟨T4, h4, a4, g4, X4, e4, E4, A4, O4, st4⟩ := own_newR (n := 3) X2 hx hZ hown (hw _ (List.mem_of_getElem? (i := 11) rfl)) (hw _ (List.mem_of_getElem? (i := 12) rfl)) e2 (by decide) (g := (mkF m 9 #[rv d, rv lk, iv (3 : Int32), .unset] [(.int (3 : Int32)), (.ref d)])) rfl rfl (hb hby own_d1_9) (cap := 3) (by decide) (by decide) (by decide) (by decide)
  refine own_st st4 ?_
  have g_a4 : n0 ≤ a4 := by rw [g4]; exact Z0
  have Z4 : n0 ≤ h4.size := Nat.le_trans Z0 E4.1
  show own_Go p e below _ T4 (mkF m 12 #[rv d, rv lk, iv (3 : Int32), .unset] [(.ref a4), (.ref d)])
  have ltEE_4 : d < a4 := by rw [g4]; exact EE.lt
  have KK4 : Keep h0 h4 [] := (Keep.refl _ _).ext E4
  have EE_4 := EE.keep KK4
  have AL_4 := A.keep KK4 nin0
  have EK_4 := EK.keep KK4
  have Finboxes_4 := Finboxes.keep KK4 nin0
  have Fkept_4 := Fkept.keep KK4 nin0
  have FkeptParties_4 := FkeptParties.keep KK4 nin0
  have FtoAll_4 := FtoAll.keep KK4 nin0
  have FoneByOne_4 := FoneByOne.keep KK4 nin0
  have Foutbox_4 := Foutbox.keep KK4 nin0
  have Fcount_4 := Fcount.keep KK4 nin0
  have sz4 : h0.size ≤ a4 := by rw [g4]; exact (Keep.refl h0 [d]).1
  have KD4 : Keep h0 h4 [d] := (Keep.refl h0 [d]).ext E4
  have OV : own_Ov Z h4 a4 "com/example/kingsround/kingsround/engine/Deliveries$Delivered" := O4
  obtain ⟨T5, h5, X5, e5, W5, st5⟩ := putF X4 hx hZ hown (host := "") (Or.inl (hw _ (List.mem_of_getElem? (i := 13) rfl))) Via.refl e4 Finboxes_4 EE_4 (Or.inr ⟨(hw _ (List.mem_of_getElem? (i := 14) rfl)), rfl, hnm⟩) (hw _ (List.mem_of_getElem? (i := 3) rfl)) (ty := (.array (.object "com/example/kingsround/kingsround/engine/Deliveries$Delivered"))) (by decide) rfl rfl (g := (mkF m 12 #[rv d, rv lk, iv (3 : Int32), .unset] [(.ref a4), (.ref d)])) rfl rfl (hb hby own_d1_12)
  refine own_st st5 ?_
  have Z5 : n0 ≤ h5.size := by rw [Wr.size W5]; exact Z4
  have N5 := Fr.snoc X5 N0 g_d
  show own_Go p e below _ T5 (mkF m 15 #[rv d, rv lk, iv (3 : Int32), .unset] [])
  have KK5 := Keep.of_wr W5
  have Fkept_5 := Fkept_4.other W5 (Or.inr (slot_ne (Or.inr (hw _ (List.mem_of_getElem? (i := 43) rfl))) (Or.inr (hw _ (List.mem_of_getElem? (i := 14) rfl))) (by decide) (t := (.array .boolean)) (t' := (.array (.object "com/example/kingsround/kingsround/engine/Deliveries$Delivered"))) (by decide) (by decide)))
  have FkeptParties_5 := FkeptParties_4.other W5 (Or.inr (slot_ne (Or.inr (hw _ (List.mem_of_getElem? (i := 49) rfl))) (Or.inr (hw _ (List.mem_of_getElem? (i := 14) rfl))) (by decide) (t := (.array .int)) (t' := (.array (.object "com/example/kingsround/kingsround/engine/Deliveries$Delivered"))) (by decide) (by decide)))
  have FtoAll_5 := FtoAll_4.other W5 (Or.inr (slot_ne (Or.inr (hw _ (List.mem_of_getElem? (i := 51) rfl))) (Or.inr (hw _ (List.mem_of_getElem? (i := 14) rfl))) (by decide) (t := (.array .byte)) (t' := (.array (.object "com/example/kingsround/kingsround/engine/Deliveries$Delivered"))) (by decide) (by decide)))
  have FoneByOne_5 := FoneByOne_4.other W5 (Or.inr (slot_ne (Or.inr (hw _ (List.mem_of_getElem? (i := 54) rfl))) (Or.inr (hw _ (List.mem_of_getElem? (i := 14) rfl))) (by decide) (t := (.array .boolean)) (t' := (.array (.object "com/example/kingsround/kingsround/engine/Deliveries$Delivered"))) (by decide) (by decide)))
  have Foutbox_5 := Foutbox_4.other W5 (Or.inr (slot_ne (Or.inr (hw _ (List.mem_of_getElem? (i := 76) rfl))) (Or.inr (hw _ (List.mem_of_getElem? (i := 14) rfl))) (by decide) (t := (.object "com/example/kingsround/kingsround/engine/CheckedOutbox")) (t' := (.array (.object "com/example/kingsround/kingsround/engine/Deliveries$Delivered"))) (by decide) (by decide)))
  have Fcount_5 := Fcount_4.other W5 (Or.inr (slot_ne (Or.inl (hw _ (List.mem_of_getElem? (i := 88) rfl))) (Or.inr (hw _ (List.mem_of_getElem? (i := 14) rfl))) (by decide) (t := .long) (t' := (.array (.object "com/example/kingsround/kingsround/engine/Deliveries$Delivered"))) (by decide) (by decide)))
  have EE_5 := EE_4.keep KK5
  have AL_5 := AL_4.keep KK5 (own_ninS (by omega) nin0)
  have EK_5 := EK_4.keep KK5
  have AI_5 := A4.keep KK5 (own_ninS (by omega) nin0)
  have OV_5 := OV.keep KK5
  have Finboxes_5 := Finboxes_4.same W5
  have KD5 : Keep h0 h5 [d] := KD4.wr W5 (Or.inl (List.mem_of_getElem? (i := 0) rfl))
  have sg6 : own_V p e below T5 (mkF m 17 #[rv d, rv lk, iv (3 : Int32), iv (1 : Int32)] []) (mkF m 15 #[rv d, rv lk, iv (3 : Int32), .unset] []) := by
    intro t kt
    refine XS.iconst X5.here hx rfl (hb hby own_d1_15) ?_
    show own_S p e below T5 m 16 #[rv d, rv lk, iv (3 : Int32), .unset] [(.int (1 : Int32))] _
    refine XS.istoreN X5.here hx rfl (hb hby own_d1_16) rfl (l' := #[rv d, rv lk, iv (3 : Int32), iv (1 : Int32)]) rfl ?_
    show own_S p e below T5 m 17 #[rv d, rv lk, iv (3 : Int32), iv (1 : Int32)] [] _
    exact kt
  refine own_st sg6 ?_
  have sg7 : own_V p e below T5 (mkF m 19 #[rv d, rv lk, iv (3 : Int32), iv (1 : Int32)] [(.int (3 : Int32)), (.int (1 : Int32))]) (mkF m 17 #[rv d, rv lk, iv (3 : Int32), iv (1 : Int32)] []) := by
    intro t kt
    refine XS.iloadN X5.here hx rfl (hb hby own_d1_17) rfl ?_
    show own_S p e below T5 m 18 #[rv d, rv lk, iv (3 : Int32), iv (1 : Int32)] [(.int (1 : Int32))] _
    refine XS.iloadN X5.here hx rfl (hb hby own_d1_18) rfl ?_
    show own_S p e below T5 m 19 #[rv d, rv lk, iv (3 : Int32), iv (1 : Int32)] [(.int (3 : Int32)), (.int (1 : Int32))] _
    exact kt
  refine own_st sg7 ?_
  have sg9 : own_V p e below T5 (mkF m 22 #[rv d, rv lk, iv (3 : Int32), iv (1 : Int32)] []) (mkF m 19 #[rv d, rv lk, iv (3 : Int32), iv (1 : Int32)] [(.int (3 : Int32)), (.int (1 : Int32))]) := by
    intro t kt
    refine XS.icmpNo X5.here hx rfl (hb hby own_d1_19) rfl (flt (by decide : ¬ (3 : Int32) < (1 : Int32))).2.2.1 ?_
    exact kt
  refine own_st sg9 ?_
  have sg10 : own_V p e below T5 (mkF m 23 #[rv d, rv lk, iv (3 : Int32), iv (1 : Int32)] [(.ref d)]) (mkF m 22 #[rv d, rv lk, iv (3 : Int32), iv (1 : Int32)] []) := by
    intro t kt
    refine XS.aloadN X5.here hx rfl (hb hby own_d1_22) rfl rfl ?_
    show own_S p e below T5 m 23 #[rv d, rv lk, iv (3 : Int32), iv (1 : Int32)] [(.ref d)] _
    exact kt
  refine own_st sg10 ?_
  obtain ⟨T11, X11, e11, st11⟩ := getF X5 hx hZ hown (host := "") (Or.inl (hw _ (List.mem_of_getElem? (i := 13) rfl))) Via.refl e5 Finboxes_5 (g := (mkF m 23 #[rv d, rv lk, iv (3 : Int32), iv (1 : Int32)] [(.ref d)])) rfl rfl (hb hby own_d1_23)
  refine own_st st11 ?_
  show own_Go p e below _ T11 (mkF m 26 #[rv d, rv lk, iv (3 : Int32), iv (1 : Int32)] [(.ref a4)])
  have sg12 : own_V p e below T11 (mkF m 29 #[rv d, rv lk, iv (3 : Int32), iv (1 : Int32)] [(.int ((1 : Int32) - (1 : Int32))), (.ref a4)]) (mkF m 26 #[rv d, rv lk, iv (3 : Int32), iv (1 : Int32)] [(.ref a4)]) := by
    intro t kt
    refine XS.iloadN X11.here hx rfl (hb hby own_d1_26) rfl ?_
    show own_S p e below T11 m 27 #[rv d, rv lk, iv (3 : Int32), iv (1 : Int32)] [(.int (1 : Int32)), (.ref a4)] _
    refine XS.iconst X11.here hx rfl (hb hby own_d1_27) ?_
    show own_S p e below T11 m 28 #[rv d, rv lk, iv (3 : Int32), iv (1 : Int32)] [(.int (1 : Int32)), (.int (1 : Int32)), (.ref a4)] _
    refine XS.isub X11.here hx rfl (hb hby own_d1_28) rfl ?_
    show own_S p e below T11 m 29 #[rv d, rv lk, iv (3 : Int32), iv (1 : Int32)] [(.int ((1 : Int32) - (1 : Int32))), (.ref a4)] _
    exact kt
  refine own_st sg12 ?_
  obtain ⟨T13, h13, X13, e13, E13, A13, D13, -, st13⟩ := newO X11 hx hZ hown (hw _ (List.mem_of_getElem? (i := 11) rfl)) (hw _ (List.mem_of_getElem? (i := 15) rfl)) (hw _ (List.mem_of_getElem? (i := 16) rfl)) e11 (g := (mkF m 29 #[rv d, rv lk, iv (3 : Int32), iv (1 : Int32)] [(.int ((1 : Int32) - (1 : Int32))), (.ref a4)])) rfl (hb hby own_d1_29) (by decide) (by decide)
  obtain ⟨a13, g13⟩ : ∃ z, z = h5.size := ⟨_, rfl⟩
  rw [← g13] at A13 D13 st13
  refine own_st st13 ?_
  have g_a13 : n0 ≤ a13 := by rw [g13]; exact Z5
  have Z13 : n0 ≤ h13.size := Nat.le_trans Z5 E13.1
  show own_Go p e below _ T13 (mkF m 32 #[rv d, rv lk, iv (3 : Int32), iv (1 : Int32)] [(.ref a13), (.int ((1 : Int32) - (1 : Int32))), (.ref a4)])
  have ltAI_13 : a4 < a13 := by rw [g13]; exact AI_5.lt
  have KK13 : Keep h5 h13 [] := (Keep.refl _ _).ext E13
  have EE_13 := EE_5.keep KK13
  have AL_13 := AL_5.keep KK13 nin0
  have EK_13 := EK_5.keep KK13
  have Finboxes_13 := Finboxes_5.keep KK13 nin0
  have Fkept_13 := Fkept_5.keep KK13 nin0
  have FkeptParties_13 := FkeptParties_5.keep KK13 nin0
  have FtoAll_13 := FtoAll_5.keep KK13 nin0
  have FoneByOne_13 := FoneByOne_5.keep KK13 nin0
  have Foutbox_13 := Foutbox_5.keep KK13 nin0
  have Fcount_13 := Fcount_5.keep KK13 nin0
  have AI_13 := AI_5.keep KK13 nin0
  have OV_13 := OV_5.keep KK13
  have sz13 : h0.size ≤ a13 := by rw [g13]; exact KD5.1
  have KD13 : Keep h0 h13 [d] := KD5.ext E13
  have Gthis00 : Fld Z h13 a13 "com/example/kingsround/kingsround/engine/Deliveries$Delivered" "this$0" "Lcom/example/kingsround/kingsround/engine/Deliveries;" .null := D13 (Or.inr (hw _ (List.mem_of_getElem? (i := 21) rfl))) (ty := (.object "com/example/kingsround/kingsround/engine/Deliveries")) (by decide)
  have Gto0 : Fld Z h13 a13 "com/example/kingsround/kingsround/engine/Deliveries$Delivered" "to" "I" (.int (0 : Int32)) := D13 (Or.inr (hw _ (List.mem_of_getElem? (i := 24) rfl))) (ty := .int) (by decide)
  have Greceived0 : Fld Z h13 a13 "com/example/kingsround/kingsround/engine/Deliveries$Delivered" "received" "[B" .null := D13 (Or.inr (hw _ (List.mem_of_getElem? (i := 27) rfl))) (ty := (.array .byte)) (by decide)
  have sg14 : own_V p e below T13 (mkF m 36 #[rv d, rv lk, iv (3 : Int32), iv (1 : Int32)] [(.int (3 : Int32)), (.int (1 : Int32)), (.ref d), (.ref a13), (.ref a13), (.int ((1 : Int32) - (1 : Int32))), (.ref a4)]) (mkF m 32 #[rv d, rv lk, iv (3 : Int32), iv (1 : Int32)] [(.ref a13), (.int ((1 : Int32) - (1 : Int32))), (.ref a4)]) := by
    intro t kt
    refine XS.dup X13.here hx rfl (hb hby own_d1_32) rfl rfl ?_
    show own_S p e below T13 m 33 #[rv d, rv lk, iv (3 : Int32), iv (1 : Int32)] [(.ref a13), (.ref a13), (.int ((1 : Int32) - (1 : Int32))), (.ref a4)] _
    refine XS.aloadN X13.here hx rfl (hb hby own_d1_33) rfl rfl ?_
    show own_S p e below T13 m 34 #[rv d, rv lk, iv (3 : Int32), iv (1 : Int32)] [(.ref d), (.ref a13), (.ref a13), (.int ((1 : Int32) - (1 : Int32))), (.ref a4)] _
    refine XS.iloadN X13.here hx rfl (hb hby own_d1_34) rfl ?_
    show own_S p e below T13 m 35 #[rv d, rv lk, iv (3 : Int32), iv (1 : Int32)] [(.int (1 : Int32)), (.ref d), (.ref a13), (.ref a13), (.int ((1 : Int32) - (1 : Int32))), (.ref a4)] _
    refine XS.iloadN X13.here hx rfl (hb hby own_d1_35) rfl ?_
    show own_S p e below T13 m 36 #[rv d, rv lk, iv (3 : Int32), iv (1 : Int32)] [(.int (3 : Int32)), (.int (1 : Int32)), (.ref d), (.ref a13), (.ref a13), (.int ((1 : Int32) - (1 : Int32))), (.ref a4)] _
    exact kt
  refine own_st sg14 ?_
  obtain ⟨_, T15, L15, X15, hQ15, st15⟩ := own_callI (y := (⟨"com/example/kingsround/kingsround/engine/Deliveries$Delivered", "<init>", "(Lcom/example/kingsround/kingsround/engine/Deliveries;II)V"⟩ : MethodName)) (a := a13) X13 hx hZ hown rfl (hw _ (List.mem_of_getElem? (i := 17) rfl)) (hw _ (List.mem_of_getElem? (i := 18) rfl)) (hw _ (List.mem_of_getElem? (i := 16) rfl)) (hw _ (List.mem_of_getElem? (i := 19) rfl)) (by decide) (own_rmdv l Z a0 hw a13 d (1 : Int32) (3 : Int32) h13 n0 Z13 A13 Gthis00 Gto0 Greceived0 g_a13 rfl) e13 (g := (mkF m 36 #[rv d, rv lk, iv (3 : Int32), iv (1 : Int32)] [(.int (3 : Int32)), (.int (1 : Int32)), (.ref d), (.ref a13), (.ref a13), (.int ((1 : Int32) - (1 : Int32))), (.ref a4)])) rfl (by rw [hml]; rfl) (argsL := [(.ref d), (.int (1 : Int32)), (.int (3 : Int32))]) (rest := [(.ref a13), (.int ((1 : Int32) - (1 : Int32))), (.ref a4)]) (lenOf own_pd1 rfl) rfl (W := 3) (by show 2 * 0 + _ ≤ _; exact Nat.le_of_eq rfl) (hb hby own_d1_36) (by decide) (by decide) (by decide) (by decide)
  obtain ⟨rfl, Nq15, K15, r15, szr15, DV15⟩ := hQ15
  refine own_st st15 ?_
  have Z15 : n0 ≤ T15.heap.size := Nat.le_trans Z13 K15.1
  have N15 := Fr.app N5 Nq15
  show own_Go p e below _ T15 (mkF m 39 #[rv d, rv lk, iv (3 : Int32), iv (1 : Int32)] [(.ref a13), (.int ((1 : Int32) - (1 : Int32))), (.ref a4)])
  have KD15 : Keep h0 T15.heap [d] := KD13.trans K15 (allS (Or.inr sz13) all0)
  have lq15 : a13 < r15 := Nat.lt_of_lt_of_le A13.lt szr15
  have EE_15 := EE_13.keep K15
  have AL_15 := AL_13.keep K15 (own_ninS (by omega) nin0)
  have EK_15 := EK_13.keep K15
  have Finboxes_15 := Finboxes_13.keep K15 (own_ninS (by omega) nin0)
  have Fkept_15 := Fkept_13.keep K15 (own_ninS (by omega) nin0)
  have FkeptParties_15 := FkeptParties_13.keep K15 (own_ninS (by omega) nin0)
  have FtoAll_15 := FtoAll_13.keep K15 (own_ninS (by omega) nin0)
  have FoneByOne_15 := FoneByOne_13.keep K15 (own_ninS (by omega) nin0)
  have Foutbox_15 := Foutbox_13.keep K15 (own_ninS (by omega) nin0)
  have Fcount_15 := Fcount_13.keep K15 (own_ninS (by omega) nin0)
  have AI_15 := AI_13.keep K15 (own_ninS (by omega) nin0)
  have OV_15 := OV_13.keep K15
  have EQ_15 := A13.keep K15
  have DW15 : own_Dv Z T15.heap a13 r15 d (Int32.ofNat (0 + 1)) (fun _ => -1) := DV15
  obtain ⟨T16, h16, X16, e16, W16, A16, st16⟩ := own_wrR X15 hx hZ rfl AI_15 rfl rfl (OV_15.sto AI_15 (Ins.self DW15.1)) (k := 0) (by decide) (by decide) (g := (mkF m 39 #[rv d, rv lk, iv (3 : Int32), iv (1 : Int32)] [(.ref a13), (.int ((1 : Int32) - (1 : Int32))), (.ref a4)])) rfl rfl (hb hby own_d1_39)
  refine own_st st16 ?_
  have Z16 : n0 ≤ h16.size := by rw [Wr.size W16]; exact Z15
  have N16 := Fr.snoc X16 N15 g_a4
  show own_Go p e below _ T16 (mkF m 40 #[rv d, rv lk, iv (3 : Int32), iv (1 : Int32)] [])
  have KK16 := Keep.of_wr W16
  have EE_16 := EE_15.keep KK16
  have AL_16 := AL_15.keep KK16 (own_ninS (by omega) nin0)
  have EK_16 := EK_15.keep KK16
  have Finboxes_16 := Finboxes_15.keep KK16 (own_ninS (by omega) nin0)
  have Fkept_16 := Fkept_15.keep KK16 (own_ninS (by omega) nin0)
  have FkeptParties_16 := FkeptParties_15.keep KK16 (own_ninS (by omega) nin0)
  have FtoAll_16 := FtoAll_15.keep KK16 (own_ninS (by omega) nin0)
  have FoneByOne_16 := FoneByOne_15.keep KK16 (own_ninS (by omega) nin0)
  have Foutbox_16 := Foutbox_15.keep KK16 (own_ninS (by omega) nin0)
  have Fcount_16 := Fcount_15.keep KK16 (own_ninS (by omega) nin0)
  have OV_16 := OV_15.keep KK16
  have DV0_16 := DW15.keep KK16 (own_ninS (by omega) nin0) (own_ninS (by omega) nin0)
  have KD16 : Keep h0 h16 [d] := KD15.wr W16 (Or.inr sz4)
  have sg17 : own_V p e below T16 (mkF m 17 #[rv d, rv lk, iv (3 : Int32), iv ((1 : Int32) + (1 : Int32))] []) (mkF m 40 #[rv d, rv lk, iv (3 : Int32), iv (1 : Int32)] []) := by
    intro t kt
    refine XS.iinc X16.here hx rfl (hb hby own_d1_40) rfl (l' := #[rv d, rv lk, iv (3 : Int32), iv ((1 : Int32) + (1 : Int32))]) rfl ?_
    show own_S p e below T16 m 43 #[rv d, rv lk, iv (3 : Int32), iv ((1 : Int32) + (1 : Int32))] [] _
    refine XS.goto X16.here hx rfl (pc0 := 43) (pc' := 17) rfl (hb hby own_d1_43) (by decide) (by decide) ?_
    show own_S p e below T16 m 17 #[rv d, rv lk, iv (3 : Int32), iv ((1 : Int32) + (1 : Int32))] [] _
    exact kt
  refine own_st sg17 ?_
  have sg18 : own_V p e below T16 (mkF m 19 #[rv d, rv lk, iv (3 : Int32), iv ((1 : Int32) + (1 : Int32))] [(.int (3 : Int32)), (.int ((1 : Int32) + (1 : Int32)))]) (mkF m 17 #[rv d, rv lk, iv (3 : Int32), iv ((1 : Int32) + (1 : Int32))] []) := by
    intro t kt
    refine XS.iloadN X16.here hx rfl (hb hby own_d1_17) rfl ?_
    show own_S p e below T16 m 18 #[rv d, rv lk, iv (3 : Int32), iv ((1 : Int32) + (1 : Int32))] [(.int ((1 : Int32) + (1 : Int32)))] _
    refine XS.iloadN X16.here hx rfl (hb hby own_d1_18) rfl ?_
    show own_S p e below T16 m 19 #[rv d, rv lk, iv (3 : Int32), iv ((1 : Int32) + (1 : Int32))] [(.int (3 : Int32)), (.int ((1 : Int32) + (1 : Int32)))] _
    exact kt
  refine own_st sg18 ?_
  have sg20 : own_V p e below T16 (mkF m 22 #[rv d, rv lk, iv (3 : Int32), iv ((1 : Int32) + (1 : Int32))] []) (mkF m 19 #[rv d, rv lk, iv (3 : Int32), iv ((1 : Int32) + (1 : Int32))] [(.int (3 : Int32)), (.int ((1 : Int32) + (1 : Int32)))]) := by
    intro t kt
    refine XS.icmpNo X16.here hx rfl (hb hby own_d1_19) rfl (flt (by decide : ¬ (3 : Int32) < ((1 : Int32) + (1 : Int32)))).2.2.1 ?_
    exact kt
  refine own_st sg20 ?_
  have sg21 : own_V p e below T16 (mkF m 23 #[rv d, rv lk, iv (3 : Int32), iv ((1 : Int32) + (1 : Int32))] [(.ref d)]) (mkF m 22 #[rv d, rv lk, iv (3 : Int32), iv ((1 : Int32) + (1 : Int32))] []) := by
    intro t kt
    refine XS.aloadN X16.here hx rfl (hb hby own_d1_22) rfl rfl ?_
    show own_S p e below T16 m 23 #[rv d, rv lk, iv (3 : Int32), iv ((1 : Int32) + (1 : Int32))] [(.ref d)] _
    exact kt
  refine own_st sg21 ?_
  obtain ⟨T22, X22, e22, st22⟩ := getF X16 hx hZ hown (host := "") (Or.inl (hw _ (List.mem_of_getElem? (i := 13) rfl))) Via.refl e16 Finboxes_16 (g := (mkF m 23 #[rv d, rv lk, iv (3 : Int32), iv ((1 : Int32) + (1 : Int32))] [(.ref d)])) rfl rfl (hb hby own_d1_23)
  refine own_st st22 ?_
  show own_Go p e below _ T22 (mkF m 26 #[rv d, rv lk, iv (3 : Int32), iv ((1 : Int32) + (1 : Int32))] [(.ref a4)])
  have sg23 : own_V p e below T22 (mkF m 29 #[rv d, rv lk, iv (3 : Int32), iv ((1 : Int32) + (1 : Int32))] [(.int (((1 : Int32) + (1 : Int32)) - (1 : Int32))), (.ref a4)]) (mkF m 26 #[rv d, rv lk, iv (3 : Int32), iv ((1 : Int32) + (1 : Int32))] [(.ref a4)]) := by
    intro t kt
    refine XS.iloadN X22.here hx rfl (hb hby own_d1_26) rfl ?_
    show own_S p e below T22 m 27 #[rv d, rv lk, iv (3 : Int32), iv ((1 : Int32) + (1 : Int32))] [(.int ((1 : Int32) + (1 : Int32))), (.ref a4)] _
    refine XS.iconst X22.here hx rfl (hb hby own_d1_27) ?_
    show own_S p e below T22 m 28 #[rv d, rv lk, iv (3 : Int32), iv ((1 : Int32) + (1 : Int32))] [(.int (1 : Int32)), (.int ((1 : Int32) + (1 : Int32))), (.ref a4)] _
    refine XS.isub X22.here hx rfl (hb hby own_d1_28) rfl ?_
    show own_S p e below T22 m 29 #[rv d, rv lk, iv (3 : Int32), iv ((1 : Int32) + (1 : Int32))] [(.int (((1 : Int32) + (1 : Int32)) - (1 : Int32))), (.ref a4)] _
    exact kt
  refine own_st sg23 ?_
  obtain ⟨T24, h24, X24, e24, E24, A24, D24, -, st24⟩ := newO X22 hx hZ hown (hw _ (List.mem_of_getElem? (i := 11) rfl)) (hw _ (List.mem_of_getElem? (i := 15) rfl)) (hw _ (List.mem_of_getElem? (i := 16) rfl)) e22 (g := (mkF m 29 #[rv d, rv lk, iv (3 : Int32), iv ((1 : Int32) + (1 : Int32))] [(.int (((1 : Int32) + (1 : Int32)) - (1 : Int32))), (.ref a4)])) rfl (hb hby own_d1_29) (by decide) (by decide)
  obtain ⟨a24, g24⟩ : ∃ z, z = h16.size := ⟨_, rfl⟩
  rw [← g24] at A24 D24 st24
  refine own_st st24 ?_
  have g_a24 : n0 ≤ a24 := by rw [g24]; exact Z16
  have Z24 : n0 ≤ h24.size := Nat.le_trans Z16 E24.1
  show own_Go p e below _ T24 (mkF m 32 #[rv d, rv lk, iv (3 : Int32), iv ((1 : Int32) + (1 : Int32))] [(.ref a24), (.int (((1 : Int32) + (1 : Int32)) - (1 : Int32))), (.ref a4)])
  have ltDV0_24 : r15 < a24 := by rw [g24]; exact DV0_16.2.2.2.2.lt
  have KK24 : Keep h16 h24 [] := (Keep.refl _ _).ext E24
  have EE_24 := EE_16.keep KK24
  have AL_24 := AL_16.keep KK24 nin0
  have EK_24 := EK_16.keep KK24
  have Finboxes_24 := Finboxes_16.keep KK24 nin0
  have Fkept_24 := Fkept_16.keep KK24 nin0
  have FkeptParties_24 := FkeptParties_16.keep KK24 nin0
  have FtoAll_24 := FtoAll_16.keep KK24 nin0
  have FoneByOne_24 := FoneByOne_16.keep KK24 nin0
  have Foutbox_24 := Foutbox_16.keep KK24 nin0
  have Fcount_24 := Fcount_16.keep KK24 nin0
  have AI_24 := A16.keep KK24 nin0
  have OV_24 := OV_16.keep KK24
  have DV0_24 := DV0_16.keep KK24 nin0 nin0
  have sz24 : h0.size ≤ a24 := by rw [g24]; exact KD16.1
  have KD24 : Keep h0 h24 [d] := KD16.ext E24
  have Gthis01 : Fld Z h24 a24 "com/example/kingsround/kingsround/engine/Deliveries$Delivered" "this$0" "Lcom/example/kingsround/kingsround/engine/Deliveries;" .null := D24 (Or.inr (hw _ (List.mem_of_getElem? (i := 21) rfl))) (ty := (.object "com/example/kingsround/kingsround/engine/Deliveries")) (by decide)
  have Gto1 : Fld Z h24 a24 "com/example/kingsround/kingsround/engine/Deliveries$Delivered" "to" "I" (.int (0 : Int32)) := D24 (Or.inr (hw _ (List.mem_of_getElem? (i := 24) rfl))) (ty := .int) (by decide)
  have Greceived1 : Fld Z h24 a24 "com/example/kingsround/kingsround/engine/Deliveries$Delivered" "received" "[B" .null := D24 (Or.inr (hw _ (List.mem_of_getElem? (i := 27) rfl))) (ty := (.array .byte)) (by decide)
  have sg25 : own_V p e below T24 (mkF m 36 #[rv d, rv lk, iv (3 : Int32), iv ((1 : Int32) + (1 : Int32))] [(.int (3 : Int32)), (.int ((1 : Int32) + (1 : Int32))), (.ref d), (.ref a24), (.ref a24), (.int (((1 : Int32) + (1 : Int32)) - (1 : Int32))), (.ref a4)]) (mkF m 32 #[rv d, rv lk, iv (3 : Int32), iv ((1 : Int32) + (1 : Int32))] [(.ref a24), (.int (((1 : Int32) + (1 : Int32)) - (1 : Int32))), (.ref a4)]) := by
    intro t kt
    refine XS.dup X24.here hx rfl (hb hby own_d1_32) rfl rfl ?_
    show own_S p e below T24 m 33 #[rv d, rv lk, iv (3 : Int32), iv ((1 : Int32) + (1 : Int32))] [(.ref a24), (.ref a24), (.int (((1 : Int32) + (1 : Int32)) - (1 : Int32))), (.ref a4)] _
    refine XS.aloadN X24.here hx rfl (hb hby own_d1_33) rfl rfl ?_
    show own_S p e below T24 m 34 #[rv d, rv lk, iv (3 : Int32), iv ((1 : Int32) + (1 : Int32))] [(.ref d), (.ref a24), (.ref a24), (.int (((1 : Int32) + (1 : Int32)) - (1 : Int32))), (.ref a4)] _
    refine XS.iloadN X24.here hx rfl (hb hby own_d1_34) rfl ?_
    show own_S p e below T24 m 35 #[rv d, rv lk, iv (3 : Int32), iv ((1 : Int32) + (1 : Int32))] [(.int ((1 : Int32) + (1 : Int32))), (.ref d), (.ref a24), (.ref a24), (.int (((1 : Int32) + (1 : Int32)) - (1 : Int32))), (.ref a4)] _
    refine XS.iloadN X24.here hx rfl (hb hby own_d1_35) rfl ?_
    show own_S p e below T24 m 36 #[rv d, rv lk, iv (3 : Int32), iv ((1 : Int32) + (1 : Int32))] [(.int (3 : Int32)), (.int ((1 : Int32) + (1 : Int32))), (.ref d), (.ref a24), (.ref a24), (.int (((1 : Int32) + (1 : Int32)) - (1 : Int32))), (.ref a4)] _
    exact kt
  refine own_st sg25 ?_
  obtain ⟨_, T26, L26, X26, hQ26, st26⟩ := own_callI (y := (⟨"com/example/kingsround/kingsround/engine/Deliveries$Delivered", "<init>", "(Lcom/example/kingsround/kingsround/engine/Deliveries;II)V"⟩ : MethodName)) (a := a24) X24 hx hZ hown rfl (hw _ (List.mem_of_getElem? (i := 17) rfl)) (hw _ (List.mem_of_getElem? (i := 18) rfl)) (hw _ (List.mem_of_getElem? (i := 16) rfl)) (hw _ (List.mem_of_getElem? (i := 19) rfl)) (by decide) (own_rmdv l Z a0 hw a24 d ((1 : Int32) + (1 : Int32)) (3 : Int32) h24 n0 Z24 A24 Gthis01 Gto1 Greceived1 g_a24 rfl) e24 (g := (mkF m 36 #[rv d, rv lk, iv (3 : Int32), iv ((1 : Int32) + (1 : Int32))] [(.int (3 : Int32)), (.int ((1 : Int32) + (1 : Int32))), (.ref d), (.ref a24), (.ref a24), (.int (((1 : Int32) + (1 : Int32)) - (1 : Int32))), (.ref a4)])) rfl (by rw [hml]; rfl) (argsL := [(.ref d), (.int ((1 : Int32) + (1 : Int32))), (.int (3 : Int32))]) (rest := [(.ref a24), (.int (((1 : Int32) + (1 : Int32)) - (1 : Int32))), (.ref a4)]) (lenOf own_pd1 rfl) rfl (W := 3) (by show 2 * 0 + _ ≤ _; exact Nat.le_of_eq rfl) (hb hby own_d1_36) (by decide) (by decide) (by decide) (by decide)
  obtain ⟨rfl, Nq26, K26, r26, szr26, DV26⟩ := hQ26
  refine own_st st26 ?_
  have Z26 : n0 ≤ T26.heap.size := Nat.le_trans Z24 K26.1
  have N26 := Fr.app N16 Nq26
  show own_Go p e below _ T26 (mkF m 39 #[rv d, rv lk, iv (3 : Int32), iv ((1 : Int32) + (1 : Int32))] [(.ref a24), (.int (((1 : Int32) + (1 : Int32)) - (1 : Int32))), (.ref a4)])
  have KD26 : Keep h0 T26.heap [d] := KD24.trans K26 (allS (Or.inr sz24) all0)
  have lq26 : a24 < r26 := Nat.lt_of_lt_of_le A24.lt szr26
  have EE_26 := EE_24.keep K26
  have AL_26 := AL_24.keep K26 (own_ninS (by omega) nin0)
  have EK_26 := EK_24.keep K26
  have Finboxes_26 := Finboxes_24.keep K26 (own_ninS (by omega) nin0)
  have Fkept_26 := Fkept_24.keep K26 (own_ninS (by omega) nin0)
  have FkeptParties_26 := FkeptParties_24.keep K26 (own_ninS (by omega) nin0)
  have FtoAll_26 := FtoAll_24.keep K26 (own_ninS (by omega) nin0)
  have FoneByOne_26 := FoneByOne_24.keep K26 (own_ninS (by omega) nin0)
  have Foutbox_26 := Foutbox_24.keep K26 (own_ninS (by omega) nin0)
  have Fcount_26 := Fcount_24.keep K26 (own_ninS (by omega) nin0)
  have AI_26 := AI_24.keep K26 (own_ninS (by omega) nin0)
  have OV_26 := OV_24.keep K26
  have DV0_26 := DV0_24.keep K26 (own_ninS (by omega) nin0) (own_ninS (by omega) nin0)
  have EQ_26 := A24.keep K26
  have DW26 : own_Dv Z T26.heap a24 r26 d (Int32.ofNat (1 + 1)) (fun _ => -1) := DV26
  obtain ⟨T27, h27, X27, e27, W27, A27, st27⟩ := own_wrR X26 hx hZ rfl AI_26 rfl rfl (OV_26.sto AI_26 (Ins.self DW26.1)) (k := 1) (by decide) (by decide) (g := (mkF m 39 #[rv d, rv lk, iv (3 : Int32), iv ((1 : Int32) + (1 : Int32))] [(.ref a24), (.int (((1 : Int32) + (1 : Int32)) - (1 : Int32))), (.ref a4)])) rfl rfl (hb hby own_d1_39)
  refine own_st st27 ?_
  have Z27 : n0 ≤ h27.size := by rw [Wr.size W27]; exact Z26
  have N27 := Fr.snoc X27 N26 g_a4
  show own_Go p e below _ T27 (mkF m 40 #[rv d, rv lk, iv (3 : Int32), iv ((1 : Int32) + (1 : Int32))] [])
  have KK27 := Keep.of_wr W27
  have EE_27 := EE_26.keep KK27
  have AL_27 := AL_26.keep KK27 (own_ninS (by omega) nin0)
  have EK_27 := EK_26.keep KK27
  have Finboxes_27 := Finboxes_26.keep KK27 (own_ninS (by omega) nin0)
  have Fkept_27 := Fkept_26.keep KK27 (own_ninS (by omega) nin0)
  have FkeptParties_27 := FkeptParties_26.keep KK27 (own_ninS (by omega) nin0)
  have FtoAll_27 := FtoAll_26.keep KK27 (own_ninS (by omega) nin0)
  have FoneByOne_27 := FoneByOne_26.keep KK27 (own_ninS (by omega) nin0)
  have Foutbox_27 := Foutbox_26.keep KK27 (own_ninS (by omega) nin0)
  have Fcount_27 := Fcount_26.keep KK27 (own_ninS (by omega) nin0)
  have OV_27 := OV_26.keep KK27
  have DV0_27 := DV0_26.keep KK27 (own_ninS (by omega) nin0) (own_ninS (by omega) nin0)
  have DV1_27 := DW26.keep KK27 (own_ninS (by omega) nin0) (own_ninS (by omega) nin0)
  have KD27 : Keep h0 h27 [d] := KD26.wr W27 (Or.inr sz4)
  have sg28 : own_V p e below T27 (mkF m 17 #[rv d, rv lk, iv (3 : Int32), iv (((1 : Int32) + (1 : Int32)) + (1 : Int32))] []) (mkF m 40 #[rv d, rv lk, iv (3 : Int32), iv ((1 : Int32) + (1 : Int32))] []) := by
    intro t kt
    refine XS.iinc X27.here hx rfl (hb hby own_d1_40) rfl (l' := #[rv d, rv lk, iv (3 : Int32), iv (((1 : Int32) + (1 : Int32)) + (1 : Int32))]) rfl ?_
    show own_S p e below T27 m 43 #[rv d, rv lk, iv (3 : Int32), iv (((1 : Int32) + (1 : Int32)) + (1 : Int32))] [] _
    refine XS.goto X27.here hx rfl (pc0 := 43) (pc' := 17) rfl (hb hby own_d1_43) (by decide) (by decide) ?_
    show own_S p e below T27 m 17 #[rv d, rv lk, iv (3 : Int32), iv (((1 : Int32) + (1 : Int32)) + (1 : Int32))] [] _
    exact kt
  refine own_st sg28 ?_
  have sg29 : own_V p e below T27 (mkF m 19 #[rv d, rv lk, iv (3 : Int32), iv (((1 : Int32) + (1 : Int32)) + (1 : Int32))] [(.int (3 : Int32)), (.int (((1 : Int32) + (1 : Int32)) + (1 : Int32)))]) (mkF m 17 #[rv d, rv lk, iv (3 : Int32), iv (((1 : Int32) + (1 : Int32)) + (1 : Int32))] []) := by
    intro t kt
    refine XS.iloadN X27.here hx rfl (hb hby own_d1_17) rfl ?_
    show own_S p e below T27 m 18 #[rv d, rv lk, iv (3 : Int32), iv (((1 : Int32) + (1 : Int32)) + (1 : Int32))] [(.int (((1 : Int32) + (1 : Int32)) + (1 : Int32)))] _
    refine XS.iloadN X27.here hx rfl (hb hby own_d1_18) rfl ?_
    show own_S p e below T27 m 19 #[rv d, rv lk, iv (3 : Int32), iv (((1 : Int32) + (1 : Int32)) + (1 : Int32))] [(.int (3 : Int32)), (.int (((1 : Int32) + (1 : Int32)) + (1 : Int32)))] _
    exact kt
  refine own_st sg29 ?_
  have sg31 : own_V p e below T27 (mkF m 22 #[rv d, rv lk, iv (3 : Int32), iv (((1 : Int32) + (1 : Int32)) + (1 : Int32))] []) (mkF m 19 #[rv d, rv lk, iv (3 : Int32), iv (((1 : Int32) + (1 : Int32)) + (1 : Int32))] [(.int (3 : Int32)), (.int (((1 : Int32) + (1 : Int32)) + (1 : Int32)))]) := by
    intro t kt
    refine XS.icmpNo X27.here hx rfl (hb hby own_d1_19) rfl (flt (by decide : ¬ (3 : Int32) < (((1 : Int32) + (1 : Int32)) + (1 : Int32)))).2.2.1 ?_
    exact kt
  refine own_st sg31 ?_
  have sg32 : own_V p e below T27 (mkF m 23 #[rv d, rv lk, iv (3 : Int32), iv (((1 : Int32) + (1 : Int32)) + (1 : Int32))] [(.ref d)]) (mkF m 22 #[rv d, rv lk, iv (3 : Int32), iv (((1 : Int32) + (1 : Int32)) + (1 : Int32))] []) := by
    intro t kt
    refine XS.aloadN X27.here hx rfl (hb hby own_d1_22) rfl rfl ?_
    show own_S p e below T27 m 23 #[rv d, rv lk, iv (3 : Int32), iv (((1 : Int32) + (1 : Int32)) + (1 : Int32))] [(.ref d)] _
    exact kt
  refine own_st sg32 ?_
  obtain ⟨T33, X33, e33, st33⟩ := getF X27 hx hZ hown (host := "") (Or.inl (hw _ (List.mem_of_getElem? (i := 13) rfl))) Via.refl e27 Finboxes_27 (g := (mkF m 23 #[rv d, rv lk, iv (3 : Int32), iv (((1 : Int32) + (1 : Int32)) + (1 : Int32))] [(.ref d)])) rfl rfl (hb hby own_d1_23)
  refine own_st st33 ?_
  show own_Go p e below _ T33 (mkF m 26 #[rv d, rv lk, iv (3 : Int32), iv (((1 : Int32) + (1 : Int32)) + (1 : Int32))] [(.ref a4)])
  have sg34 : own_V p e below T33 (mkF m 29 #[rv d, rv lk, iv (3 : Int32), iv (((1 : Int32) + (1 : Int32)) + (1 : Int32))] [(.int ((((1 : Int32) + (1 : Int32)) + (1 : Int32)) - (1 : Int32))), (.ref a4)]) (mkF m 26 #[rv d, rv lk, iv (3 : Int32), iv (((1 : Int32) + (1 : Int32)) + (1 : Int32))] [(.ref a4)]) := by
    intro t kt
    refine XS.iloadN X33.here hx rfl (hb hby own_d1_26) rfl ?_
    show own_S p e below T33 m 27 #[rv d, rv lk, iv (3 : Int32), iv (((1 : Int32) + (1 : Int32)) + (1 : Int32))] [(.int (((1 : Int32) + (1 : Int32)) + (1 : Int32))), (.ref a4)] _
    refine XS.iconst X33.here hx rfl (hb hby own_d1_27) ?_
    show own_S p e below T33 m 28 #[rv d, rv lk, iv (3 : Int32), iv (((1 : Int32) + (1 : Int32)) + (1 : Int32))] [(.int (1 : Int32)), (.int (((1 : Int32) + (1 : Int32)) + (1 : Int32))), (.ref a4)] _
    refine XS.isub X33.here hx rfl (hb hby own_d1_28) rfl ?_
    show own_S p e below T33 m 29 #[rv d, rv lk, iv (3 : Int32), iv (((1 : Int32) + (1 : Int32)) + (1 : Int32))] [(.int ((((1 : Int32) + (1 : Int32)) + (1 : Int32)) - (1 : Int32))), (.ref a4)] _
    exact kt
  refine own_st sg34 ?_
  obtain ⟨T35, h35, X35, e35, E35, A35, D35, -, st35⟩ := newO X33 hx hZ hown (hw _ (List.mem_of_getElem? (i := 11) rfl)) (hw _ (List.mem_of_getElem? (i := 15) rfl)) (hw _ (List.mem_of_getElem? (i := 16) rfl)) e33 (g := (mkF m 29 #[rv d, rv lk, iv (3 : Int32), iv (((1 : Int32) + (1 : Int32)) + (1 : Int32))] [(.int ((((1 : Int32) + (1 : Int32)) + (1 : Int32)) - (1 : Int32))), (.ref a4)])) rfl (hb hby own_d1_29) (by decide) (by decide)
  obtain ⟨a35, g35⟩ : ∃ z, z = h27.size := ⟨_, rfl⟩
  rw [← g35] at A35 D35 st35
  refine own_st st35 ?_
  have g_a35 : n0 ≤ a35 := by rw [g35]; exact Z27
  have Z35 : n0 ≤ h35.size := Nat.le_trans Z27 E35.1
  show own_Go p e below _ T35 (mkF m 32 #[rv d, rv lk, iv (3 : Int32), iv (((1 : Int32) + (1 : Int32)) + (1 : Int32))] [(.ref a35), (.int ((((1 : Int32) + (1 : Int32)) + (1 : Int32)) - (1 : Int32))), (.ref a4)])
  have ltDV1_35 : r26 < a35 := by rw [g35]; exact DV1_27.2.2.2.2.lt
  have KK35 : Keep h27 h35 [] := (Keep.refl _ _).ext E35
  have EE_35 := EE_27.keep KK35
  have AL_35 := AL_27.keep KK35 nin0
  have EK_35 := EK_27.keep KK35
  have Finboxes_35 := Finboxes_27.keep KK35 nin0
  have Fkept_35 := Fkept_27.keep KK35 nin0
  have FkeptParties_35 := FkeptParties_27.keep KK35 nin0
  have FtoAll_35 := FtoAll_27.keep KK35 nin0
  have FoneByOne_35 := FoneByOne_27.keep KK35 nin0
  have Foutbox_35 := Foutbox_27.keep KK35 nin0
  have Fcount_35 := Fcount_27.keep KK35 nin0
  have AI_35 := A27.keep KK35 nin0
  have OV_35 := OV_27.keep KK35
  have DV0_35 := DV0_27.keep KK35 nin0 nin0
  have DV1_35 := DV1_27.keep KK35 nin0 nin0
  have sz35 : h0.size ≤ a35 := by rw [g35]; exact KD27.1
  have KD35 : Keep h0 h35 [d] := KD27.ext E35
  have Gthis02 : Fld Z h35 a35 "com/example/kingsround/kingsround/engine/Deliveries$Delivered" "this$0" "Lcom/example/kingsround/kingsround/engine/Deliveries;" .null := D35 (Or.inr (hw _ (List.mem_of_getElem? (i := 21) rfl))) (ty := (.object "com/example/kingsround/kingsround/engine/Deliveries")) (by decide)
  have Gto2 : Fld Z h35 a35 "com/example/kingsround/kingsround/engine/Deliveries$Delivered" "to" "I" (.int (0 : Int32)) := D35 (Or.inr (hw _ (List.mem_of_getElem? (i := 24) rfl))) (ty := .int) (by decide)
  have Greceived2 : Fld Z h35 a35 "com/example/kingsround/kingsround/engine/Deliveries$Delivered" "received" "[B" .null := D35 (Or.inr (hw _ (List.mem_of_getElem? (i := 27) rfl))) (ty := (.array .byte)) (by decide)
  have sg36 : own_V p e below T35 (mkF m 36 #[rv d, rv lk, iv (3 : Int32), iv (((1 : Int32) + (1 : Int32)) + (1 : Int32))] [(.int (3 : Int32)), (.int (((1 : Int32) + (1 : Int32)) + (1 : Int32))), (.ref d), (.ref a35), (.ref a35), (.int ((((1 : Int32) + (1 : Int32)) + (1 : Int32)) - (1 : Int32))), (.ref a4)]) (mkF m 32 #[rv d, rv lk, iv (3 : Int32), iv (((1 : Int32) + (1 : Int32)) + (1 : Int32))] [(.ref a35), (.int ((((1 : Int32) + (1 : Int32)) + (1 : Int32)) - (1 : Int32))), (.ref a4)]) := by
    intro t kt
    refine XS.dup X35.here hx rfl (hb hby own_d1_32) rfl rfl ?_
    show own_S p e below T35 m 33 #[rv d, rv lk, iv (3 : Int32), iv (((1 : Int32) + (1 : Int32)) + (1 : Int32))] [(.ref a35), (.ref a35), (.int ((((1 : Int32) + (1 : Int32)) + (1 : Int32)) - (1 : Int32))), (.ref a4)] _
    refine XS.aloadN X35.here hx rfl (hb hby own_d1_33) rfl rfl ?_
    show own_S p e below T35 m 34 #[rv d, rv lk, iv (3 : Int32), iv (((1 : Int32) + (1 : Int32)) + (1 : Int32))] [(.ref d), (.ref a35), (.ref a35), (.int ((((1 : Int32) + (1 : Int32)) + (1 : Int32)) - (1 : Int32))), (.ref a4)] _
    refine XS.iloadN X35.here hx rfl (hb hby own_d1_34) rfl ?_
    show own_S p e below T35 m 35 #[rv d, rv lk, iv (3 : Int32), iv (((1 : Int32) + (1 : Int32)) + (1 : Int32))] [(.int (((1 : Int32) + (1 : Int32)) + (1 : Int32))), (.ref d), (.ref a35), (.ref a35), (.int ((((1 : Int32) + (1 : Int32)) + (1 : Int32)) - (1 : Int32))), (.ref a4)] _
    refine XS.iloadN X35.here hx rfl (hb hby own_d1_35) rfl ?_
    show own_S p e below T35 m 36 #[rv d, rv lk, iv (3 : Int32), iv (((1 : Int32) + (1 : Int32)) + (1 : Int32))] [(.int (3 : Int32)), (.int (((1 : Int32) + (1 : Int32)) + (1 : Int32))), (.ref d), (.ref a35), (.ref a35), (.int ((((1 : Int32) + (1 : Int32)) + (1 : Int32)) - (1 : Int32))), (.ref a4)] _
    exact kt
  refine own_st sg36 ?_
  obtain ⟨_, T37, L37, X37, hQ37, st37⟩ := own_callI (y := (⟨"com/example/kingsround/kingsround/engine/Deliveries$Delivered", "<init>", "(Lcom/example/kingsround/kingsround/engine/Deliveries;II)V"⟩ : MethodName)) (a := a35) X35 hx hZ hown rfl (hw _ (List.mem_of_getElem? (i := 17) rfl)) (hw _ (List.mem_of_getElem? (i := 18) rfl)) (hw _ (List.mem_of_getElem? (i := 16) rfl)) (hw _ (List.mem_of_getElem? (i := 19) rfl)) (by decide) (own_rmdv l Z a0 hw a35 d (((1 : Int32) + (1 : Int32)) + (1 : Int32)) (3 : Int32) h35 n0 Z35 A35 Gthis02 Gto2 Greceived2 g_a35 rfl) e35 (g := (mkF m 36 #[rv d, rv lk, iv (3 : Int32), iv (((1 : Int32) + (1 : Int32)) + (1 : Int32))] [(.int (3 : Int32)), (.int (((1 : Int32) + (1 : Int32)) + (1 : Int32))), (.ref d), (.ref a35), (.ref a35), (.int ((((1 : Int32) + (1 : Int32)) + (1 : Int32)) - (1 : Int32))), (.ref a4)])) rfl (by rw [hml]; rfl) (argsL := [(.ref d), (.int (((1 : Int32) + (1 : Int32)) + (1 : Int32))), (.int (3 : Int32))]) (rest := [(.ref a35), (.int ((((1 : Int32) + (1 : Int32)) + (1 : Int32)) - (1 : Int32))), (.ref a4)]) (lenOf own_pd1 rfl) rfl (W := 3) (by show 2 * 0 + _ ≤ _; exact Nat.le_of_eq rfl) (hb hby own_d1_36) (by decide) (by decide) (by decide) (by decide)
  obtain ⟨rfl, Nq37, K37, r37, szr37, DV37⟩ := hQ37
  refine own_st st37 ?_
  have Z37 : n0 ≤ T37.heap.size := Nat.le_trans Z35 K37.1
  have N37 := Fr.app N27 Nq37
  show own_Go p e below _ T37 (mkF m 39 #[rv d, rv lk, iv (3 : Int32), iv (((1 : Int32) + (1 : Int32)) + (1 : Int32))] [(.ref a35), (.int ((((1 : Int32) + (1 : Int32)) + (1 : Int32)) - (1 : Int32))), (.ref a4)])
  have KD37 : Keep h0 T37.heap [d] := KD35.trans K37 (allS (Or.inr sz35) all0)
  have lq37 : a35 < r37 := Nat.lt_of_lt_of_le A35.lt szr37
  have EE_37 := EE_35.keep K37
  have AL_37 := AL_35.keep K37 (own_ninS (by omega) nin0)
  have EK_37 := EK_35.keep K37
  have Finboxes_37 := Finboxes_35.keep K37 (own_ninS (by omega) nin0)
  have Fkept_37 := Fkept_35.keep K37 (own_ninS (by omega) nin0)
  have FkeptParties_37 := FkeptParties_35.keep K37 (own_ninS (by omega) nin0)
  have FtoAll_37 := FtoAll_35.keep K37 (own_ninS (by omega) nin0)
  have FoneByOne_37 := FoneByOne_35.keep K37 (own_ninS (by omega) nin0)
  have Foutbox_37 := Foutbox_35.keep K37 (own_ninS (by omega) nin0)
  have Fcount_37 := Fcount_35.keep K37 (own_ninS (by omega) nin0)
  have AI_37 := AI_35.keep K37 (own_ninS (by omega) nin0)
  have OV_37 := OV_35.keep K37
  have DV0_37 := DV0_35.keep K37 (own_ninS (by omega) nin0) (own_ninS (by omega) nin0)
  have DV1_37 := DV1_35.keep K37 (own_ninS (by omega) nin0) (own_ninS (by omega) nin0)
  have EQ_37 := A35.keep K37
  have DW37 : own_Dv Z T37.heap a35 r37 d (Int32.ofNat (2 + 1)) (fun _ => -1) := DV37
  obtain ⟨T38, h38, X38, e38, W38, A38, st38⟩ := own_wrR X37 hx hZ rfl AI_37 rfl rfl (OV_37.sto AI_37 (Ins.self DW37.1)) (k := 2) (by decide) (by decide) (g := (mkF m 39 #[rv d, rv lk, iv (3 : Int32), iv (((1 : Int32) + (1 : Int32)) + (1 : Int32))] [(.ref a35), (.int ((((1 : Int32) + (1 : Int32)) + (1 : Int32)) - (1 : Int32))), (.ref a4)])) rfl rfl (hb hby own_d1_39)
  refine own_st st38 ?_
  have Z38 : n0 ≤ h38.size := by rw [Wr.size W38]; exact Z37
  have N38 := Fr.snoc X38 N37 g_a4
  show own_Go p e below _ T38 (mkF m 40 #[rv d, rv lk, iv (3 : Int32), iv (((1 : Int32) + (1 : Int32)) + (1 : Int32))] [])
  have KK38 := Keep.of_wr W38
  have EE_38 := EE_37.keep KK38
  have AL_38 := AL_37.keep KK38 (own_ninS (by omega) nin0)
  have EK_38 := EK_37.keep KK38
  have Finboxes_38 := Finboxes_37.keep KK38 (own_ninS (by omega) nin0)
  have Fkept_38 := Fkept_37.keep KK38 (own_ninS (by omega) nin0)
  have FkeptParties_38 := FkeptParties_37.keep KK38 (own_ninS (by omega) nin0)
  have FtoAll_38 := FtoAll_37.keep KK38 (own_ninS (by omega) nin0)
  have FoneByOne_38 := FoneByOne_37.keep KK38 (own_ninS (by omega) nin0)
  have Foutbox_38 := Foutbox_37.keep KK38 (own_ninS (by omega) nin0)
  have Fcount_38 := Fcount_37.keep KK38 (own_ninS (by omega) nin0)
  have OV_38 := OV_37.keep KK38
  have DV0_38 := DV0_37.keep KK38 (own_ninS (by omega) nin0) (own_ninS (by omega) nin0)
  have DV1_38 := DV1_37.keep KK38 (own_ninS (by omega) nin0) (own_ninS (by omega) nin0)
  have DV2_38 := DW37.keep KK38 (own_ninS (by omega) nin0) (own_ninS (by omega) nin0)
  have KD38 : Keep h0 h38 [d] := KD37.wr W38 (Or.inr sz4)
  have sg39 : own_V p e below T38 (mkF m 17 #[rv d, rv lk, iv (3 : Int32), iv ((((1 : Int32) + (1 : Int32)) + (1 : Int32)) + (1 : Int32))] []) (mkF m 40 #[rv d, rv lk, iv (3 : Int32), iv (((1 : Int32) + (1 : Int32)) + (1 : Int32))] []) := by
    intro t kt
    refine XS.iinc X38.here hx rfl (hb hby own_d1_40) rfl (l' := #[rv d, rv lk, iv (3 : Int32), iv ((((1 : Int32) + (1 : Int32)) + (1 : Int32)) + (1 : Int32))]) rfl ?_
    show own_S p e below T38 m 43 #[rv d, rv lk, iv (3 : Int32), iv ((((1 : Int32) + (1 : Int32)) + (1 : Int32)) + (1 : Int32))] [] _
    refine XS.goto X38.here hx rfl (pc0 := 43) (pc' := 17) rfl (hb hby own_d1_43) (by decide) (by decide) ?_
    show own_S p e below T38 m 17 #[rv d, rv lk, iv (3 : Int32), iv ((((1 : Int32) + (1 : Int32)) + (1 : Int32)) + (1 : Int32))] [] _
    exact kt
  refine own_st sg39 ?_
  have sg40 : own_V p e below T38 (mkF m 19 #[rv d, rv lk, iv (3 : Int32), iv ((((1 : Int32) + (1 : Int32)) + (1 : Int32)) + (1 : Int32))] [(.int (3 : Int32)), (.int ((((1 : Int32) + (1 : Int32)) + (1 : Int32)) + (1 : Int32)))]) (mkF m 17 #[rv d, rv lk, iv (3 : Int32), iv ((((1 : Int32) + (1 : Int32)) + (1 : Int32)) + (1 : Int32))] []) := by
    intro t kt
    refine XS.iloadN X38.here hx rfl (hb hby own_d1_17) rfl ?_
    show own_S p e below T38 m 18 #[rv d, rv lk, iv (3 : Int32), iv ((((1 : Int32) + (1 : Int32)) + (1 : Int32)) + (1 : Int32))] [(.int ((((1 : Int32) + (1 : Int32)) + (1 : Int32)) + (1 : Int32)))] _
    refine XS.iloadN X38.here hx rfl (hb hby own_d1_18) rfl ?_
    show own_S p e below T38 m 19 #[rv d, rv lk, iv (3 : Int32), iv ((((1 : Int32) + (1 : Int32)) + (1 : Int32)) + (1 : Int32))] [(.int (3 : Int32)), (.int ((((1 : Int32) + (1 : Int32)) + (1 : Int32)) + (1 : Int32)))] _
    exact kt
  refine own_st sg40 ?_
  have sg42 : own_V p e below T38 (mkF m 46 #[rv d, rv lk, iv (3 : Int32), iv ((((1 : Int32) + (1 : Int32)) + (1 : Int32)) + (1 : Int32))] []) (mkF m 19 #[rv d, rv lk, iv (3 : Int32), iv ((((1 : Int32) + (1 : Int32)) + (1 : Int32)) + (1 : Int32))] [(.int (3 : Int32)), (.int ((((1 : Int32) + (1 : Int32)) + (1 : Int32)) + (1 : Int32)))]) := by
    intro t kt
    refine XS.icmpYes X38.here hx rfl (pc0 := 19) (pc' := 46) rfl (hb hby own_d1_19) rfl (tlt (by decide : (3 : Int32) < ((((1 : Int32) + (1 : Int32)) + (1 : Int32)) + (1 : Int32)))).2.2.1 (by decide) (by decide) ?_
    exact kt
  refine own_st sg42 ?_
  have sg43 : own_V p e below T38 (mkF m 48 #[rv d, rv lk, iv (3 : Int32), iv ((((1 : Int32) + (1 : Int32)) + (1 : Int32)) + (1 : Int32))] [(.ref lk), (.ref d)]) (mkF m 46 #[rv d, rv lk, iv (3 : Int32), iv ((((1 : Int32) + (1 : Int32)) + (1 : Int32)) + (1 : Int32))] []) := by
    intro t kt
    refine XS.aloadN X38.here hx rfl (hb hby own_d1_46) rfl rfl ?_
    show own_S p e below T38 m 47 #[rv d, rv lk, iv (3 : Int32), iv ((((1 : Int32) + (1 : Int32)) + (1 : Int32)) + (1 : Int32))] [(.ref d)] _
    refine XS.aloadN X38.here hx rfl (hb hby own_d1_47) rfl rfl ?_
    show own_S p e below T38 m 48 #[rv d, rv lk, iv (3 : Int32), iv ((((1 : Int32) + (1 : Int32)) + (1 : Int32)) + (1 : Int32))] [(.ref lk), (.ref d)] _
    exact kt
  refine own_st sg43 ?_
  obtain ⟨T44, h44, a44, g44, X44, e44, E44, A44, C44, st44⟩ := own_clone (n := 3) (ad := "[Z") X38 hx hZ hown (hw _ (List.mem_of_getElem? (i := 33) rfl)) (hw _ (List.mem_of_getElem? (i := 34) rfl)) (hw _ (List.mem_of_getElem? (i := 38) rfl)) (hw _ (List.mem_of_getElem? (i := 36) rfl)) (hw _ (List.mem_of_getElem? (i := 37) rfl)) (hw _ (List.mem_of_getElem? (i := 39) rfl)) e38 AL_38 EK_38 (g := (mkF m 48 #[rv d, rv lk, iv (3 : Int32), iv ((((1 : Int32) + (1 : Int32)) + (1 : Int32)) + (1 : Int32))] [(.ref lk), (.ref d)])) rfl (by rw [hml]; rfl) rfl (hb hby own_d1_48) (by decide) (W := 1) (by show 2 * 0 + _ ≤ _; exact Nat.le_of_eq rfl) (by decide) (by decide) (by decide)
  refine own_st st44 ?_
  have g_a44 : n0 ≤ a44 := by rw [g44]; exact Z38
  have Z44 : n0 ≤ h44.size := Nat.le_trans Z38 E44.1
  show own_Go p e below _ T44 (mkF m 51 #[rv d, rv lk, iv (3 : Int32), iv ((((1 : Int32) + (1 : Int32)) + (1 : Int32)) + (1 : Int32))] [(.ref a44), (.ref d)])
  have ltDV2_44 : r37 < a44 := by rw [g44]; exact DV2_38.2.2.2.2.lt
  have KK44 : Keep h38 h44 [] := (Keep.refl _ _).ext E44
  have EE_44 := EE_38.keep KK44
  have AL_44 := AL_38.keep KK44 nin0
  have EK_44 := EK_38.keep KK44
  have Finboxes_44 := Finboxes_38.keep KK44 nin0
  have Fkept_44 := Fkept_38.keep KK44 nin0
  have FkeptParties_44 := FkeptParties_38.keep KK44 nin0
  have FtoAll_44 := FtoAll_38.keep KK44 nin0
  have FoneByOne_44 := FoneByOne_38.keep KK44 nin0
  have Foutbox_44 := Foutbox_38.keep KK44 nin0
  have Fcount_44 := Fcount_38.keep KK44 nin0
  have AI_44 := A38.keep KK44 nin0
  have OV_44 := OV_38.keep KK44
  have DV0_44 := DV0_38.keep KK44 nin0 nin0
  have DV1_44 := DV1_38.keep KK44 nin0 nin0
  have DV2_44 := DV2_38.keep KK44 nin0 nin0
  have sz44 : h0.size ≤ a44 := by rw [g44]; exact KD38.1
  have KD44 : Keep h0 h44 [d] := KD38.ext E44
  obtain ⟨T45, X45, e45, st45⟩ := castY X44 hx hZ hown (hw _ (List.mem_of_getElem? (i := 40) rfl)) e44 (Ins.self C44) (g := (mkF m 51 #[rv d, rv lk, iv (3 : Int32), iv ((((1 : Int32) + (1 : Int32)) + (1 : Int32)) + (1 : Int32))] [(.ref a44), (.ref d)])) rfl rfl (hb hby own_d1_51)
  refine own_st st45 ?_
  show own_Go p e below _ T45 (mkF m 54 #[rv d, rv lk, iv (3 : Int32), iv ((((1 : Int32) + (1 : Int32)) + (1 : Int32)) + (1 : Int32))] [(.ref a44), (.ref d)])
  obtain ⟨T46, h46, X46, e46, W46, st46⟩ := putF X45 hx hZ hown (host := "") (Or.inl (hw _ (List.mem_of_getElem? (i := 42) rfl))) Via.refl e45 Fkept_44 EE_44 (Or.inr ⟨(hw _ (List.mem_of_getElem? (i := 43) rfl)), rfl, hnm⟩) (hw _ (List.mem_of_getElem? (i := 3) rfl)) (ty := (.array .boolean)) (by decide) rfl rfl (g := (mkF m 54 #[rv d, rv lk, iv (3 : Int32), iv ((((1 : Int32) + (1 : Int32)) + (1 : Int32)) + (1 : Int32))] [(.ref a44), (.ref d)])) rfl rfl (hb hby own_d1_54)
  refine own_st st46 ?_
  have Z46 : n0 ≤ h46.size := by rw [Wr.size W46]; exact Z44
  have N46 := Fr.snoc X46 N38 g_d
  show own_Go p e below _ T46 (mkF m 57 #[rv d, rv lk, iv (3 : Int32), iv ((((1 : Int32) + (1 : Int32)) + (1 : Int32)) + (1 : Int32))] [])
  have KK46 := Keep.of_wr W46
  have Finboxes_46 := Finboxes_44.other W46 (Or.inr (slot_ne (Or.inr (hw _ (List.mem_of_getElem? (i := 14) rfl))) (Or.inr (hw _ (List.mem_of_getElem? (i := 43) rfl))) (by decide) (t := (.array (.object "com/example/kingsround/kingsround/engine/Deliveries$Delivered"))) (t' := (.array .boolean)) (by decide) (by decide)))
  have FkeptParties_46 := FkeptParties_44.other W46 (Or.inr (slot_ne (Or.inr (hw _ (List.mem_of_getElem? (i := 49) rfl))) (Or.inr (hw _ (List.mem_of_getElem? (i := 43) rfl))) (by decide) (t := (.array .int)) (t' := (.array .boolean)) (by decide) (by decide)))
  have FtoAll_46 := FtoAll_44.other W46 (Or.inr (slot_ne (Or.inr (hw _ (List.mem_of_getElem? (i := 51) rfl))) (Or.inr (hw _ (List.mem_of_getElem? (i := 43) rfl))) (by decide) (t := (.array .byte)) (t' := (.array .boolean)) (by decide) (by decide)))
  have FoneByOne_46 := FoneByOne_44.other W46 (Or.inr (slot_ne (Or.inr (hw _ (List.mem_of_getElem? (i := 54) rfl))) (Or.inr (hw _ (List.mem_of_getElem? (i := 43) rfl))) (by decide) (t := (.array .boolean)) (t' := (.array .boolean)) (by decide) (by decide)))
  have Foutbox_46 := Foutbox_44.other W46 (Or.inr (slot_ne (Or.inr (hw _ (List.mem_of_getElem? (i := 76) rfl))) (Or.inr (hw _ (List.mem_of_getElem? (i := 43) rfl))) (by decide) (t := (.object "com/example/kingsround/kingsround/engine/CheckedOutbox")) (t' := (.array .boolean)) (by decide) (by decide)))
  have Fcount_46 := Fcount_44.other W46 (Or.inr (slot_ne (Or.inl (hw _ (List.mem_of_getElem? (i := 88) rfl))) (Or.inr (hw _ (List.mem_of_getElem? (i := 43) rfl))) (by decide) (t := .long) (t' := (.array .boolean)) (by decide) (by decide)))
  have EE_46 := EE_44.keep KK46
  have AL_46 := AL_44.keep KK46 (own_ninS (by omega) nin0)
  have EK_46 := EK_44.keep KK46
  have AI_46 := AI_44.keep KK46 (own_ninS (by omega) nin0)
  have OV_46 := OV_44.keep KK46
  have DV0_46 := DV0_44.keep KK46 (own_ninS (by omega) nin0) (own_ninS (by omega) nin0)
  have DV1_46 := DV1_44.keep KK46 (own_ninS (by omega) nin0) (own_ninS (by omega) nin0)
  have DV2_46 := DV2_44.keep KK46 (own_ninS (by omega) nin0) (own_ninS (by omega) nin0)
  have AK_46 := A44.keep KK46 (own_ninS (by omega) nin0)
  have Fkept_46 := Fkept_44.same W46
  have KD46 : Keep h0 h46 [d] := KD44.wr W46 (Or.inl (List.mem_of_getElem? (i := 0) rfl))
  have sg47 : own_V p e below T46 (mkF m 59 #[rv d, rv lk, iv (3 : Int32), iv ((((1 : Int32) + (1 : Int32)) + (1 : Int32)) + (1 : Int32))] [(.ref lk), (.ref d)]) (mkF m 57 #[rv d, rv lk, iv (3 : Int32), iv ((((1 : Int32) + (1 : Int32)) + (1 : Int32)) + (1 : Int32))] []) := by
    intro t kt
    refine XS.aloadN X46.here hx rfl (hb hby own_d1_57) rfl rfl ?_
    show own_S p e below T46 m 58 #[rv d, rv lk, iv (3 : Int32), iv ((((1 : Int32) + (1 : Int32)) + (1 : Int32)) + (1 : Int32))] [(.ref d)] _
    refine XS.aloadN X46.here hx rfl (hb hby own_d1_58) rfl rfl ?_
    show own_S p e below T46 m 59 #[rv d, rv lk, iv (3 : Int32), iv ((((1 : Int32) + (1 : Int32)) + (1 : Int32)) + (1 : Int32))] [(.ref lk), (.ref d)] _
    exact kt
  refine own_st sg47 ?_
  obtain ⟨_, T48, L48, X48, hQ48, st48⟩ := own_callS (y := (⟨"com/example/kingsround/kingsround/engine/Deliveries", "keptParties", "([Z)[I"⟩ : MethodName)) X46 hx hZ hown (hw _ (List.mem_of_getElem? (i := 44) rfl)) (hw _ (List.mem_of_getElem? (i := 45) rfl)) (hw _ (List.mem_of_getElem? (i := 4) rfl)) (hw _ (List.mem_of_getElem? (i := 46) rfl)) (by decide) (own_rmkp l Z a0 hw lk kk h46 n0 Z46 AL_46) e46 (g := (mkF m 59 #[rv d, rv lk, iv (3 : Int32), iv ((((1 : Int32) + (1 : Int32)) + (1 : Int32)) + (1 : Int32))] [(.ref lk), (.ref d)])) rfl (by rw [hml]; rfl) (argsL := [(.ref lk)]) (rest := [(.ref d)]) (lenOf own_pd2 rfl) rfl (W := 1) (by show 2 * 0 + _ ≤ _; exact Nat.le_of_eq rfl) (hb hby own_d1_59) (by decide) (by decide) (by decide) (by decide)
  obtain ⟨⟨b48, rfl⟩, Nq48, K48⟩ := hQ48
  refine own_st st48 ?_
  have Z48 : n0 ≤ T48.heap.size := Nat.le_trans Z46 K48.1
  have N48 := Fr.app N46 Nq48
  show own_Go p e below _ T48 (mkF m 62 #[rv d, rv lk, iv (3 : Int32), iv ((((1 : Int32) + (1 : Int32)) + (1 : Int32)) + (1 : Int32))] [(.ref b48), (.ref d)])
  have EE_48 := EE_46.keep K48
  have AL_48 := AL_46.keep K48 nin0
  have EK_48 := EK_46.keep K48
  have Finboxes_48 := Finboxes_46.keep K48 nin0
  have Fkept_48 := Fkept_46.keep K48 nin0
  have FkeptParties_48 := FkeptParties_46.keep K48 nin0
  have FtoAll_48 := FtoAll_46.keep K48 nin0
  have FoneByOne_48 := FoneByOne_46.keep K48 nin0
  have Foutbox_48 := Foutbox_46.keep K48 nin0
  have Fcount_48 := Fcount_46.keep K48 nin0
  have AI_48 := AI_46.keep K48 nin0
  have OV_48 := OV_46.keep K48
  have DV0_48 := DV0_46.keep K48 nin0 nin0
  have DV1_48 := DV1_46.keep K48 nin0 nin0
  have DV2_48 := DV2_46.keep K48 nin0 nin0
  have AK_48 := AK_46.keep K48 nin0
  have KD48 : Keep h0 T48.heap [d] := KD46.trans K48 all0
  obtain ⟨T49, h49, X49, e49, W49, st49⟩ := putF X48 hx hZ hown (host := "") (Or.inl (hw _ (List.mem_of_getElem? (i := 48) rfl))) Via.refl rfl FkeptParties_48 EE_48 (Or.inr ⟨(hw _ (List.mem_of_getElem? (i := 49) rfl)), rfl, hnm⟩) (hw _ (List.mem_of_getElem? (i := 3) rfl)) (ty := (.array .int)) (by decide) rfl rfl (g := (mkF m 62 #[rv d, rv lk, iv (3 : Int32), iv ((((1 : Int32) + (1 : Int32)) + (1 : Int32)) + (1 : Int32))] [(.ref b48), (.ref d)])) rfl rfl (hb hby own_d1_62)
  refine own_st st49 ?_
  have Z49 : n0 ≤ h49.size := by rw [Wr.size W49]; exact Z48
  have N49 := Fr.snoc X49 N48 g_d
  show own_Go p e below _ T49 (mkF m 65 #[rv d, rv lk, iv (3 : Int32), iv ((((1 : Int32) + (1 : Int32)) + (1 : Int32)) + (1 : Int32))] [])
  have KK49 := Keep.of_wr W49
  have Finboxes_49 := Finboxes_48.other W49 (Or.inr (slot_ne (Or.inr (hw _ (List.mem_of_getElem? (i := 14) rfl))) (Or.inr (hw _ (List.mem_of_getElem? (i := 49) rfl))) (by decide) (t := (.array (.object "com/example/kingsround/kingsround/engine/Deliveries$Delivered"))) (t' := (.array .int)) (by decide) (by decide)))
  have Fkept_49 := Fkept_48.other W49 (Or.inr (slot_ne (Or.inr (hw _ (List.mem_of_getElem? (i := 43) rfl))) (Or.inr (hw _ (List.mem_of_getElem? (i := 49) rfl))) (by decide) (t := (.array .boolean)) (t' := (.array .int)) (by decide) (by decide)))
  have FtoAll_49 := FtoAll_48.other W49 (Or.inr (slot_ne (Or.inr (hw _ (List.mem_of_getElem? (i := 51) rfl))) (Or.inr (hw _ (List.mem_of_getElem? (i := 49) rfl))) (by decide) (t := (.array .byte)) (t' := (.array .int)) (by decide) (by decide)))
  have FoneByOne_49 := FoneByOne_48.other W49 (Or.inr (slot_ne (Or.inr (hw _ (List.mem_of_getElem? (i := 54) rfl))) (Or.inr (hw _ (List.mem_of_getElem? (i := 49) rfl))) (by decide) (t := (.array .boolean)) (t' := (.array .int)) (by decide) (by decide)))
  have Foutbox_49 := Foutbox_48.other W49 (Or.inr (slot_ne (Or.inr (hw _ (List.mem_of_getElem? (i := 76) rfl))) (Or.inr (hw _ (List.mem_of_getElem? (i := 49) rfl))) (by decide) (t := (.object "com/example/kingsround/kingsround/engine/CheckedOutbox")) (t' := (.array .int)) (by decide) (by decide)))
  have Fcount_49 := Fcount_48.other W49 (Or.inr (slot_ne (Or.inl (hw _ (List.mem_of_getElem? (i := 88) rfl))) (Or.inr (hw _ (List.mem_of_getElem? (i := 49) rfl))) (by decide) (t := .long) (t' := (.array .int)) (by decide) (by decide)))
  have EE_49 := EE_48.keep KK49
  have AL_49 := AL_48.keep KK49 (own_ninS (by omega) nin0)
  have EK_49 := EK_48.keep KK49
  have AI_49 := AI_48.keep KK49 (own_ninS (by omega) nin0)
  have OV_49 := OV_48.keep KK49
  have DV0_49 := DV0_48.keep KK49 (own_ninS (by omega) nin0) (own_ninS (by omega) nin0)
  have DV1_49 := DV1_48.keep KK49 (own_ninS (by omega) nin0) (own_ninS (by omega) nin0)
  have DV2_49 := DV2_48.keep KK49 (own_ninS (by omega) nin0) (own_ninS (by omega) nin0)
  have AK_49 := AK_48.keep KK49 (own_ninS (by omega) nin0)
  have FkeptParties_49 := FkeptParties_48.same W49
  have KD49 : Keep h0 h49 [d] := KD48.wr W49 (Or.inl (List.mem_of_getElem? (i := 0) rfl))
  have sg50 : own_V p e below T49 (mkF m 67 #[rv d, rv lk, iv (3 : Int32), iv ((((1 : Int32) + (1 : Int32)) + (1 : Int32)) + (1 : Int32))] [(.int (3 : Int32)), (.ref d)]) (mkF m 65 #[rv d, rv lk, iv (3 : Int32), iv ((((1 : Int32) + (1 : Int32)) + (1 : Int32)) + (1 : Int32))] []) := by
    intro t kt
    refine XS.aloadN X49.here hx rfl (hb hby own_d1_65) rfl rfl ?_
    show own_S p e below T49 m 66 #[rv d, rv lk, iv (3 : Int32), iv ((((1 : Int32) + (1 : Int32)) + (1 : Int32)) + (1 : Int32))] [(.ref d)] _
    refine XS.iloadN X49.here hx rfl (hb hby own_d1_66) rfl ?_
    show own_S p e below T49 m 67 #[rv d, rv lk, iv (3 : Int32), iv ((((1 : Int32) + (1 : Int32)) + (1 : Int32)) + (1 : Int32))] [(.int (3 : Int32)), (.ref d)] _
    exact kt
  refine own_st sg50 ?_
  obtain ⟨T51, h51, a51, g51, X51, e51, E51, A51, st51⟩ := own_newP (n := 3) X49 hx hZ (hw _ (List.mem_of_getElem? (i := 25) rfl)) e49 (by decide) rfl (g := (mkF m 67 #[rv d, rv lk, iv (3 : Int32), iv ((((1 : Int32) + (1 : Int32)) + (1 : Int32)) + (1 : Int32))] [(.int (3 : Int32)), (.ref d)])) rfl rfl (hb hby own_d1_67) (cap := 3) (by decide) (by decide) (by decide) (by decide)
  refine own_st st51 ?_
  have g_a51 : n0 ≤ a51 := by rw [g51]; exact Z49
  have Z51 : n0 ≤ h51.size := Nat.le_trans Z49 E51.1
  have B51 : own_AI Z h51 a51 .byte 3 (fun _ => 0) := A51
  show own_Go p e below _ T51 (mkF m 69 #[rv d, rv lk, iv (3 : Int32), iv ((((1 : Int32) + (1 : Int32)) + (1 : Int32)) + (1 : Int32))] [(.ref a51), (.ref d)])
  have ltAK_51 : a44 < a51 := by rw [g51]; exact AK_49.lt
  have KK51 : Keep h49 h51 [] := (Keep.refl _ _).ext E51
  have EE_51 := EE_49.keep KK51
  have AL_51 := AL_49.keep KK51 nin0
  have EK_51 := EK_49.keep KK51
  have Finboxes_51 := Finboxes_49.keep KK51 nin0
  have Fkept_51 := Fkept_49.keep KK51 nin0
  have FkeptParties_51 := FkeptParties_49.keep KK51 nin0
  have FtoAll_51 := FtoAll_49.keep KK51 nin0
  have FoneByOne_51 := FoneByOne_49.keep KK51 nin0
  have Foutbox_51 := Foutbox_49.keep KK51 nin0
  have Fcount_51 := Fcount_49.keep KK51 nin0
  have AI_51 := AI_49.keep KK51 nin0
  have OV_51 := OV_49.keep KK51
  have DV0_51 := DV0_49.keep KK51 nin0 nin0
  have DV1_51 := DV1_49.keep KK51 nin0 nin0
  have DV2_51 := DV2_49.keep KK51 nin0 nin0
  have AK_51 := AK_49.keep KK51 nin0
  have sz51 : h0.size ≤ a51 := by rw [g51]; exact KD49.1
  have KD51 : Keep h0 h51 [d] := KD49.ext E51
  obtain ⟨T52, h52, X52, e52, W52, st52⟩ := putF X51 hx hZ hown (host := "") (Or.inl (hw _ (List.mem_of_getElem? (i := 50) rfl))) Via.refl e51 FtoAll_51 EE_51 (Or.inr ⟨(hw _ (List.mem_of_getElem? (i := 51) rfl)), rfl, hnm⟩) (hw _ (List.mem_of_getElem? (i := 3) rfl)) (ty := (.array .byte)) (by decide) rfl rfl (g := (mkF m 69 #[rv d, rv lk, iv (3 : Int32), iv ((((1 : Int32) + (1 : Int32)) + (1 : Int32)) + (1 : Int32))] [(.ref a51), (.ref d)])) rfl rfl (hb hby own_d1_69)
  refine own_st st52 ?_
  have Z52 : n0 ≤ h52.size := by rw [Wr.size W52]; exact Z51
  have N52 := Fr.snoc X52 N49 g_d
  show own_Go p e below _ T52 (mkF m 72 #[rv d, rv lk, iv (3 : Int32), iv ((((1 : Int32) + (1 : Int32)) + (1 : Int32)) + (1 : Int32))] [])
  have KK52 := Keep.of_wr W52
  have Finboxes_52 := Finboxes_51.other W52 (Or.inr (slot_ne (Or.inr (hw _ (List.mem_of_getElem? (i := 14) rfl))) (Or.inr (hw _ (List.mem_of_getElem? (i := 51) rfl))) (by decide) (t := (.array (.object "com/example/kingsround/kingsround/engine/Deliveries$Delivered"))) (t' := (.array .byte)) (by decide) (by decide)))
  have Fkept_52 := Fkept_51.other W52 (Or.inr (slot_ne (Or.inr (hw _ (List.mem_of_getElem? (i := 43) rfl))) (Or.inr (hw _ (List.mem_of_getElem? (i := 51) rfl))) (by decide) (t := (.array .boolean)) (t' := (.array .byte)) (by decide) (by decide)))
  have FkeptParties_52 := FkeptParties_51.other W52 (Or.inr (slot_ne (Or.inr (hw _ (List.mem_of_getElem? (i := 49) rfl))) (Or.inr (hw _ (List.mem_of_getElem? (i := 51) rfl))) (by decide) (t := (.array .int)) (t' := (.array .byte)) (by decide) (by decide)))
  have FoneByOne_52 := FoneByOne_51.other W52 (Or.inr (slot_ne (Or.inr (hw _ (List.mem_of_getElem? (i := 54) rfl))) (Or.inr (hw _ (List.mem_of_getElem? (i := 51) rfl))) (by decide) (t := (.array .boolean)) (t' := (.array .byte)) (by decide) (by decide)))
  have Foutbox_52 := Foutbox_51.other W52 (Or.inr (slot_ne (Or.inr (hw _ (List.mem_of_getElem? (i := 76) rfl))) (Or.inr (hw _ (List.mem_of_getElem? (i := 51) rfl))) (by decide) (t := (.object "com/example/kingsround/kingsround/engine/CheckedOutbox")) (t' := (.array .byte)) (by decide) (by decide)))
  have Fcount_52 := Fcount_51.other W52 (Or.inr (slot_ne (Or.inl (hw _ (List.mem_of_getElem? (i := 88) rfl))) (Or.inr (hw _ (List.mem_of_getElem? (i := 51) rfl))) (by decide) (t := .long) (t' := (.array .byte)) (by decide) (by decide)))
  have EE_52 := EE_51.keep KK52
  have AL_52 := AL_51.keep KK52 (own_ninS (by omega) nin0)
  have EK_52 := EK_51.keep KK52
  have AI_52 := AI_51.keep KK52 (own_ninS (by omega) nin0)
  have OV_52 := OV_51.keep KK52
  have DV0_52 := DV0_51.keep KK52 (own_ninS (by omega) nin0) (own_ninS (by omega) nin0)
  have DV1_52 := DV1_51.keep KK52 (own_ninS (by omega) nin0) (own_ninS (by omega) nin0)
  have DV2_52 := DV2_51.keep KK52 (own_ninS (by omega) nin0) (own_ninS (by omega) nin0)
  have AK_52 := AK_51.keep KK52 (own_ninS (by omega) nin0)
  have AT_52 := B51.keep KK52 (own_ninS (by omega) nin0)
  have FtoAll_52 := FtoAll_51.same W52
  have KD52 : Keep h0 h52 [d] := KD51.wr W52 (Or.inl (List.mem_of_getElem? (i := 0) rfl))
  have sg53 : own_V p e below T52 (mkF m 73 #[rv d, rv lk, iv (3 : Int32), iv ((((1 : Int32) + (1 : Int32)) + (1 : Int32)) + (1 : Int32))] [(.ref d)]) (mkF m 72 #[rv d, rv lk, iv (3 : Int32), iv ((((1 : Int32) + (1 : Int32)) + (1 : Int32)) + (1 : Int32))] []) := by
    intro t kt
    refine XS.aloadN X52.here hx rfl (hb hby own_d1_72) rfl rfl ?_
    show own_S p e below T52 m 73 #[rv d, rv lk, iv (3 : Int32), iv ((((1 : Int32) + (1 : Int32)) + (1 : Int32)) + (1 : Int32))] [(.ref d)] _
    exact kt
  refine own_st sg53 ?_
  obtain ⟨T54, X54, e54, st54⟩ := getF X52 hx hZ hown (host := "") (Or.inl (hw _ (List.mem_of_getElem? (i := 50) rfl))) Via.refl e52 FtoAll_52 (g := (mkF m 73 #[rv d, rv lk, iv (3 : Int32), iv ((((1 : Int32) + (1 : Int32)) + (1 : Int32)) + (1 : Int32))] [(.ref d)])) rfl rfl (hb hby own_d1_73)
  refine own_st st54 ?_
  show own_Go p e below _ T54 (mkF m 76 #[rv d, rv lk, iv (3 : Int32), iv ((((1 : Int32) + (1 : Int32)) + (1 : Int32)) + (1 : Int32))] [(.ref a51)])
  have sg55 : own_V p e below T54 (mkF m 77 #[rv d, rv lk, iv (3 : Int32), iv ((((1 : Int32) + (1 : Int32)) + (1 : Int32)) + (1 : Int32))] [(.int (-1 : Int32)), (.ref a51)]) (mkF m 76 #[rv d, rv lk, iv (3 : Int32), iv ((((1 : Int32) + (1 : Int32)) + (1 : Int32)) + (1 : Int32))] [(.ref a51)]) := by
    intro t kt
    refine XS.iconst X54.here hx rfl (hb hby own_d1_76) ?_
    show own_S p e below T54 m 77 #[rv d, rv lk, iv (3 : Int32), iv ((((1 : Int32) + (1 : Int32)) + (1 : Int32)) + (1 : Int32))] [(.int (-1 : Int32)), (.ref a51)] _
    exact kt
  refine own_st sg55 ?_
  obtain ⟨_, T56, L56, X56, hQ56, st56⟩ := own_callS (y := (⟨"java/util/Arrays", "fill", "([BB)V"⟩ : MethodName)) X54 hx hZ hown (hw _ (List.mem_of_getElem? (i := 52) rfl)) (hw _ (List.mem_of_getElem? (i := 29) rfl)) (hw _ (List.mem_of_getElem? (i := 30) rfl)) (hw _ (List.mem_of_getElem? (i := 31) rfl)) (by decide) (own_rmfil l Z a0 hw a51 (-1 : Int32) (fun _ => 0) h52 n0 Z52 AT_52 g_a51) e54 (g := (mkF m 77 #[rv d, rv lk, iv (3 : Int32), iv ((((1 : Int32) + (1 : Int32)) + (1 : Int32)) + (1 : Int32))] [(.int (-1 : Int32)), (.ref a51)])) rfl (by rw [hml]; rfl) (argsL := [(.ref a51), (.int (-1 : Int32))]) (rest := []) (lenOf own_pd0 rfl) rfl (W := 0) (by show 2 * 0 + _ ≤ _; exact Nat.le_of_eq rfl) (hb hby own_d1_77) (by decide) (by decide) (by decide) (by decide)
  obtain ⟨rfl, Nq56, K56, A56⟩ := hQ56
  refine own_st st56 ?_
  have Z56 : n0 ≤ T56.heap.size := Nat.le_trans Z52 K56.1
  have N56 := Fr.app N52 Nq56
  show own_Go p e below _ T56 (mkF m 80 #[rv d, rv lk, iv (3 : Int32), iv ((((1 : Int32) + (1 : Int32)) + (1 : Int32)) + (1 : Int32))] [])
  have EE_56 := EE_52.keep K56
  have AL_56 := AL_52.keep K56 (own_ninS (by omega) nin0)
  have EK_56 := EK_52.keep K56
  have Finboxes_56 := Finboxes_52.keep K56 (own_ninS (by omega) nin0)
  have Fkept_56 := Fkept_52.keep K56 (own_ninS (by omega) nin0)
  have FkeptParties_56 := FkeptParties_52.keep K56 (own_ninS (by omega) nin0)
  have FtoAll_56 := FtoAll_52.keep K56 (own_ninS (by omega) nin0)
  have FoneByOne_56 := FoneByOne_52.keep K56 (own_ninS (by omega) nin0)
  have Foutbox_56 := Foutbox_52.keep K56 (own_ninS (by omega) nin0)
  have Fcount_56 := Fcount_52.keep K56 (own_ninS (by omega) nin0)
  have AI_56 := AI_52.keep K56 (own_ninS (by omega) nin0)
  have OV_56 := OV_52.keep K56
  have DV0_56 := DV0_52.keep K56 (own_ninS (by omega) nin0) (own_ninS (by omega) nin0)
  have DV1_56 := DV1_52.keep K56 (own_ninS (by omega) nin0) (own_ninS (by omega) nin0)
  have DV2_56 := DV2_52.keep K56 (own_ninS (by omega) nin0) (own_ninS (by omega) nin0)
  have AK_56 := AK_52.keep K56 (own_ninS (by omega) nin0)
  have KD56 : Keep h0 T56.heap [d] := KD52.trans K56 (allS (Or.inr sz51) all0)
  have sg57 : own_V p e below T56 (mkF m 82 #[rv d, rv lk, iv (3 : Int32), iv ((((1 : Int32) + (1 : Int32)) + (1 : Int32)) + (1 : Int32))] [(.int (3 : Int32)), (.ref d)]) (mkF m 80 #[rv d, rv lk, iv (3 : Int32), iv ((((1 : Int32) + (1 : Int32)) + (1 : Int32)) + (1 : Int32))] []) := by
    intro t kt
    refine XS.aloadN X56.here hx rfl (hb hby own_d1_80) rfl rfl ?_
    show own_S p e below T56 m 81 #[rv d, rv lk, iv (3 : Int32), iv ((((1 : Int32) + (1 : Int32)) + (1 : Int32)) + (1 : Int32))] [(.ref d)] _
    refine XS.iloadN X56.here hx rfl (hb hby own_d1_81) rfl ?_
    show own_S p e below T56 m 82 #[rv d, rv lk, iv (3 : Int32), iv ((((1 : Int32) + (1 : Int32)) + (1 : Int32)) + (1 : Int32))] [(.int (3 : Int32)), (.ref d)] _
    exact kt
  refine own_st sg57 ?_
  obtain ⟨T58, h58, a58, g58, X58, e58, E58, A58, st58⟩ := own_newP (n := 3) X56 hx hZ (hw _ (List.mem_of_getElem? (i := 0) rfl)) rfl (by decide) rfl (g := (mkF m 82 #[rv d, rv lk, iv (3 : Int32), iv ((((1 : Int32) + (1 : Int32)) + (1 : Int32)) + (1 : Int32))] [(.int (3 : Int32)), (.ref d)])) rfl rfl (hb hby own_d1_82) (cap := 3) (by decide) (by decide) (by decide) (by decide)
  refine own_st st58 ?_
  have g_a58 : n0 ≤ a58 := by rw [g58]; exact Z56
  have Z58 : n0 ≤ h58.size := Nat.le_trans Z56 E58.1
  have B58 : own_AI Z h58 a58 .boolean 3 (fun _ => 0) := A58
  show own_Go p e below _ T58 (mkF m 84 #[rv d, rv lk, iv (3 : Int32), iv ((((1 : Int32) + (1 : Int32)) + (1 : Int32)) + (1 : Int32))] [(.ref a58), (.ref d)])
  have ltAT_58 : a51 < a58 := by rw [g58]; exact A56.lt
  have KK58 : Keep T56.heap h58 [] := (Keep.refl _ _).ext E58
  have EE_58 := EE_56.keep KK58
  have AL_58 := AL_56.keep KK58 nin0
  have EK_58 := EK_56.keep KK58
  have Finboxes_58 := Finboxes_56.keep KK58 nin0
  have Fkept_58 := Fkept_56.keep KK58 nin0
  have FkeptParties_58 := FkeptParties_56.keep KK58 nin0
  have FtoAll_58 := FtoAll_56.keep KK58 nin0
  have FoneByOne_58 := FoneByOne_56.keep KK58 nin0
  have Foutbox_58 := Foutbox_56.keep KK58 nin0
  have Fcount_58 := Fcount_56.keep KK58 nin0
  have AI_58 := AI_56.keep KK58 nin0
  have OV_58 := OV_56.keep KK58
  have DV0_58 := DV0_56.keep KK58 nin0 nin0
  have DV1_58 := DV1_56.keep KK58 nin0 nin0
  have DV2_58 := DV2_56.keep KK58 nin0 nin0
  have AK_58 := AK_56.keep KK58 nin0
  have AT_58 := A56.keep KK58 nin0
  have sz58 : h0.size ≤ a58 := by rw [g58]; exact KD56.1
  have KD58 : Keep h0 h58 [d] := KD56.ext E58
  obtain ⟨T59, h59, X59, e59, W59, st59⟩ := putF X58 hx hZ hown (host := "") (Or.inl (hw _ (List.mem_of_getElem? (i := 53) rfl))) Via.refl e58 FoneByOne_58 EE_58 (Or.inr ⟨(hw _ (List.mem_of_getElem? (i := 54) rfl)), rfl, hnm⟩) (hw _ (List.mem_of_getElem? (i := 3) rfl)) (ty := (.array .boolean)) (by decide) rfl rfl (g := (mkF m 84 #[rv d, rv lk, iv (3 : Int32), iv ((((1 : Int32) + (1 : Int32)) + (1 : Int32)) + (1 : Int32))] [(.ref a58), (.ref d)])) rfl rfl (hb hby own_d1_84)
  refine own_st st59 ?_
  have Z59 : n0 ≤ h59.size := by rw [Wr.size W59]; exact Z58
  have N59 := Fr.snoc X59 N56 g_d
  show own_Go p e below _ T59 (mkF m 87 #[rv d, rv lk, iv (3 : Int32), iv ((((1 : Int32) + (1 : Int32)) + (1 : Int32)) + (1 : Int32))] [])
  have KK59 := Keep.of_wr W59
  have Finboxes_59 := Finboxes_58.other W59 (Or.inr (slot_ne (Or.inr (hw _ (List.mem_of_getElem? (i := 14) rfl))) (Or.inr (hw _ (List.mem_of_getElem? (i := 54) rfl))) (by decide) (t := (.array (.object "com/example/kingsround/kingsround/engine/Deliveries$Delivered"))) (t' := (.array .boolean)) (by decide) (by decide)))
  have Fkept_59 := Fkept_58.other W59 (Or.inr (slot_ne (Or.inr (hw _ (List.mem_of_getElem? (i := 43) rfl))) (Or.inr (hw _ (List.mem_of_getElem? (i := 54) rfl))) (by decide) (t := (.array .boolean)) (t' := (.array .boolean)) (by decide) (by decide)))
  have FkeptParties_59 := FkeptParties_58.other W59 (Or.inr (slot_ne (Or.inr (hw _ (List.mem_of_getElem? (i := 49) rfl))) (Or.inr (hw _ (List.mem_of_getElem? (i := 54) rfl))) (by decide) (t := (.array .int)) (t' := (.array .boolean)) (by decide) (by decide)))
  have FtoAll_59 := FtoAll_58.other W59 (Or.inr (slot_ne (Or.inr (hw _ (List.mem_of_getElem? (i := 51) rfl))) (Or.inr (hw _ (List.mem_of_getElem? (i := 54) rfl))) (by decide) (t := (.array .byte)) (t' := (.array .boolean)) (by decide) (by decide)))
  have Foutbox_59 := Foutbox_58.other W59 (Or.inr (slot_ne (Or.inr (hw _ (List.mem_of_getElem? (i := 76) rfl))) (Or.inr (hw _ (List.mem_of_getElem? (i := 54) rfl))) (by decide) (t := (.object "com/example/kingsround/kingsround/engine/CheckedOutbox")) (t' := (.array .boolean)) (by decide) (by decide)))
  have Fcount_59 := Fcount_58.other W59 (Or.inr (slot_ne (Or.inl (hw _ (List.mem_of_getElem? (i := 88) rfl))) (Or.inr (hw _ (List.mem_of_getElem? (i := 54) rfl))) (by decide) (t := .long) (t' := (.array .boolean)) (by decide) (by decide)))
  have EE_59 := EE_58.keep KK59
  have AL_59 := AL_58.keep KK59 (own_ninS (by omega) nin0)
  have EK_59 := EK_58.keep KK59
  have AI_59 := AI_58.keep KK59 (own_ninS (by omega) nin0)
  have OV_59 := OV_58.keep KK59
  have DV0_59 := DV0_58.keep KK59 (own_ninS (by omega) nin0) (own_ninS (by omega) nin0)
  have DV1_59 := DV1_58.keep KK59 (own_ninS (by omega) nin0) (own_ninS (by omega) nin0)
  have DV2_59 := DV2_58.keep KK59 (own_ninS (by omega) nin0) (own_ninS (by omega) nin0)
  have AK_59 := AK_58.keep KK59 (own_ninS (by omega) nin0)
  have AT_59 := AT_58.keep KK59 (own_ninS (by omega) nin0)
  have AO_59 := B58.keep KK59 (own_ninS (by omega) nin0)
  have FoneByOne_59 := FoneByOne_58.same W59
  have KD59 : Keep h0 h59 [d] := KD58.wr W59 (Or.inl (List.mem_of_getElem? (i := 0) rfl))
  have sg60 : own_V p e below T59 (mkF m 88 #[rv d, rv lk, iv (3 : Int32), iv ((((1 : Int32) + (1 : Int32)) + (1 : Int32)) + (1 : Int32))] [(.ref d)]) (mkF m 87 #[rv d, rv lk, iv (3 : Int32), iv ((((1 : Int32) + (1 : Int32)) + (1 : Int32)) + (1 : Int32))] []) := by
    intro t kt
    refine XS.aloadN X59.here hx rfl (hb hby own_d1_87) rfl rfl ?_
    show own_S p e below T59 m 88 #[rv d, rv lk, iv (3 : Int32), iv ((((1 : Int32) + (1 : Int32)) + (1 : Int32)) + (1 : Int32))] [(.ref d)] _
    exact kt
  refine own_st sg60 ?_
  obtain ⟨T61, h61, X61, e61, E61, A61, D61, -, st61⟩ := newO X59 hx hZ hown (hw _ (List.mem_of_getElem? (i := 55) rfl)) (hw _ (List.mem_of_getElem? (i := 56) rfl)) (hw _ (List.mem_of_getElem? (i := 57) rfl)) e59 (g := (mkF m 88 #[rv d, rv lk, iv (3 : Int32), iv ((((1 : Int32) + (1 : Int32)) + (1 : Int32)) + (1 : Int32))] [(.ref d)])) rfl (hb hby own_d1_88) (by decide) (by decide)
  obtain ⟨a61, g61⟩ : ∃ z, z = h59.size := ⟨_, rfl⟩
  rw [← g61] at A61 D61 st61
  refine own_st st61 ?_
  have g_a61 : n0 ≤ a61 := by rw [g61]; exact Z59
  have Z61 : n0 ≤ h61.size := Nat.le_trans Z59 E61.1
  show own_Go p e below _ T61 (mkF m 91 #[rv d, rv lk, iv (3 : Int32), iv ((((1 : Int32) + (1 : Int32)) + (1 : Int32)) + (1 : Int32))] [(.ref a61), (.ref d)])
  have ltAO_61 : a58 < a61 := by rw [g61]; exact AO_59.lt
  have KK61 : Keep h59 h61 [] := (Keep.refl _ _).ext E61
  have EE_61 := EE_59.keep KK61
  have AL_61 := AL_59.keep KK61 nin0
  have EK_61 := EK_59.keep KK61
  have Finboxes_61 := Finboxes_59.keep KK61 nin0
  have Fkept_61 := Fkept_59.keep KK61 nin0
  have FkeptParties_61 := FkeptParties_59.keep KK61 nin0
  have FtoAll_61 := FtoAll_59.keep KK61 nin0
  have FoneByOne_61 := FoneByOne_59.keep KK61 nin0
  have Foutbox_61 := Foutbox_59.keep KK61 nin0
  have Fcount_61 := Fcount_59.keep KK61 nin0
  have AI_61 := AI_59.keep KK61 nin0
  have OV_61 := OV_59.keep KK61
  have DV0_61 := DV0_59.keep KK61 nin0 nin0
  have DV1_61 := DV1_59.keep KK61 nin0 nin0
  have DV2_61 := DV2_59.keep KK61 nin0 nin0
  have AK_61 := AK_59.keep KK61 nin0
  have AT_61 := AT_59.keep KK61 nin0
  have AO_61 := AO_59.keep KK61 nin0
  have sz61 : h0.size ≤ a61 := by rw [g61]; exact KD59.1
  have KD61 : Keep h0 h61 [d] := KD59.ext E61
  have Gn : Fld Z h61 a61 "com/example/kingsround/kingsround/engine/CheckedOutbox" "n" "I" (.int (0 : Int32)) := D61 (Or.inr (hw _ (List.mem_of_getElem? (i := 72) rfl))) (ty := .int) (by decide)
  have Gsink : Fld Z h61 a61 "com/example/kingsround/kingsround/engine/CheckedOutbox" "sink" "Lcom/example/kingsround/kingsround/engine/CheckedOutbox$Sink;" .null := D61 (Or.inr (hw _ (List.mem_of_getElem? (i := 74) rfl))) (ty := (.object "com/example/kingsround/kingsround/engine/CheckedOutbox$Sink")) (by decide)
  have sg62 : own_V p e below T61 (mkF m 93 #[rv d, rv lk, iv (3 : Int32), iv ((((1 : Int32) + (1 : Int32)) + (1 : Int32)) + (1 : Int32))] [(.int (3 : Int32)), (.ref a61), (.ref a61), (.ref d)]) (mkF m 91 #[rv d, rv lk, iv (3 : Int32), iv ((((1 : Int32) + (1 : Int32)) + (1 : Int32)) + (1 : Int32))] [(.ref a61), (.ref d)]) := by
    intro t kt
    refine XS.dup X61.here hx rfl (hb hby own_d1_91) rfl rfl ?_
    show own_S p e below T61 m 92 #[rv d, rv lk, iv (3 : Int32), iv ((((1 : Int32) + (1 : Int32)) + (1 : Int32)) + (1 : Int32))] [(.ref a61), (.ref a61), (.ref d)] _
    refine XS.iloadN X61.here hx rfl (hb hby own_d1_92) rfl ?_
    show own_S p e below T61 m 93 #[rv d, rv lk, iv (3 : Int32), iv ((((1 : Int32) + (1 : Int32)) + (1 : Int32)) + (1 : Int32))] [(.int (3 : Int32)), (.ref a61), (.ref a61), (.ref d)] _
    exact kt
  refine own_st sg62 ?_
  obtain ⟨T63, h63, X63, e63, E63, A63, D63, -, st63⟩ := newO X61 hx hZ hown (hw _ (List.mem_of_getElem? (i := 58) rfl)) (hw _ (List.mem_of_getElem? (i := 59) rfl)) (hw _ (List.mem_of_getElem? (i := 60) rfl)) e61 (g := (mkF m 93 #[rv d, rv lk, iv (3 : Int32), iv ((((1 : Int32) + (1 : Int32)) + (1 : Int32)) + (1 : Int32))] [(.int (3 : Int32)), (.ref a61), (.ref a61), (.ref d)])) rfl (hb hby own_d1_93) (by decide) (by decide)
  obtain ⟨a63, g63⟩ : ∃ z, z = h61.size := ⟨_, rfl⟩
  rw [← g63] at A63 D63 st63
  refine own_st st63 ?_
  have g_a63 : n0 ≤ a63 := by rw [g63]; exact Z61
  have Z63 : n0 ≤ h63.size := Nat.le_trans Z61 E63.1
  show own_Go p e below _ T63 (mkF m 96 #[rv d, rv lk, iv (3 : Int32), iv ((((1 : Int32) + (1 : Int32)) + (1 : Int32)) + (1 : Int32))] [(.ref a63), (.int (3 : Int32)), (.ref a61), (.ref a61), (.ref d)])
  have ltEO_63 : a61 < a63 := by rw [g63]; exact A61.lt
  have KK63 : Keep h61 h63 [] := (Keep.refl _ _).ext E63
  have EE_63 := EE_61.keep KK63
  have AL_63 := AL_61.keep KK63 nin0
  have EK_63 := EK_61.keep KK63
  have Finboxes_63 := Finboxes_61.keep KK63 nin0
  have Fkept_63 := Fkept_61.keep KK63 nin0
  have FkeptParties_63 := FkeptParties_61.keep KK63 nin0
  have FtoAll_63 := FtoAll_61.keep KK63 nin0
  have FoneByOne_63 := FoneByOne_61.keep KK63 nin0
  have Foutbox_63 := Foutbox_61.keep KK63 nin0
  have Fcount_63 := Fcount_61.keep KK63 nin0
  have AI_63 := AI_61.keep KK63 nin0
  have OV_63 := OV_61.keep KK63
  have DV0_63 := DV0_61.keep KK63 nin0 nin0
  have DV1_63 := DV1_61.keep KK63 nin0 nin0
  have DV2_63 := DV2_61.keep KK63 nin0 nin0
  have AK_63 := AK_61.keep KK63 nin0
  have AT_63 := AT_61.keep KK63 nin0
  have AO_63 := AO_61.keep KK63 nin0
  have EO_63 := A61.keep KK63
  have Gn_63 := Gn.keep KK63 nin0
  have Gsink_63 := Gsink.keep KK63 nin0
  have sz63 : h0.size ≤ a63 := by rw [g63]; exact KD61.1
  have KD63 : Keep h0 h63 [d] := KD61.ext E63
  have Gd : Fld Z h63 a63 "com/example/kingsround/kingsround/engine/Deliveries$1" "this$0" "Lcom/example/kingsround/kingsround/engine/Deliveries;" .null := D63 (Or.inr (hw _ (List.mem_of_getElem? (i := 65) rfl))) (ty := (.object "com/example/kingsround/kingsround/engine/Deliveries")) (by decide)
  have sg64 : own_V p e below T63 (mkF m 98 #[rv d, rv lk, iv (3 : Int32), iv ((((1 : Int32) + (1 : Int32)) + (1 : Int32)) + (1 : Int32))] [(.ref d), (.ref a63), (.ref a63), (.int (3 : Int32)), (.ref a61), (.ref a61), (.ref d)]) (mkF m 96 #[rv d, rv lk, iv (3 : Int32), iv ((((1 : Int32) + (1 : Int32)) + (1 : Int32)) + (1 : Int32))] [(.ref a63), (.int (3 : Int32)), (.ref a61), (.ref a61), (.ref d)]) := by
    intro t kt
    refine XS.dup X63.here hx rfl (hb hby own_d1_96) rfl rfl ?_
    show own_S p e below T63 m 97 #[rv d, rv lk, iv (3 : Int32), iv ((((1 : Int32) + (1 : Int32)) + (1 : Int32)) + (1 : Int32))] [(.ref a63), (.ref a63), (.int (3 : Int32)), (.ref a61), (.ref a61), (.ref d)] _
    refine XS.aloadN X63.here hx rfl (hb hby own_d1_97) rfl rfl ?_
    show own_S p e below T63 m 98 #[rv d, rv lk, iv (3 : Int32), iv ((((1 : Int32) + (1 : Int32)) + (1 : Int32)) + (1 : Int32))] [(.ref d), (.ref a63), (.ref a63), (.int (3 : Int32)), (.ref a61), (.ref a61), (.ref d)] _
    exact kt
  refine own_st sg64 ?_
  obtain ⟨_, T65, L65, X65, hQ65, st65⟩ := own_callI (y := (⟨"com/example/kingsround/kingsround/engine/Deliveries$1", "<init>", "(Lcom/example/kingsround/kingsround/engine/Deliveries;)V"⟩ : MethodName)) (a := a63) X63 hx hZ hown rfl (hw _ (List.mem_of_getElem? (i := 61) rfl)) (hw _ (List.mem_of_getElem? (i := 62) rfl)) (hw _ (List.mem_of_getElem? (i := 60) rfl)) (hw _ (List.mem_of_getElem? (i := 63) rfl)) (by decide) (own_rmd1 l Z a0 hw a63 d h63 n0 Z63 A63 Gd g_a63) e63 (g := (mkF m 98 #[rv d, rv lk, iv (3 : Int32), iv ((((1 : Int32) + (1 : Int32)) + (1 : Int32)) + (1 : Int32))] [(.ref d), (.ref a63), (.ref a63), (.int (3 : Int32)), (.ref a61), (.ref a61), (.ref d)])) rfl (by rw [hml]; rfl) (argsL := [(.ref d)]) (rest := [(.ref a63), (.int (3 : Int32)), (.ref a61), (.ref a61), (.ref d)]) (lenOf own_pd3 rfl) rfl (W := 5) (by show 2 * 0 + _ ≤ _; exact Nat.le_of_eq rfl) (hb hby own_d1_98) (by decide) (by decide) (by decide) (by decide)
  obtain ⟨rfl, Nq65, K65⟩ := hQ65
  refine own_st st65 ?_
  have Z65 : n0 ≤ T65.heap.size := Nat.le_trans Z63 K65.1
  have N65 := Fr.app N59 Nq65
  show own_Go p e below _ T65 (mkF m 101 #[rv d, rv lk, iv (3 : Int32), iv ((((1 : Int32) + (1 : Int32)) + (1 : Int32)) + (1 : Int32))] [(.ref a63), (.int (3 : Int32)), (.ref a61), (.ref a61), (.ref d)])
  have EE_65 := EE_63.keep K65
  have AL_65 := AL_63.keep K65 (own_ninS (by omega) nin0)
  have EK_65 := EK_63.keep K65
  have Finboxes_65 := Finboxes_63.keep K65 (own_ninS (by omega) nin0)
  have Fkept_65 := Fkept_63.keep K65 (own_ninS (by omega) nin0)
  have FkeptParties_65 := FkeptParties_63.keep K65 (own_ninS (by omega) nin0)
  have FtoAll_65 := FtoAll_63.keep K65 (own_ninS (by omega) nin0)
  have FoneByOne_65 := FoneByOne_63.keep K65 (own_ninS (by omega) nin0)
  have Foutbox_65 := Foutbox_63.keep K65 (own_ninS (by omega) nin0)
  have Fcount_65 := Fcount_63.keep K65 (own_ninS (by omega) nin0)
  have AI_65 := AI_63.keep K65 (own_ninS (by omega) nin0)
  have OV_65 := OV_63.keep K65
  have DV0_65 := DV0_63.keep K65 (own_ninS (by omega) nin0) (own_ninS (by omega) nin0)
  have DV1_65 := DV1_63.keep K65 (own_ninS (by omega) nin0) (own_ninS (by omega) nin0)
  have DV2_65 := DV2_63.keep K65 (own_ninS (by omega) nin0) (own_ninS (by omega) nin0)
  have AK_65 := AK_63.keep K65 (own_ninS (by omega) nin0)
  have AT_65 := AT_63.keep K65 (own_ninS (by omega) nin0)
  have AO_65 := AO_63.keep K65 (own_ninS (by omega) nin0)
  have EO_65 := EO_63.keep K65
  have Gn_65 := Gn_63.keep K65 (own_ninS (by omega) nin0)
  have Gsink_65 := Gsink_63.keep K65 (own_ninS (by omega) nin0)
  have KD65 : Keep h0 T65.heap [d] := KD63.trans K65 (allS (Or.inr sz63) all0)
  obtain ⟨_, T66, L66, X66, hQ66, st66⟩ := own_callI (y := (⟨"com/example/kingsround/kingsround/engine/CheckedOutbox", "<init>", "(ILcom/example/kingsround/kingsround/engine/CheckedOutbox$Sink;)V"⟩ : MethodName)) (a := a61) X65 hx hZ hown rfl (hw _ (List.mem_of_getElem? (i := 67) rfl)) (hw _ (List.mem_of_getElem? (i := 68) rfl)) (hw _ (List.mem_of_getElem? (i := 57) rfl)) (hw _ (List.mem_of_getElem? (i := 69) rfl)) (by decide) (own_rmobx l Z a0 hw a61 (3 : Int32) a63 T65.heap n0 Z65 EO_65 Gn_65 Gsink_65 g_a61) rfl (g := (mkF m 101 #[rv d, rv lk, iv (3 : Int32), iv ((((1 : Int32) + (1 : Int32)) + (1 : Int32)) + (1 : Int32))] [(.ref a63), (.int (3 : Int32)), (.ref a61), (.ref a61), (.ref d)])) rfl (by rw [hml]; rfl) (argsL := [(.int (3 : Int32)), (.ref a63)]) (rest := [(.ref a61), (.ref d)]) (lenOf own_pd4 rfl) rfl (W := 2) (by show 2 * 0 + _ ≤ _; exact Nat.le_of_eq rfl) (hb hby own_d1_101) (by decide) (by decide) (by decide) (by decide)
  obtain ⟨rfl, Nq66, K66⟩ := hQ66
  refine own_st st66 ?_
  have Z66 : n0 ≤ T66.heap.size := Nat.le_trans Z65 K66.1
  have N66 := Fr.app N65 Nq66
  show own_Go p e below _ T66 (mkF m 104 #[rv d, rv lk, iv (3 : Int32), iv ((((1 : Int32) + (1 : Int32)) + (1 : Int32)) + (1 : Int32))] [(.ref a61), (.ref d)])
  have EE_66 := EE_65.keep K66
  have AL_66 := AL_65.keep K66 (own_ninS (by omega) nin0)
  have EK_66 := EK_65.keep K66
  have Finboxes_66 := Finboxes_65.keep K66 (own_ninS (by omega) nin0)
  have Fkept_66 := Fkept_65.keep K66 (own_ninS (by omega) nin0)
  have FkeptParties_66 := FkeptParties_65.keep K66 (own_ninS (by omega) nin0)
  have FtoAll_66 := FtoAll_65.keep K66 (own_ninS (by omega) nin0)
  have FoneByOne_66 := FoneByOne_65.keep K66 (own_ninS (by omega) nin0)
  have Foutbox_66 := Foutbox_65.keep K66 (own_ninS (by omega) nin0)
  have Fcount_66 := Fcount_65.keep K66 (own_ninS (by omega) nin0)
  have AI_66 := AI_65.keep K66 (own_ninS (by omega) nin0)
  have OV_66 := OV_65.keep K66
  have DV0_66 := DV0_65.keep K66 (own_ninS (by omega) nin0) (own_ninS (by omega) nin0)
  have DV1_66 := DV1_65.keep K66 (own_ninS (by omega) nin0) (own_ninS (by omega) nin0)
  have DV2_66 := DV2_65.keep K66 (own_ninS (by omega) nin0) (own_ninS (by omega) nin0)
  have AK_66 := AK_65.keep K66 (own_ninS (by omega) nin0)
  have AT_66 := AT_65.keep K66 (own_ninS (by omega) nin0)
  have AO_66 := AO_65.keep K66 (own_ninS (by omega) nin0)
  have EO_66 := EO_65.keep K66
  have KD66 : Keep h0 T66.heap [d] := KD65.trans K66 (allS (Or.inr sz61) all0)
  obtain ⟨T67, h67, X67, e67, W67, st67⟩ := putF X66 hx hZ hown (host := "") (Or.inl (hw _ (List.mem_of_getElem? (i := 75) rfl))) Via.refl rfl Foutbox_66 EE_66 (Or.inr ⟨(hw _ (List.mem_of_getElem? (i := 76) rfl)), rfl, hnm⟩) (hw _ (List.mem_of_getElem? (i := 3) rfl)) (ty := (.object "com/example/kingsround/kingsround/engine/CheckedOutbox")) (by decide) rfl rfl (g := (mkF m 104 #[rv d, rv lk, iv (3 : Int32), iv ((((1 : Int32) + (1 : Int32)) + (1 : Int32)) + (1 : Int32))] [(.ref a61), (.ref d)])) rfl rfl (hb hby own_d1_104)
  refine own_st st67 ?_
  have Z67 : n0 ≤ h67.size := by rw [Wr.size W67]; exact Z66
  have N67 := Fr.snoc X67 N66 g_d
  show own_Go p e below _ T67 (mkF m 107 #[rv d, rv lk, iv (3 : Int32), iv ((((1 : Int32) + (1 : Int32)) + (1 : Int32)) + (1 : Int32))] [])
  have KK67 := Keep.of_wr W67
  have Finboxes_67 := Finboxes_66.other W67 (Or.inr (slot_ne (Or.inr (hw _ (List.mem_of_getElem? (i := 14) rfl))) (Or.inr (hw _ (List.mem_of_getElem? (i := 76) rfl))) (by decide) (t := (.array (.object "com/example/kingsround/kingsround/engine/Deliveries$Delivered"))) (t' := (.object "com/example/kingsround/kingsround/engine/CheckedOutbox")) (by decide) (by decide)))
  have Fkept_67 := Fkept_66.other W67 (Or.inr (slot_ne (Or.inr (hw _ (List.mem_of_getElem? (i := 43) rfl))) (Or.inr (hw _ (List.mem_of_getElem? (i := 76) rfl))) (by decide) (t := (.array .boolean)) (t' := (.object "com/example/kingsround/kingsround/engine/CheckedOutbox")) (by decide) (by decide)))
  have FkeptParties_67 := FkeptParties_66.other W67 (Or.inr (slot_ne (Or.inr (hw _ (List.mem_of_getElem? (i := 49) rfl))) (Or.inr (hw _ (List.mem_of_getElem? (i := 76) rfl))) (by decide) (t := (.array .int)) (t' := (.object "com/example/kingsround/kingsround/engine/CheckedOutbox")) (by decide) (by decide)))
  have FtoAll_67 := FtoAll_66.other W67 (Or.inr (slot_ne (Or.inr (hw _ (List.mem_of_getElem? (i := 51) rfl))) (Or.inr (hw _ (List.mem_of_getElem? (i := 76) rfl))) (by decide) (t := (.array .byte)) (t' := (.object "com/example/kingsround/kingsround/engine/CheckedOutbox")) (by decide) (by decide)))
  have FoneByOne_67 := FoneByOne_66.other W67 (Or.inr (slot_ne (Or.inr (hw _ (List.mem_of_getElem? (i := 54) rfl))) (Or.inr (hw _ (List.mem_of_getElem? (i := 76) rfl))) (by decide) (t := (.array .boolean)) (t' := (.object "com/example/kingsround/kingsround/engine/CheckedOutbox")) (by decide) (by decide)))
  have Fcount_67 := Fcount_66.other W67 (Or.inr (slot_ne (Or.inl (hw _ (List.mem_of_getElem? (i := 88) rfl))) (Or.inr (hw _ (List.mem_of_getElem? (i := 76) rfl))) (by decide) (t := .long) (t' := (.object "com/example/kingsround/kingsround/engine/CheckedOutbox")) (by decide) (by decide)))
  have EE_67 := EE_66.keep KK67
  have AL_67 := AL_66.keep KK67 (own_ninS (by omega) nin0)
  have EK_67 := EK_66.keep KK67
  have AI_67 := AI_66.keep KK67 (own_ninS (by omega) nin0)
  have OV_67 := OV_66.keep KK67
  have DV0_67 := DV0_66.keep KK67 (own_ninS (by omega) nin0) (own_ninS (by omega) nin0)
  have DV1_67 := DV1_66.keep KK67 (own_ninS (by omega) nin0) (own_ninS (by omega) nin0)
  have DV2_67 := DV2_66.keep KK67 (own_ninS (by omega) nin0) (own_ninS (by omega) nin0)
  have AK_67 := AK_66.keep KK67 (own_ninS (by omega) nin0)
  have AT_67 := AT_66.keep KK67 (own_ninS (by omega) nin0)
  have AO_67 := AO_66.keep KK67 (own_ninS (by omega) nin0)
  have EO_67 := EO_66.keep KK67
  have Foutbox_67 := Foutbox_66.same W67
  have KD67 : Keep h0 h67 [d] := KD66.wr W67 (Or.inl (List.mem_of_getElem? (i := 0) rfl))
  have HA : own_Ad n0 d a4 a44 a51 a58 (fun i => if i = 0 then a13 else if i = 1 then a24 else a35) (fun i => if i = 0 then r15 else if i = 1 then r26 else r37) := ⟨g_d, by omega, by show a4 < a13; omega, by show a13 < r15; omega, by show r15 < a24; omega, by show a24 < r26; omega, by show r26 < a35; omega, by show a35 < r37; omega, by show r37 < a44; omega, by omega, by omega⟩
  have HI : own_AV Z h67 a4 (.object "com/example/kingsround/kingsround/engine/Deliveries$Delivered") 3 (fun i => .ref ((fun i => if i = 0 then a13 else if i = 1 then a24 else a35) i)) := own_AV.congr AI_67 (fun i hi => by rcases own_lt3 hi with rfl | rfl | rfl <;> rfl)
  have HD : ∀ i, i < 3 → own_Dv Z h67 ((fun i => if i = 0 then a13 else if i = 1 then a24 else a35) i) ((fun i => if i = 0 then r15 else if i = 1 then r26 else r37) i) d (Int32.ofNat (i + 1)) (fun _ => -1) := fun i hi => by
    rcases own_lt3 hi with rfl | rfl | rfl
    · exact DV0_67
    · exact DV1_67
    · exact DV2_67
  exact own_retV X67 hx Bd.notSynchronized Bd.returns (hb hby own_d1_107) (by decide) (by decide) e67 ⟨rfl, N67, KD67, a4, a44, a51, a58, _, _, HA, EE_67, Finboxes_67, Fkept_67, FtoAll_67, FoneByOne_67, Fcount_67, HI, AK_67, AT_67, AO_67, HD⟩
abbrev own_sto (K T : Nat → Int32) (R : Nat → Nat → Int32) (kf ky : Nat) : Prop := ¬ (K kf = 0 ∧ K ky = 0) ∧ R ky kf = -1 ∧ T kf = -1
def own_by (v : Int32) : Int32 := nar .byte v.toInt8.toInt32
def own_pr (K T : Nat → Int32) (R : Nat → Nat → Int32) (kf ky : Nat) : Int32 := if K kf = 0 ∧ K ky = 0 then 1 else if own_sto K T R kf ky then 1 else 0
def own_pO (K T O : Nat → Int32) (R : Nat → Nat → Int32) (kf ky : Nat) : Nat → Int32 := if own_sto K T R kf ky then own_upd O kf 1 else O
def own_updR (R : Nat → Nat → Int32) (ky kf : Nat) (v : Int32) : Nat → Nat → Int32 := fun i => if i = ky then own_upd (R ky) kf v else R i
def own_pR (K T : Nat → Int32) (R : Nat → Nat → Int32) (kf ky : Nat) (v : Int32) : Nat → Nat → Int32 := if own_sto K T R kf ky then own_updR R ky kf (own_by v) else R
def own_pc (K T : Nat → Int32) (R : Nat → Nat → Int32) (kf ky : Nat) (cnt : Int64) : Int64 := if own_sto K T R kf ky then cnt + 1 else cnt
abbrev own_ta (K T O : Nat → Int32) (kf : Nat) : Prop := ¬ K kf = 0 ∧ O kf = 0 ∧ T kf = -1
def own_ar (K T O : Nat → Int32) (kf : Nat) : Int32 := if own_ta K T O kf then 1 else 0
def own_aT (K T O : Nat → Int32) (kf : Nat) (v : Int32) : Nat → Int32 := if own_ta K T O kf then own_upd T kf (own_by v) else T
def own_ac (K T O : Nat → Int32) (kf : Nat) (cnt : Int64) : Int64 := if own_ta K T O kf then cnt + ((3 : Int32) - (1 : Int32)).toInt64 else cnt
def own_val (T : Nat → Int32) (R : Nat → Nat → Int32) (kf ky : Nat) : Int32 := if T kf = -1 then R ky kf else if kf = ky then R ky kf else T kf
theorem own_pr01 (K T : Nat → Int32) (R : Nat → Nat → Int32) (kf ky : Nat) : own_pr K T R kf ky = 0 ∨ own_pr K T R kf ky = 1 := by unfold own_pr; repeat' (first | exact Or.inl rfl | exact Or.inr rfl | split)
theorem own_ar01 (K T O : Nat → Int32) (kf : Nat) : own_ar K T O kf = 0 ∨ own_ar K T O kf = 1 := by unfold own_ar; repeat' (first | exact Or.inl rfl | exact Or.inr rfl | split)
theorem own_i1 {x : Int32} {k : Nat} (h : x.toInt = ((k + 1 : Nat) : Int)) : (x - (1 : Int32)).toInt = (k : Int) := by
  have c := c_isub x 1
  have r := rng32 (x - (1 : Int32))
  have r2 := rng32 x
  have e : (1 : Int32).toInt = 1 := by decide
  rw [e] at c; omega
theorem own_Ad.lo {n0 : Nat} {d ib kp ta ob : Nat} {q r : Nat → Nat} (H : own_Ad n0 d ib kp ta ob q r) {i : Nat} (hi : i < 3) : d < q i ∧ ib < q i ∧ q i < r i ∧ r i < kp ∧ n0 ≤ r i ∧ (∀ j, j < 3 → j ≠ i → r j ≠ r i ∧ q j ≠ r i) := by
  obtain ⟨h1, h2, h3, h4, h5, h6, h7, h8, h9, h10, h11⟩ := H
  have key : ∀ j, j < 3 → j ≠ i → r j ≠ r i ∧ q j ≠ r i := fun j hj hn => by
    rcases own_lt3 hi with rfl | rfl | rfl <;> rcases own_lt3 hj with rfl | rfl | rfl <;> first | exact absurd rfl hn | (constructor <;> omega)
  rcases own_lt3 hi with rfl | rfl | rfl <;> exact ⟨by omega, by omega, by omega, by omega, by omega, key⟩
theorem own_Ad.rest {n0 : Nat} {d ib kp ta ob : Nat} {q r : Nat → Nat} (H : own_Ad n0 d ib kp ta ob q r) : n0 ≤ d ∧ d < ib ∧ d < kp ∧ ib < kp ∧ kp < ta ∧ ta < ob := by
  obtain ⟨h1, h2, h3, h4, h5, h6, h7, h8, h9, h10, h11⟩ := H
  exact ⟨h1, h2, by omega, by omega, h10, h11⟩
theorem own_d9_0 : decode prog_65_method_4_code 0 = .ok (.aload_n 0, 1) := by decide +kernel
theorem own_d9_1 : decode prog_65_method_4_code 1 = .ok (.getfield 76, 3) := by decide +kernel
theorem own_d9_4 : decode prog_65_method_4_code 4 = .ok (.lreturn, 1) := by decide +kernel
theorem own_efcnt (m : MethodId) (d : Nat) : entryFrame m #[(.ref d)] 1 = mkF m 0 #[rv d] [] := by first | (simp [entryFrame, mkF, argsToLocals, Value.category]; done) | rfl
set_option maxRecDepth 65536 in
set_option maxHeartbeats 40000000 in
theorem own_rmcnt (l : Launch) (Z : State) (a0 : Array Value) (hw : ∀ d ∈ tables_1, d.before a0 Z = true) (d : Nat) (ib kp ta ob : Nat) (q r : Nat → Nat) (kk vT vO : Nat → Int32) (vR : Nat → Nat → Int32) (cnt : Int64) (h0 : Heap) (n0 : Nat) (Z0 : n0 ≤ h0.size) (HA : own_Ad n0 d ib kp ta ob q r) (HD : own_D Z h0 d ib kp ta ob q r kk vT vO vR cnt) :
    own_Ct l Z (⟨"com/example/kingsround/kingsround/engine/Deliveries", "count", "()J"⟩ : MethodName) prog_65_method_4_code 1 (some .long) ({ frames := 0, cells := 0, slots := 0, locals := 0 } : Room) #[(.ref d)] h0 (fun v h L => v = some (.long cnt) ∧ Fr n0 L ∧ h = h0) := by
  refine own_body (y := (⟨"com/example/kingsround/kingsround/engine/Deliveries", "count", "()J"⟩ : MethodName)) (Q := fun v h L => v = some (.long cnt) ∧ Fr n0 L ∧ h = h0) (plainFor_of_name own_pn1) ?_
  intro p e s m below meth c s₁ Bd hml0 hZ e0
  have hx := Bd.exec
  have hby := Bd.bytes
  have hml : c.maxLocals = 1 := hml0
  have hown : s.vm.findClass "com/example/kingsround/kingsround/engine/Deliveries" = some m.cls := findClass_of_methodNamed Bd.named
  have hnm := (name_of_methodNamed Bd.named Bd.method).1
  have X0 : Stand p l e ({ frames := 0, cells := 0, slots := 0, locals := 0 } : Room) s m #[(.ref d)] below meth c s₁ [] 0 0 := Stand.of_body Bd
  have N0 := Fr.nil n0
  rw [own_efcnt]
  obtain ⟨EE, Finboxes, Fkept, FtoAll, FoneByOne, Fcount, AI, AK, AT, AO, DVS⟩ := HD
  have sg1 : own_V p e below s₁ (mkF m 1 #[rv d] [(.ref d)]) (mkF m 0 #[rv d] []) := by
    intro t kt
    refine XS.aloadN X0.here hx rfl (hb hby own_d9_0) rfl rfl ?_
    show own_S p e below s₁ m 1 #[rv d] [(.ref d)] _
    exact kt
  refine own_st sg1 ?_
  obtain ⟨T2, X2, e2, st2⟩ := getF X0 hx hZ hown (host := "") (Or.inl (hw _ (List.mem_of_getElem? (i := 87) rfl))) Via.refl e0 Fcount (g := (mkF m 1 #[rv d] [(.ref d)])) rfl rfl (hb hby own_d9_1)
  refine own_st st2 ?_
  show own_Go p e below _ T2 (mkF m 4 #[rv d] [(.long cnt)])
  exact own_retJ X2 hx Bd.notSynchronized Bd.returns (hb hby own_d9_4) (by decide) (by decide) e2 ⟨rfl, N0, rfl⟩
theorem own_d8_0 : decode prog_65_method_9_code 0 = .ok (.aload_n 0, 1) := by decide +kernel
theorem own_d8_1 : decode prog_65_method_9_code 1 = .ok (.getfield 31, 3) := by decide +kernel
theorem own_d8_4 : decode prog_65_method_9_code 4 = .ok (.iload_n 1, 1) := by decide +kernel
theorem own_d8_5 : decode prog_65_method_9_code 5 = .ok (.iconst 1, 1) := by decide +kernel
theorem own_d8_6 : decode prog_65_method_9_code 6 = .ok (.isub, 1) := by decide +kernel
theorem own_d8_7 : decode prog_65_method_9_code 7 = .ok (.baload, 1) := by decide +kernel
theorem own_d8_8 : decode prog_65_method_9_code 8 = .ok (.ifCond .ne 16, 3) := by decide +kernel
theorem own_d8_11 : decode prog_65_method_9_code 11 = .ok (.aload_n 0, 1) := by decide +kernel
theorem own_d8_12 : decode prog_65_method_9_code 12 = .ok (.getfield 31, 3) := by decide +kernel
theorem own_d8_15 : decode prog_65_method_9_code 15 = .ok (.iload_n 2, 1) := by decide +kernel
theorem own_d8_16 : decode prog_65_method_9_code 16 = .ok (.iconst 1, 1) := by decide +kernel
theorem own_d8_17 : decode prog_65_method_9_code 17 = .ok (.isub, 1) := by decide +kernel
theorem own_d8_18 : decode prog_65_method_9_code 18 = .ok (.baload, 1) := by decide +kernel
theorem own_d8_19 : decode prog_65_method_9_code 19 = .ok (.ifCond .ne 5, 3) := by decide +kernel
theorem own_d8_22 : decode prog_65_method_9_code 22 = .ok (.iconst 1, 1) := by decide +kernel
theorem own_d8_23 : decode prog_65_method_9_code 23 = .ok (.ireturn, 1) := by decide +kernel
theorem own_d8_24 : decode prog_65_method_9_code 24 = .ok (.aload_n 0, 1) := by decide +kernel
theorem own_d8_25 : decode prog_65_method_9_code 25 = .ok (.getfield 18, 3) := by decide +kernel
theorem own_d8_28 : decode prog_65_method_9_code 28 = .ok (.iload_n 2, 1) := by decide +kernel
theorem own_d8_29 : decode prog_65_method_9_code 29 = .ok (.iconst 1, 1) := by decide +kernel
theorem own_d8_30 : decode prog_65_method_9_code 30 = .ok (.isub, 1) := by decide +kernel
theorem own_d8_31 : decode prog_65_method_9_code 31 = .ok (.aaload, 1) := by decide +kernel
theorem own_d8_32 : decode prog_65_method_9_code 32 = .ok (.getfield 70, 3) := by decide +kernel
theorem own_d8_35 : decode prog_65_method_9_code 35 = .ok (.astore 4, 2) := by decide +kernel
theorem own_d8_37 : decode prog_65_method_9_code 37 = .ok (.aload 4, 2) := by decide +kernel
theorem own_d8_39 : decode prog_65_method_9_code 39 = .ok (.iload_n 1, 1) := by decide +kernel
theorem own_d8_40 : decode prog_65_method_9_code 40 = .ok (.iconst 1, 1) := by decide +kernel
theorem own_d8_41 : decode prog_65_method_9_code 41 = .ok (.isub, 1) := by decide +kernel
theorem own_d8_42 : decode prog_65_method_9_code 42 = .ok (.baload, 1) := by decide +kernel
theorem own_d8_43 : decode prog_65_method_9_code 43 = .ok (.iconst (-1), 1) := by decide +kernel
theorem own_d8_44 : decode prog_65_method_9_code 44 = .ok (.if_icmp .ne 15, 3) := by decide +kernel
theorem own_d8_47 : decode prog_65_method_9_code 47 = .ok (.aload_n 0, 1) := by decide +kernel
theorem own_d8_48 : decode prog_65_method_9_code 48 = .ok (.getfield 41, 3) := by decide +kernel
theorem own_d8_51 : decode prog_65_method_9_code 51 = .ok (.iload_n 1, 1) := by decide +kernel
theorem own_d8_52 : decode prog_65_method_9_code 52 = .ok (.iconst 1, 1) := by decide +kernel
theorem own_d8_53 : decode prog_65_method_9_code 53 = .ok (.isub, 1) := by decide +kernel
theorem own_d8_54 : decode prog_65_method_9_code 54 = .ok (.baload, 1) := by decide +kernel
theorem own_d8_55 : decode prog_65_method_9_code 55 = .ok (.iconst (-1), 1) := by decide +kernel
theorem own_d8_56 : decode prog_65_method_9_code 56 = .ok (.if_icmp .eq 5, 3) := by decide +kernel
theorem own_d8_59 : decode prog_65_method_9_code 59 = .ok (.iconst 0, 1) := by decide +kernel
theorem own_d8_60 : decode prog_65_method_9_code 60 = .ok (.ireturn, 1) := by decide +kernel
theorem own_d8_61 : decode prog_65_method_9_code 61 = .ok (.aload 4, 2) := by decide +kernel
theorem own_d8_63 : decode prog_65_method_9_code 63 = .ok (.iload_n 1, 1) := by decide +kernel
theorem own_d8_64 : decode prog_65_method_9_code 64 = .ok (.iconst 1, 1) := by decide +kernel
theorem own_d8_65 : decode prog_65_method_9_code 65 = .ok (.isub, 1) := by decide +kernel
theorem own_d8_66 : decode prog_65_method_9_code 66 = .ok (.iload_n 3, 1) := by decide +kernel
theorem own_d8_67 : decode prog_65_method_9_code 67 = .ok (.i2b, 1) := by decide +kernel
theorem own_d8_68 : decode prog_65_method_9_code 68 = .ok (.bastore, 1) := by decide +kernel
theorem own_d8_69 : decode prog_65_method_9_code 69 = .ok (.aload_n 0, 1) := by decide +kernel
theorem own_d8_70 : decode prog_65_method_9_code 70 = .ok (.getfield 53, 3) := by decide +kernel
theorem own_d8_73 : decode prog_65_method_9_code 73 = .ok (.iload_n 1, 1) := by decide +kernel
theorem own_d8_74 : decode prog_65_method_9_code 74 = .ok (.iconst 1, 1) := by decide +kernel
theorem own_d8_75 : decode prog_65_method_9_code 75 = .ok (.isub, 1) := by decide +kernel
theorem own_d8_76 : decode prog_65_method_9_code 76 = .ok (.iconst 1, 1) := by decide +kernel
theorem own_d8_77 : decode prog_65_method_9_code 77 = .ok (.bastore, 1) := by decide +kernel
theorem own_d8_78 : decode prog_65_method_9_code 78 = .ok (.aload_n 0, 1) := by decide +kernel
theorem own_d8_79 : decode prog_65_method_9_code 79 = .ok (.dup, 1) := by decide +kernel
theorem own_d8_80 : decode prog_65_method_9_code 80 = .ok (.getfield 76, 3) := by decide +kernel
theorem own_d8_83 : decode prog_65_method_9_code 83 = .ok (.lconst 1, 1) := by decide +kernel
theorem own_d8_84 : decode prog_65_method_9_code 84 = .ok (.ladd, 1) := by decide +kernel
theorem own_d8_85 : decode prog_65_method_9_code 85 = .ok (.putfield 76, 3) := by decide +kernel
theorem own_d8_88 : decode prog_65_method_9_code 88 = .ok (.iconst 1, 1) := by decide +kernel
theorem own_d8_89 : decode prog_65_method_9_code 89 = .ok (.ireturn, 1) := by decide +kernel
theorem own_efput (m : MethodId) (d : Nat) (x : Int32) (y : Int32) (va : Int32) : entryFrame m #[(.ref d), (.int x), (.int y), (.int va)] 5 = mkF m 0 #[rv d, iv x, iv y, iv va, .unset] [] := by first | (simp [entryFrame, mkF, argsToLocals, Value.category]; done) | rfl
set_option maxRecDepth 65536 in
set_option maxHeartbeats 40000000 in
theorem own_rmput (l : Launch) (Z : State) (a0 : Array Value) (hw : ∀ d ∈ tables_1, d.before a0 Z = true) (d : Nat) (x : Int32) (y : Int32) (va : Int32) (ib kp ta ob : Nat) (q r : Nat → Nat) (kk vT vO : Nat → Int32) (vR : Nat → Nat → Int32) (cnt : Int64) (kf ky : Nat) (h0 : Heap) (n0 : Nat) (Z0 : n0 ≤ h0.size) (HA : own_Ad n0 d ib kp ta ob q r) (HD : own_D Z h0 d ib kp ta ob q r kk vT vO vR cnt) (hkf : x.toInt = ((kf + 1 : Nat) : Int)) (hky : y.toInt = ((ky + 1 : Nat) : Int)) (hf3 : kf < 3) (ht3 : ky < 3) :
    own_Ct l Z (⟨"com/example/kingsround/kingsround/engine/Deliveries", "put", "(III)Z"⟩ : MethodName) prog_65_method_9_code 5 (some .boolean) ({ frames := 0, cells := 0, slots := 0, locals := 0 } : Room) #[(.ref d), (.int x), (.int y), (.int va)] h0 (fun v h L => v = some (.int (own_pr kk vT vR kf ky)) ∧ Fr n0 L ∧ h0.size ≤ h.size ∧ own_D Z h d ib kp ta ob q r kk vT (own_pO kk vT vO vR kf ky) (own_pR kk vT vR kf ky va) (own_pc kk vT vR kf ky cnt)) := by
  refine own_body (y := (⟨"com/example/kingsround/kingsround/engine/Deliveries", "put", "(III)Z"⟩ : MethodName)) (Q := fun v h L => v = some (.int (own_pr kk vT vR kf ky)) ∧ Fr n0 L ∧ h0.size ≤ h.size ∧ own_D Z h d ib kp ta ob q r kk vT (own_pO kk vT vO vR kf ky) (own_pR kk vT vR kf ky va) (own_pc kk vT vR kf ky cnt)) (plainFor_of_name own_pn1) ?_
  intro p e s m below meth c s₁ Bd hml0 hZ e0
  have hx := Bd.exec
  have hby := Bd.bytes
  have hml : c.maxLocals = 5 := hml0
  have hown : s.vm.findClass "com/example/kingsround/kingsround/engine/Deliveries" = some m.cls := findClass_of_methodNamed Bd.named
  have hnm := (name_of_methodNamed Bd.named Bd.method).1
  have X0 : Stand p l e ({ frames := 0, cells := 0, slots := 0, locals := 0 } : Room) s m #[(.ref d), (.int x), (.int y), (.int va)] below meth c s₁ [] 0 0 := Stand.of_body Bd
  have N0 := Fr.nil n0
  rw [own_efput]
  have HD0 := HD
  obtain ⟨EE, Finboxes, Fkept, FtoAll, FoneByOne, Fcount, AI, AK, AT, AO, DVS⟩ := HD
  have if1 := own_i1 hkf
  have it1 := own_i1 hky
  have DVT := DVS ky ht3
  by_cases hE : kk kf = 0 ∧ kk ky = 0
  · skip
    have sg1 : own_V p e below s₁ (mkF m 1 #[rv d, iv x, iv y, iv va, .unset] [(.ref d)]) (mkF m 0 #[rv d, iv x, iv y, iv va, .unset] []) := by
      intro t kt
      refine XS.aloadN X0.here hx rfl (hb hby own_d8_0) rfl rfl ?_
      show own_S p e below s₁ m 1 #[rv d, iv x, iv y, iv va, .unset] [(.ref d)] _
      exact kt
    refine own_st sg1 ?_
    obtain ⟨T2, X2, e2, st2⟩ := getF X0 hx hZ hown (host := "") (Or.inl (hw _ (List.mem_of_getElem? (i := 42) rfl))) Via.refl e0 Fkept (g := (mkF m 1 #[rv d, iv x, iv y, iv va, .unset] [(.ref d)])) rfl rfl (hb hby own_d8_1)
    refine own_st st2 ?_
    show own_Go p e below _ T2 (mkF m 4 #[rv d, iv x, iv y, iv va, .unset] [(.ref kp)])
    have sg3 : own_V p e below T2 (mkF m 8 #[rv d, iv x, iv y, iv va, .unset] [(.int (kk kf))]) (mkF m 4 #[rv d, iv x, iv y, iv va, .unset] [(.ref kp)]) := by
      intro t kt
      refine XS.iloadN X2.here hx rfl (hb hby own_d8_4) rfl ?_
      show own_S p e below T2 m 5 #[rv d, iv x, iv y, iv va, .unset] [(.int x), (.ref kp)] _
      refine XS.iconst X2.here hx rfl (hb hby own_d8_5) ?_
      show own_S p e below T2 m 6 #[rv d, iv x, iv y, iv va, .unset] [(.int (1 : Int32)), (.int x), (.ref kp)] _
      refine XS.isub X2.here hx rfl (hb hby own_d8_6) rfl ?_
      show own_S p e below T2 m 7 #[rv d, iv x, iv y, iv va, .unset] [(.int (x - (1 : Int32))), (.ref kp)] _
      refine own_rdZ X2 hx hZ e2 AK if1 hf3 (g := (mkF m 7 #[rv d, iv x, iv y, iv va, .unset] [(.int (x - (1 : Int32))), (.ref kp)])) rfl rfl (hb hby own_d8_7) _ ?_
      show own_S p e below T2 m 8 #[rv d, iv x, iv y, iv va, .unset] [(.int (kk kf))] _
      exact kt
    refine own_st sg3 ?_
    have hc4 : (kk kf) = (0 : Int32) := hE.1
    have sg5 : own_V p e below T2 (mkF m 11 #[rv d, iv x, iv y, iv va, .unset] []) (mkF m 8 #[rv d, iv x, iv y, iv va, .unset] [(.int (kk kf))]) := by
      intro t kt
      refine XS.ifNo X2.here hx rfl (hb hby own_d8_8) rfl ((if0 _ _).trans (teq hc4).2) ?_
      exact kt
    refine own_st sg5 ?_
    have sg6 : own_V p e below T2 (mkF m 12 #[rv d, iv x, iv y, iv va, .unset] [(.ref d)]) (mkF m 11 #[rv d, iv x, iv y, iv va, .unset] []) := by
      intro t kt
      refine XS.aloadN X2.here hx rfl (hb hby own_d8_11) rfl rfl ?_
      show own_S p e below T2 m 12 #[rv d, iv x, iv y, iv va, .unset] [(.ref d)] _
      exact kt
    refine own_st sg6 ?_
    obtain ⟨T7, X7, e7, st7⟩ := getF X2 hx hZ hown (host := "") (Or.inl (hw _ (List.mem_of_getElem? (i := 42) rfl))) Via.refl e2 Fkept (g := (mkF m 12 #[rv d, iv x, iv y, iv va, .unset] [(.ref d)])) rfl rfl (hb hby own_d8_12)
    refine own_st st7 ?_
    show own_Go p e below _ T7 (mkF m 15 #[rv d, iv x, iv y, iv va, .unset] [(.ref kp)])
    have sg8 : own_V p e below T7 (mkF m 19 #[rv d, iv x, iv y, iv va, .unset] [(.int (kk ky))]) (mkF m 15 #[rv d, iv x, iv y, iv va, .unset] [(.ref kp)]) := by
      intro t kt
      refine XS.iloadN X7.here hx rfl (hb hby own_d8_15) rfl ?_
      show own_S p e below T7 m 16 #[rv d, iv x, iv y, iv va, .unset] [(.int y), (.ref kp)] _
      refine XS.iconst X7.here hx rfl (hb hby own_d8_16) ?_
      show own_S p e below T7 m 17 #[rv d, iv x, iv y, iv va, .unset] [(.int (1 : Int32)), (.int y), (.ref kp)] _
      refine XS.isub X7.here hx rfl (hb hby own_d8_17) rfl ?_
      show own_S p e below T7 m 18 #[rv d, iv x, iv y, iv va, .unset] [(.int (y - (1 : Int32))), (.ref kp)] _
      refine own_rdZ X7 hx hZ e7 AK it1 ht3 (g := (mkF m 18 #[rv d, iv x, iv y, iv va, .unset] [(.int (y - (1 : Int32))), (.ref kp)])) rfl rfl (hb hby own_d8_18) _ ?_
      show own_S p e below T7 m 19 #[rv d, iv x, iv y, iv va, .unset] [(.int (kk ky))] _
      exact kt
    refine own_st sg8 ?_
    have hc9 : (kk ky) = (0 : Int32) := hE.2
    have sg10 : own_V p e below T7 (mkF m 22 #[rv d, iv x, iv y, iv va, .unset] []) (mkF m 19 #[rv d, iv x, iv y, iv va, .unset] [(.int (kk ky))]) := by
      intro t kt
      refine XS.ifNo X7.here hx rfl (hb hby own_d8_19) rfl ((if0 _ _).trans (teq hc9).2) ?_
      exact kt
    refine own_st sg10 ?_
    have sg11 : own_V p e below T7 (mkF m 23 #[rv d, iv x, iv y, iv va, .unset] [(.int (1 : Int32))]) (mkF m 22 #[rv d, iv x, iv y, iv va, .unset] []) := by
      intro t kt
      refine XS.iconst X7.here hx rfl (hb hby own_d8_22) ?_
      show own_S p e below T7 m 23 #[rv d, iv x, iv y, iv va, .unset] [(.int (1 : Int32))] _
      exact kt
    refine own_st sg11 ?_
    have hF : own_pr kk vT vR kf ky = (1 : Int32) ∧ ¬ own_sto kk vT vR kf ky := ⟨if_pos hE, fun z => z.1 hE⟩
    exact own_retZ X7 hx Bd.notSynchronized Bd.returns (hb hby own_d8_23) (by decide) (by decide) (by decide) e7 ⟨by rw [hF.1], N0, Nat.le_refl _, by unfold own_pO own_pR own_pc; rw [if_neg hF.2, if_neg hF.2, if_neg hF.2]; exact HD0⟩
  obtain ⟨T12, _, ⟨h12, L12, rfl, X12, e12, N12, Z12, hh12, -⟩, st12⟩ : own_Pk p e below (fun T' f' => ∃ (h' : Heap) (locs' : List Loc), f' = (mkF m 24 #[rv d, iv x, iv y, iv va, .unset] []) ∧ Stand p l e ({ frames := 0, cells := 0, slots := 0, locals := 0 } : Room) s m #[(.ref d), (.int x), (.int y), (.int va)] below meth c T' locs' 0 0 ∧ T'.heap = h' ∧ Fr n0 locs' ∧ n0 ≤ h'.size ∧ (h' = h0 ∧ True)) s₁ (mkF m 0 #[rv d, iv x, iv y, iv va, .unset] []) := by
    have sg13 : own_V p e below s₁ (mkF m 1 #[rv d, iv x, iv y, iv va, .unset] [(.ref d)]) (mkF m 0 #[rv d, iv x, iv y, iv va, .unset] []) := by
      intro t kt
      refine XS.aloadN X0.here hx rfl (hb hby own_d8_0) rfl rfl ?_
      show own_S p e below s₁ m 1 #[rv d, iv x, iv y, iv va, .unset] [(.ref d)] _
      exact kt
    refine own_sp sg13 ?_
    obtain ⟨T14, X14, e14, st14⟩ := getF X0 hx hZ hown (host := "") (Or.inl (hw _ (List.mem_of_getElem? (i := 42) rfl))) Via.refl e0 Fkept (g := (mkF m 1 #[rv d, iv x, iv y, iv va, .unset] [(.ref d)])) rfl rfl (hb hby own_d8_1)
    refine own_sp st14 ?_
    show own_Pk p e below _ T14 (mkF m 4 #[rv d, iv x, iv y, iv va, .unset] [(.ref kp)])
    have sg15 : own_V p e below T14 (mkF m 8 #[rv d, iv x, iv y, iv va, .unset] [(.int (kk kf))]) (mkF m 4 #[rv d, iv x, iv y, iv va, .unset] [(.ref kp)]) := by
      intro t kt
      refine XS.iloadN X14.here hx rfl (hb hby own_d8_4) rfl ?_
      show own_S p e below T14 m 5 #[rv d, iv x, iv y, iv va, .unset] [(.int x), (.ref kp)] _
      refine XS.iconst X14.here hx rfl (hb hby own_d8_5) ?_
      show own_S p e below T14 m 6 #[rv d, iv x, iv y, iv va, .unset] [(.int (1 : Int32)), (.int x), (.ref kp)] _
      refine XS.isub X14.here hx rfl (hb hby own_d8_6) rfl ?_
      show own_S p e below T14 m 7 #[rv d, iv x, iv y, iv va, .unset] [(.int (x - (1 : Int32))), (.ref kp)] _
      refine own_rdZ X14 hx hZ e14 AK if1 hf3 (g := (mkF m 7 #[rv d, iv x, iv y, iv va, .unset] [(.int (x - (1 : Int32))), (.ref kp)])) rfl rfl (hb hby own_d8_7) _ ?_
      show own_S p e below T14 m 8 #[rv d, iv x, iv y, iv va, .unset] [(.int (kk kf))] _
      exact kt
    refine own_sp sg15 ?_
    by_cases hc16 : (kk kf) = (0 : Int32)
    · skip
      have sg17 : own_V p e below T14 (mkF m 11 #[rv d, iv x, iv y, iv va, .unset] []) (mkF m 8 #[rv d, iv x, iv y, iv va, .unset] [(.int (kk kf))]) := by
        intro t kt
        refine XS.ifNo X14.here hx rfl (hb hby own_d8_8) rfl ((if0 _ _).trans (teq hc16).2) ?_
        exact kt
      refine own_sp sg17 ?_
      have sg18 : own_V p e below T14 (mkF m 12 #[rv d, iv x, iv y, iv va, .unset] [(.ref d)]) (mkF m 11 #[rv d, iv x, iv y, iv va, .unset] []) := by
        intro t kt
        refine XS.aloadN X14.here hx rfl (hb hby own_d8_11) rfl rfl ?_
        show own_S p e below T14 m 12 #[rv d, iv x, iv y, iv va, .unset] [(.ref d)] _
        exact kt
      refine own_sp sg18 ?_
      obtain ⟨T19, X19, e19, st19⟩ := getF X14 hx hZ hown (host := "") (Or.inl (hw _ (List.mem_of_getElem? (i := 42) rfl))) Via.refl e14 Fkept (g := (mkF m 12 #[rv d, iv x, iv y, iv va, .unset] [(.ref d)])) rfl rfl (hb hby own_d8_12)
      refine own_sp st19 ?_
      show own_Pk p e below _ T19 (mkF m 15 #[rv d, iv x, iv y, iv va, .unset] [(.ref kp)])
      have sg20 : own_V p e below T19 (mkF m 19 #[rv d, iv x, iv y, iv va, .unset] [(.int (kk ky))]) (mkF m 15 #[rv d, iv x, iv y, iv va, .unset] [(.ref kp)]) := by
        intro t kt
        refine XS.iloadN X19.here hx rfl (hb hby own_d8_15) rfl ?_
        show own_S p e below T19 m 16 #[rv d, iv x, iv y, iv va, .unset] [(.int y), (.ref kp)] _
        refine XS.iconst X19.here hx rfl (hb hby own_d8_16) ?_
        show own_S p e below T19 m 17 #[rv d, iv x, iv y, iv va, .unset] [(.int (1 : Int32)), (.int y), (.ref kp)] _
        refine XS.isub X19.here hx rfl (hb hby own_d8_17) rfl ?_
        show own_S p e below T19 m 18 #[rv d, iv x, iv y, iv va, .unset] [(.int (y - (1 : Int32))), (.ref kp)] _
        refine own_rdZ X19 hx hZ e19 AK it1 ht3 (g := (mkF m 18 #[rv d, iv x, iv y, iv va, .unset] [(.int (y - (1 : Int32))), (.ref kp)])) rfl rfl (hb hby own_d8_18) _ ?_
        show own_S p e below T19 m 19 #[rv d, iv x, iv y, iv va, .unset] [(.int (kk ky))] _
        exact kt
      refine own_sp sg20 ?_
      have hc21 : ¬ (kk ky) = (0 : Int32) := fun z => hE ⟨hc16, z⟩
      have sg22 : own_V p e below T19 (mkF m 24 #[rv d, iv x, iv y, iv va, .unset] []) (mkF m 19 #[rv d, iv x, iv y, iv va, .unset] [(.int (kk ky))]) := by
        intro t kt
        refine XS.ifYes X19.here hx rfl (pc0 := 19) (pc' := 24) rfl (hb hby own_d8_19) rfl ((if0 _ _).trans (feq hc21).2) (by decide) (by decide) ?_
        exact kt
      refine own_sp sg22 ?_
      have hH : h0 = h0 := rfl
      exact ⟨T19, _, ⟨_, _, rfl, X19, e19, N0, Z0, ⟨rfl, trivial⟩⟩, fun t k => k⟩
    have sg23 : own_V p e below T14 (mkF m 24 #[rv d, iv x, iv y, iv va, .unset] []) (mkF m 8 #[rv d, iv x, iv y, iv va, .unset] [(.int (kk kf))]) := by
      intro t kt
      refine XS.ifYes X14.here hx rfl (pc0 := 8) (pc' := 24) rfl (hb hby own_d8_8) rfl ((if0 _ _).trans (feq hc16).2) (by decide) (by decide) ?_
      exact kt
    refine own_sp sg23 ?_
    exact ⟨T14, _, ⟨_, _, rfl, X14, e14, N0, Z0, ⟨rfl, trivial⟩⟩, fun t k => k⟩
  refine own_st st12 ?_
  show own_Go p e below _ T12 (mkF m 24 #[rv d, iv x, iv y, iv va, .unset] [])
  have e12x : T12.heap = h0 := e12.trans hh12
  have sg24 : own_V p e below T12 (mkF m 25 #[rv d, iv x, iv y, iv va, .unset] [(.ref d)]) (mkF m 24 #[rv d, iv x, iv y, iv va, .unset] []) := by
    intro t kt
    refine XS.aloadN X12.here hx rfl (hb hby own_d8_24) rfl rfl ?_
    show own_S p e below T12 m 25 #[rv d, iv x, iv y, iv va, .unset] [(.ref d)] _
    exact kt
  refine own_st sg24 ?_
  obtain ⟨T25, X25, e25, st25⟩ := getF X12 hx hZ hown (host := "") (Or.inl (hw _ (List.mem_of_getElem? (i := 13) rfl))) Via.refl e12x Finboxes (g := (mkF m 25 #[rv d, iv x, iv y, iv va, .unset] [(.ref d)])) rfl rfl (hb hby own_d8_25)
  refine own_st st25 ?_
  show own_Go p e below _ T25 (mkF m 28 #[rv d, iv x, iv y, iv va, .unset] [(.ref ib)])
  have sg26 : own_V p e below T25 (mkF m 32 #[rv d, iv x, iv y, iv va, .unset] [(.ref (q ky))]) (mkF m 28 #[rv d, iv x, iv y, iv va, .unset] [(.ref ib)]) := by
    intro t kt
    refine XS.iloadN X25.here hx rfl (hb hby own_d8_28) rfl ?_
    show own_S p e below T25 m 29 #[rv d, iv x, iv y, iv va, .unset] [(.int y), (.ref ib)] _
    refine XS.iconst X25.here hx rfl (hb hby own_d8_29) ?_
    show own_S p e below T25 m 30 #[rv d, iv x, iv y, iv va, .unset] [(.int (1 : Int32)), (.int y), (.ref ib)] _
    refine XS.isub X25.here hx rfl (hb hby own_d8_30) rfl ?_
    show own_S p e below T25 m 31 #[rv d, iv x, iv y, iv va, .unset] [(.int (y - (1 : Int32))), (.ref ib)] _
    refine own_rdR X25 hx hZ e25 AI rfl it1 ht3 (g := (mkF m 31 #[rv d, iv x, iv y, iv va, .unset] [(.int (y - (1 : Int32))), (.ref ib)])) rfl rfl (hb hby own_d8_31) _ ?_
    show own_S p e below T25 m 32 #[rv d, iv x, iv y, iv va, .unset] [(.ref (q ky))] _
    exact kt
  refine own_st sg26 ?_
  have st27 := own_getR X25 hx hZ hown (hw _ (List.mem_of_getElem? (i := 106) rfl)) e25 DVT.2.2.2.1 (g := (mkF m 32 #[rv d, iv x, iv y, iv va, .unset] [(.ref (q ky))])) rfl rfl (hb hby own_d8_32)
  refine own_st st27 ?_
  show own_Go p e below _ T25 (mkF m 35 #[rv d, iv x, iv y, iv va, .unset] [(.ref (r ky))])
  have sg28 : own_V p e below T25 (mkF m 44 #[rv d, iv x, iv y, iv va, rv (r ky)] [(.int (-1 : Int32)), (.int (vR ky kf))]) (mkF m 35 #[rv d, iv x, iv y, iv va, .unset] [(.ref (r ky))]) := by
    intro t kt
    refine XS.astore X25.here hx rfl (hb hby own_d8_35) rfl rfl (l' := #[rv d, iv x, iv y, iv va, rv (r ky)]) rfl ?_
    show own_S p e below T25 m 37 #[rv d, iv x, iv y, iv va, rv (r ky)] [] _
    refine XS.aload X25.here hx rfl (hb hby own_d8_37) rfl rfl ?_
    show own_S p e below T25 m 39 #[rv d, iv x, iv y, iv va, rv (r ky)] [(.ref (r ky))] _
    refine XS.iloadN X25.here hx rfl (hb hby own_d8_39) rfl ?_
    show own_S p e below T25 m 40 #[rv d, iv x, iv y, iv va, rv (r ky)] [(.int x), (.ref (r ky))] _
    refine XS.iconst X25.here hx rfl (hb hby own_d8_40) ?_
    show own_S p e below T25 m 41 #[rv d, iv x, iv y, iv va, rv (r ky)] [(.int (1 : Int32)), (.int x), (.ref (r ky))] _
    refine XS.isub X25.here hx rfl (hb hby own_d8_41) rfl ?_
    show own_S p e below T25 m 42 #[rv d, iv x, iv y, iv va, rv (r ky)] [(.int (x - (1 : Int32))), (.ref (r ky))] _
    refine own_rdB X25 hx hZ e25 DVT.2.2.2.2 if1 hf3 (g := (mkF m 42 #[rv d, iv x, iv y, iv va, rv (r ky)] [(.int (x - (1 : Int32))), (.ref (r ky))])) rfl rfl (hb hby own_d8_42) _ ?_
    show own_S p e below T25 m 43 #[rv d, iv x, iv y, iv va, rv (r ky)] [(.int (vR ky kf))] _
    refine XS.iconst X25.here hx rfl (hb hby own_d8_43) ?_
    show own_S p e below T25 m 44 #[rv d, iv x, iv y, iv va, rv (r ky)] [(.int (-1 : Int32)), (.int (vR ky kf))] _
    exact kt
  refine own_st sg28 ?_
  by_cases hc29 : (vR ky kf) = (-1 : Int32)
  · skip
    have sg30 : own_V p e below T25 (mkF m 47 #[rv d, iv x, iv y, iv va, rv (r ky)] []) (mkF m 44 #[rv d, iv x, iv y, iv va, rv (r ky)] [(.int (-1 : Int32)), (.int (vR ky kf))]) := by
      intro t kt
      refine XS.icmpNo X25.here hx rfl (hb hby own_d8_44) rfl (teq hc29).2 ?_
      exact kt
    refine own_st sg30 ?_
    have sg31 : own_V p e below T25 (mkF m 48 #[rv d, iv x, iv y, iv va, rv (r ky)] [(.ref d)]) (mkF m 47 #[rv d, iv x, iv y, iv va, rv (r ky)] []) := by
      intro t kt
      refine XS.aloadN X25.here hx rfl (hb hby own_d8_47) rfl rfl ?_
      show own_S p e below T25 m 48 #[rv d, iv x, iv y, iv va, rv (r ky)] [(.ref d)] _
      exact kt
    refine own_st sg31 ?_
    obtain ⟨T32, X32, e32, st32⟩ := getF X25 hx hZ hown (host := "") (Or.inl (hw _ (List.mem_of_getElem? (i := 50) rfl))) Via.refl e25 FtoAll (g := (mkF m 48 #[rv d, iv x, iv y, iv va, rv (r ky)] [(.ref d)])) rfl rfl (hb hby own_d8_48)
    refine own_st st32 ?_
    show own_Go p e below _ T32 (mkF m 51 #[rv d, iv x, iv y, iv va, rv (r ky)] [(.ref ta)])
    have sg33 : own_V p e below T32 (mkF m 56 #[rv d, iv x, iv y, iv va, rv (r ky)] [(.int (-1 : Int32)), (.int (vT kf))]) (mkF m 51 #[rv d, iv x, iv y, iv va, rv (r ky)] [(.ref ta)]) := by
      intro t kt
      refine XS.iloadN X32.here hx rfl (hb hby own_d8_51) rfl ?_
      show own_S p e below T32 m 52 #[rv d, iv x, iv y, iv va, rv (r ky)] [(.int x), (.ref ta)] _
      refine XS.iconst X32.here hx rfl (hb hby own_d8_52) ?_
      show own_S p e below T32 m 53 #[rv d, iv x, iv y, iv va, rv (r ky)] [(.int (1 : Int32)), (.int x), (.ref ta)] _
      refine XS.isub X32.here hx rfl (hb hby own_d8_53) rfl ?_
      show own_S p e below T32 m 54 #[rv d, iv x, iv y, iv va, rv (r ky)] [(.int (x - (1 : Int32))), (.ref ta)] _
      refine own_rdB X32 hx hZ e32 AT if1 hf3 (g := (mkF m 54 #[rv d, iv x, iv y, iv va, rv (r ky)] [(.int (x - (1 : Int32))), (.ref ta)])) rfl rfl (hb hby own_d8_54) _ ?_
      show own_S p e below T32 m 55 #[rv d, iv x, iv y, iv va, rv (r ky)] [(.int (vT kf))] _
      refine XS.iconst X32.here hx rfl (hb hby own_d8_55) ?_
      show own_S p e below T32 m 56 #[rv d, iv x, iv y, iv va, rv (r ky)] [(.int (-1 : Int32)), (.int (vT kf))] _
      exact kt
    refine own_st sg33 ?_
    by_cases hc34 : (vT kf) = (-1 : Int32)
    · skip
      have sg35 : own_V p e below T32 (mkF m 61 #[rv d, iv x, iv y, iv va, rv (r ky)] []) (mkF m 56 #[rv d, iv x, iv y, iv va, rv (r ky)] [(.int (-1 : Int32)), (.int (vT kf))]) := by
        intro t kt
        refine XS.icmpYes X32.here hx rfl (pc0 := 56) (pc' := 61) rfl (hb hby own_d8_56) rfl (teq hc34).1 (by decide) (by decide) ?_
        exact kt
      refine own_st sg35 ?_
      have hS : own_sto kk vT vR kf ky := ⟨hE, hc29, hc34⟩
      obtain ⟨o1, o2, o3, o4, o5, o6⟩ := HA.lo ht3
      obtain ⟨p1, p2, p3, p4, p5, p6⟩ := HA.rest
      have sg36 : own_V p e below T32 (mkF m 68 #[rv d, iv x, iv y, iv va, rv (r ky)] [(.int va.toInt8.toInt32), (.int (x - (1 : Int32))), (.ref (r ky))]) (mkF m 61 #[rv d, iv x, iv y, iv va, rv (r ky)] []) := by
        intro t kt
        refine XS.aload X32.here hx rfl (hb hby own_d8_61) rfl rfl ?_
        show own_S p e below T32 m 63 #[rv d, iv x, iv y, iv va, rv (r ky)] [(.ref (r ky))] _
        refine XS.iloadN X32.here hx rfl (hb hby own_d8_63) rfl ?_
        show own_S p e below T32 m 64 #[rv d, iv x, iv y, iv va, rv (r ky)] [(.int x), (.ref (r ky))] _
        refine XS.iconst X32.here hx rfl (hb hby own_d8_64) ?_
        show own_S p e below T32 m 65 #[rv d, iv x, iv y, iv va, rv (r ky)] [(.int (1 : Int32)), (.int x), (.ref (r ky))] _
        refine XS.isub X32.here hx rfl (hb hby own_d8_65) rfl ?_
        show own_S p e below T32 m 66 #[rv d, iv x, iv y, iv va, rv (r ky)] [(.int (x - (1 : Int32))), (.ref (r ky))] _
        refine XS.iloadN X32.here hx rfl (hb hby own_d8_66) rfl ?_
        show own_S p e below T32 m 67 #[rv d, iv x, iv y, iv va, rv (r ky)] [(.int va), (.int (x - (1 : Int32))), (.ref (r ky))] _
        refine XS.i2b X32.here hx rfl (hb hby own_d8_67) rfl ?_
        show own_S p e below T32 m 68 #[rv d, iv x, iv y, iv va, rv (r ky)] [(.int va.toInt8.toInt32), (.int (x - (1 : Int32))), (.ref (r ky))] _
        exact kt
      refine own_st sg36 ?_
      obtain ⟨T37, h37, X37, e37, W37, A37, st37⟩ := own_wrB X32 hx hZ e32 DVT.2.2.2.2 (k := kf) if1 hf3 (g := (mkF m 68 #[rv d, iv x, iv y, iv va, rv (r ky)] [(.int va.toInt8.toInt32), (.int (x - (1 : Int32))), (.ref (r ky))])) rfl rfl (hb hby own_d8_68)
      refine own_st st37 ?_
      have Z37 : n0 ≤ h37.size := by rw [Wr.size W37]; exact Z0
      have N37 := Fr.snoc X37 N12 o5
      show own_Go p e below _ T37 (mkF m 69 #[rv d, iv x, iv y, iv va, rv (r ky)] [])
      have Ka := Keep.of_wr W37
      have FoneByOnea := FoneByOne.keep Ka (own_ninS (by omega) nin0)
      have Fcounta := Fcount.keep Ka (own_ninS (by omega) nin0)
      have AOa := AO.keep Ka (own_ninS (by omega) nin0)
      have sg38 : own_V p e below T37 (mkF m 70 #[rv d, iv x, iv y, iv va, rv (r ky)] [(.ref d)]) (mkF m 69 #[rv d, iv x, iv y, iv va, rv (r ky)] []) := by
        intro t kt
        refine XS.aloadN X37.here hx rfl (hb hby own_d8_69) rfl rfl ?_
        show own_S p e below T37 m 70 #[rv d, iv x, iv y, iv va, rv (r ky)] [(.ref d)] _
        exact kt
      refine own_st sg38 ?_
      obtain ⟨T39, X39, e39, st39⟩ := getF X37 hx hZ hown (host := "") (Or.inl (hw _ (List.mem_of_getElem? (i := 53) rfl))) Via.refl e37 FoneByOnea (g := (mkF m 70 #[rv d, iv x, iv y, iv va, rv (r ky)] [(.ref d)])) rfl rfl (hb hby own_d8_70)
      refine own_st st39 ?_
      show own_Go p e below _ T39 (mkF m 73 #[rv d, iv x, iv y, iv va, rv (r ky)] [(.ref ob)])
      have sg40 : own_V p e below T39 (mkF m 77 #[rv d, iv x, iv y, iv va, rv (r ky)] [(.int (1 : Int32)), (.int (x - (1 : Int32))), (.ref ob)]) (mkF m 73 #[rv d, iv x, iv y, iv va, rv (r ky)] [(.ref ob)]) := by
        intro t kt
        refine XS.iloadN X39.here hx rfl (hb hby own_d8_73) rfl ?_
        show own_S p e below T39 m 74 #[rv d, iv x, iv y, iv va, rv (r ky)] [(.int x), (.ref ob)] _
        refine XS.iconst X39.here hx rfl (hb hby own_d8_74) ?_
        show own_S p e below T39 m 75 #[rv d, iv x, iv y, iv va, rv (r ky)] [(.int (1 : Int32)), (.int x), (.ref ob)] _
        refine XS.isub X39.here hx rfl (hb hby own_d8_75) rfl ?_
        show own_S p e below T39 m 76 #[rv d, iv x, iv y, iv va, rv (r ky)] [(.int (x - (1 : Int32))), (.ref ob)] _
        refine XS.iconst X39.here hx rfl (hb hby own_d8_76) ?_
        show own_S p e below T39 m 77 #[rv d, iv x, iv y, iv va, rv (r ky)] [(.int (1 : Int32)), (.int (x - (1 : Int32))), (.ref ob)] _
        exact kt
      refine own_st sg40 ?_
      obtain ⟨T41, h41, X41, e41, W41, A41, st41⟩ := own_wrZ X39 hx hZ e39 AOa (k := kf) if1 hf3 (g := (mkF m 77 #[rv d, iv x, iv y, iv va, rv (r ky)] [(.int (1 : Int32)), (.int (x - (1 : Int32))), (.ref ob)])) rfl rfl (hb hby own_d8_77)
      refine own_st st41 ?_
      have Z41 : n0 ≤ h41.size := by rw [Wr.size W41]; exact Z37
      have N41 := Fr.snoc X41 N37 (by omega)
      show own_Go p e below _ T41 (mkF m 78 #[rv d, iv x, iv y, iv va, rv (r ky)] [])
      have Kb := Keep.of_wr W41
      have Fcountb := Fcounta.keep Kb (own_ninS (by omega) nin0)
      have EEb := (EE.keep Ka).keep Kb
      have sg42 : own_V p e below T41 (mkF m 80 #[rv d, iv x, iv y, iv va, rv (r ky)] [(.ref d), (.ref d)]) (mkF m 78 #[rv d, iv x, iv y, iv va, rv (r ky)] []) := by
        intro t kt
        refine XS.aloadN X41.here hx rfl (hb hby own_d8_78) rfl rfl ?_
        show own_S p e below T41 m 79 #[rv d, iv x, iv y, iv va, rv (r ky)] [(.ref d)] _
        refine XS.dup X41.here hx rfl (hb hby own_d8_79) rfl rfl ?_
        show own_S p e below T41 m 80 #[rv d, iv x, iv y, iv va, rv (r ky)] [(.ref d), (.ref d)] _
        exact kt
      refine own_st sg42 ?_
      obtain ⟨T43, X43, e43, st43⟩ := getF X41 hx hZ hown (host := "") (Or.inl (hw _ (List.mem_of_getElem? (i := 87) rfl))) Via.refl e41 Fcountb (g := (mkF m 80 #[rv d, iv x, iv y, iv va, rv (r ky)] [(.ref d), (.ref d)])) rfl rfl (hb hby own_d8_80)
      refine own_st st43 ?_
      show own_Go p e below _ T43 (mkF m 83 #[rv d, iv x, iv y, iv va, rv (r ky)] [(.long cnt), (.ref d)])
      have sg44 : own_V p e below T43 (mkF m 85 #[rv d, iv x, iv y, iv va, rv (r ky)] [(.long (cnt + (1 : Int64))), (.ref d)]) (mkF m 83 #[rv d, iv x, iv y, iv va, rv (r ky)] [(.long cnt), (.ref d)]) := by
        intro t kt
        refine XS.lconst X43.here hx rfl (hb hby own_d8_83) ?_
        show own_S p e below T43 m 84 #[rv d, iv x, iv y, iv va, rv (r ky)] [(.long (1 : Int64)), (.long cnt), (.ref d)] _
        refine XS.ladd X43.here hx rfl (hb hby own_d8_84) rfl ?_
        show own_S p e below T43 m 85 #[rv d, iv x, iv y, iv va, rv (r ky)] [(.long (cnt + (1 : Int64))), (.ref d)] _
        exact kt
      refine own_st sg44 ?_
      obtain ⟨T45, h45, X45, e45, W45, st45⟩ := putF X43 hx hZ hown (host := "") (Or.inl (hw _ (List.mem_of_getElem? (i := 87) rfl))) Via.refl e43 Fcountb EEb (Or.inl (hw _ (List.mem_of_getElem? (i := 88) rfl))) (hw _ (List.mem_of_getElem? (i := 3) rfl)) (ty := .long) (by decide) rfl rfl (g := (mkF m 85 #[rv d, iv x, iv y, iv va, rv (r ky)] [(.long (cnt + (1 : Int64))), (.ref d)])) rfl rfl (hb hby own_d8_85)
      refine own_st st45 ?_
      have Z45 : n0 ≤ h45.size := by rw [Wr.size W45]; exact Z41
      have N45 := Fr.snoc X45 N41 (by omega)
      show own_Go p e below _ T45 (mkF m 88 #[rv d, iv x, iv y, iv va, rv (r ky)] [])
      have Kc := Keep.of_wr W45
      have sg46 : own_V p e below T45 (mkF m 89 #[rv d, iv x, iv y, iv va, rv (r ky)] [(.int (1 : Int32))]) (mkF m 88 #[rv d, iv x, iv y, iv va, rv (r ky)] []) := by
        intro t kt
        refine XS.iconst X45.here hx rfl (hb hby own_d8_88) ?_
        show own_S p e below T45 m 89 #[rv d, iv x, iv y, iv va, rv (r ky)] [(.int (1 : Int32))] _
        exact kt
      refine own_st sg46 ?_
      have Finboxesc := ((Finboxes.keep Ka (own_ninS (by omega) nin0)).keep Kb (own_ninS (by omega) nin0)).other W45 (Or.inr (slot_ne (Or.inr (hw _ (List.mem_of_getElem? (i := 14) rfl))) (Or.inl (hw _ (List.mem_of_getElem? (i := 88) rfl))) (by decide) (t := (.array (.object "com/example/kingsround/kingsround/engine/Deliveries$Delivered"))) (t' := .long) (by decide) (by decide)))
      have Fkeptc := ((Fkept.keep Ka (own_ninS (by omega) nin0)).keep Kb (own_ninS (by omega) nin0)).other W45 (Or.inr (slot_ne (Or.inr (hw _ (List.mem_of_getElem? (i := 43) rfl))) (Or.inl (hw _ (List.mem_of_getElem? (i := 88) rfl))) (by decide) (t := (.array .boolean)) (t' := .long) (by decide) (by decide)))
      have FtoAllc := ((FtoAll.keep Ka (own_ninS (by omega) nin0)).keep Kb (own_ninS (by omega) nin0)).other W45 (Or.inr (slot_ne (Or.inr (hw _ (List.mem_of_getElem? (i := 51) rfl))) (Or.inl (hw _ (List.mem_of_getElem? (i := 88) rfl))) (by decide) (t := (.array .byte)) (t' := .long) (by decide) (by decide)))
      have FoneByOnec := ((FoneByOne.keep Ka (own_ninS (by omega) nin0)).keep Kb (own_ninS (by omega) nin0)).other W45 (Or.inr (slot_ne (Or.inr (hw _ (List.mem_of_getElem? (i := 54) rfl))) (Or.inl (hw _ (List.mem_of_getElem? (i := 88) rfl))) (by decide) (t := (.array .boolean)) (t' := .long) (by decide) (by decide)))
      have KK : Keep h0 h45 [r ky, ob, d] := ((Keep.refl h0 [r ky, ob, d]).wr W37 (Or.inl (List.mem_of_getElem? (i := 0) rfl))).wr W41 (Or.inl (List.mem_of_getElem? (i := 1) rfl)) |>.wr W45 (Or.inl (List.mem_of_getElem? (i := 2) rfl))
      have nin : ∀ x : Nat, x ≠ r ky → x ≠ ob → x ≠ d → x ∉ [r ky, ob, d] := fun x a b c => own_ninS a (own_ninS b (own_ninS c nin0))
      have hD : ∀ i, i < 3 → own_Dv Z h45 (q i) (r i) d (Int32.ofNat (i + 1)) (own_updR vR ky kf (own_by va) i) := fun i hi => by
        by_cases hik : i = ky
        · subst hik
          have D0 := DVS i hi
          have A2 : own_AI Z h45 (r i) .byte 3 (own_updR vR i kf (own_by va) i) := ((A37.keep Kb (own_ninS (by omega) nin0)).keep Kc (own_ninS (by omega) nin0)).congr (fun j _ => by unfold own_updR; rw [if_pos rfl]; rfl)
          exact ⟨D0.1.keep KK, D0.2.1.keep KK (nin _ (by omega) (by omega) (by omega)), D0.2.2.1.keep KK (nin _ (by omega) (by omega) (by omega)), D0.2.2.2.1.keep KK (nin _ (by omega) (by omega) (by omega)), A2⟩
        · have D0 := DVS i hi
          obtain ⟨s1, s2, s3, s4, s5, -⟩ := HA.lo hi
          have s6 := o6 i hi hik
          have e1 : own_updR vR ky kf (own_by va) i = vR i := by unfold own_updR; rw [if_neg hik]
          rw [e1]
          exact D0.keep KK (nin _ s6.2 (by omega) (by omega)) (nin _ s6.1 (by omega) (by omega))
      have AOc : own_AI Z h45 ob .boolean 3 (own_upd vO kf 1) := (A41.keep Kc (own_ninS (by omega) nin0)).congr (fun j _ => rfl)
      have hF : own_pr kk vT vR kf ky = (1 : Int32) := by unfold own_pr; rw [if_neg hE, if_pos hS]
      exact own_retZ X45 hx Bd.notSynchronized Bd.returns (hb hby own_d8_89) (by decide) (by decide) (by decide) e45 ⟨by rw [hF], N45, KK.1, by unfold own_pO own_pR own_pc; rw [if_pos hS, if_pos hS, if_pos hS]; exact ⟨EEb.wr W45, Finboxesc, Fkeptc, FtoAllc, FoneByOnec, Fcountb.same W45, own_AV.keep AI KK (nin _ (by omega) (by omega) (by omega)), AK.keep KK (nin _ (by omega) (by omega) (by omega)), AT.keep KK (nin _ (by omega) (by omega) (by omega)), AOc, hD⟩⟩
    have sg47 : own_V p e below T32 (mkF m 59 #[rv d, iv x, iv y, iv va, rv (r ky)] []) (mkF m 56 #[rv d, iv x, iv y, iv va, rv (r ky)] [(.int (-1 : Int32)), (.int (vT kf))]) := by
      intro t kt
      refine XS.icmpNo X32.here hx rfl (hb hby own_d8_56) rfl (feq hc34).1 ?_
      exact kt
    refine own_st sg47 ?_
    have sg48 : own_V p e below T32 (mkF m 60 #[rv d, iv x, iv y, iv va, rv (r ky)] [(.int (0 : Int32))]) (mkF m 59 #[rv d, iv x, iv y, iv va, rv (r ky)] []) := by
      intro t kt
      refine XS.iconst X32.here hx rfl (hb hby own_d8_59) ?_
      show own_S p e below T32 m 60 #[rv d, iv x, iv y, iv va, rv (r ky)] [(.int (0 : Int32))] _
      exact kt
    refine own_st sg48 ?_
    have hF : own_pr kk vT vR kf ky = (0 : Int32) ∧ ¬ own_sto kk vT vR kf ky := by
      have hn : ¬ own_sto kk vT vR kf ky := fun z => hc34 z.2.2
      exact ⟨by unfold own_pr; rw [if_neg hE, if_neg hn], hn⟩
    exact own_retZ X32 hx Bd.notSynchronized Bd.returns (hb hby own_d8_60) (by decide) (by decide) (by decide) e32 ⟨by rw [hF.1], N12, Nat.le_refl _, by unfold own_pO own_pR own_pc; rw [if_neg hF.2, if_neg hF.2, if_neg hF.2]; exact HD0⟩
  have sg49 : own_V p e below T25 (mkF m 59 #[rv d, iv x, iv y, iv va, rv (r ky)] []) (mkF m 44 #[rv d, iv x, iv y, iv va, rv (r ky)] [(.int (-1 : Int32)), (.int (vR ky kf))]) := by
    intro t kt
    refine XS.icmpYes X25.here hx rfl (pc0 := 44) (pc' := 59) rfl (hb hby own_d8_44) rfl (feq hc29).2 (by decide) (by decide) ?_
    exact kt
  refine own_st sg49 ?_
  have sg50 : own_V p e below T25 (mkF m 60 #[rv d, iv x, iv y, iv va, rv (r ky)] [(.int (0 : Int32))]) (mkF m 59 #[rv d, iv x, iv y, iv va, rv (r ky)] []) := by
    intro t kt
    refine XS.iconst X25.here hx rfl (hb hby own_d8_59) ?_
    show own_S p e below T25 m 60 #[rv d, iv x, iv y, iv va, rv (r ky)] [(.int (0 : Int32))] _
    exact kt
  refine own_st sg50 ?_
  have hF : own_pr kk vT vR kf ky = (0 : Int32) ∧ ¬ own_sto kk vT vR kf ky := by
      have hn : ¬ own_sto kk vT vR kf ky := fun z => hc29 z.2.1
      exact ⟨by unfold own_pr; rw [if_neg hE, if_neg hn], hn⟩
  exact own_retZ X25 hx Bd.notSynchronized Bd.returns (hb hby own_d8_60) (by decide) (by decide) (by decide) e25 ⟨by rw [hF.1], N12, Nat.le_refl _, by unfold own_pO own_pR own_pc; rw [if_neg hF.2, if_neg hF.2, if_neg hF.2]; exact HD0⟩
theorem own_d12_0 : decode prog_65_method_10_code 0 = .ok (.aload_n 0, 1) := by decide +kernel
theorem own_d12_1 : decode prog_65_method_10_code 1 = .ok (.getfield 31, 3) := by decide +kernel
theorem own_d12_4 : decode prog_65_method_10_code 4 = .ok (.iload_n 1, 1) := by decide +kernel
theorem own_d12_5 : decode prog_65_method_10_code 5 = .ok (.iconst 1, 1) := by decide +kernel
theorem own_d12_6 : decode prog_65_method_10_code 6 = .ok (.isub, 1) := by decide +kernel
theorem own_d12_7 : decode prog_65_method_10_code 7 = .ok (.baload, 1) := by decide +kernel
theorem own_d12_8 : decode prog_65_method_10_code 8 = .ok (.ifCond .eq 26, 3) := by decide +kernel
theorem own_d12_11 : decode prog_65_method_10_code 11 = .ok (.aload_n 0, 1) := by decide +kernel
theorem own_d12_12 : decode prog_65_method_10_code 12 = .ok (.getfield 53, 3) := by decide +kernel
theorem own_d12_15 : decode prog_65_method_10_code 15 = .ok (.iload_n 1, 1) := by decide +kernel
theorem own_d12_16 : decode prog_65_method_10_code 16 = .ok (.iconst 1, 1) := by decide +kernel
theorem own_d12_17 : decode prog_65_method_10_code 17 = .ok (.isub, 1) := by decide +kernel
theorem own_d12_18 : decode prog_65_method_10_code 18 = .ok (.baload, 1) := by decide +kernel
theorem own_d12_19 : decode prog_65_method_10_code 19 = .ok (.ifCond .ne 15, 3) := by decide +kernel
theorem own_d12_22 : decode prog_65_method_10_code 22 = .ok (.aload_n 0, 1) := by decide +kernel
theorem own_d12_23 : decode prog_65_method_10_code 23 = .ok (.getfield 41, 3) := by decide +kernel
theorem own_d12_26 : decode prog_65_method_10_code 26 = .ok (.iload_n 1, 1) := by decide +kernel
theorem own_d12_27 : decode prog_65_method_10_code 27 = .ok (.iconst 1, 1) := by decide +kernel
theorem own_d12_28 : decode prog_65_method_10_code 28 = .ok (.isub, 1) := by decide +kernel
theorem own_d12_29 : decode prog_65_method_10_code 29 = .ok (.baload, 1) := by decide +kernel
theorem own_d12_30 : decode prog_65_method_10_code 30 = .ok (.iconst (-1), 1) := by decide +kernel
theorem own_d12_31 : decode prog_65_method_10_code 31 = .ok (.if_icmp .eq 5, 3) := by decide +kernel
theorem own_d12_34 : decode prog_65_method_10_code 34 = .ok (.iconst 0, 1) := by decide +kernel
theorem own_d12_35 : decode prog_65_method_10_code 35 = .ok (.ireturn, 1) := by decide +kernel
theorem own_d12_36 : decode prog_65_method_10_code 36 = .ok (.aload_n 0, 1) := by decide +kernel
theorem own_d12_37 : decode prog_65_method_10_code 37 = .ok (.getfield 41, 3) := by decide +kernel
theorem own_d12_40 : decode prog_65_method_10_code 40 = .ok (.iload_n 1, 1) := by decide +kernel
theorem own_d12_41 : decode prog_65_method_10_code 41 = .ok (.iconst 1, 1) := by decide +kernel
theorem own_d12_42 : decode prog_65_method_10_code 42 = .ok (.isub, 1) := by decide +kernel
theorem own_d12_43 : decode prog_65_method_10_code 43 = .ok (.iload_n 2, 1) := by decide +kernel
theorem own_d12_44 : decode prog_65_method_10_code 44 = .ok (.i2b, 1) := by decide +kernel
theorem own_d12_45 : decode prog_65_method_10_code 45 = .ok (.bastore, 1) := by decide +kernel
theorem own_d12_46 : decode prog_65_method_10_code 46 = .ok (.aload_n 0, 1) := by decide +kernel
theorem own_d12_47 : decode prog_65_method_10_code 47 = .ok (.dup, 1) := by decide +kernel
theorem own_d12_48 : decode prog_65_method_10_code 48 = .ok (.getfield 76, 3) := by decide +kernel
theorem own_d12_51 : decode prog_65_method_10_code 51 = .ok (.aload_n 0, 1) := by decide +kernel
theorem own_d12_52 : decode prog_65_method_10_code 52 = .ok (.getfield 18, 3) := by decide +kernel
theorem own_d12_55 : decode prog_65_method_10_code 55 = .ok (.arraylength, 1) := by decide +kernel
theorem own_d12_56 : decode prog_65_method_10_code 56 = .ok (.iconst 1, 1) := by decide +kernel
theorem own_d12_57 : decode prog_65_method_10_code 57 = .ok (.isub, 1) := by decide +kernel
theorem own_d12_58 : decode prog_65_method_10_code 58 = .ok (.i2l, 1) := by decide +kernel
theorem own_d12_59 : decode prog_65_method_10_code 59 = .ok (.ladd, 1) := by decide +kernel
theorem own_d12_60 : decode prog_65_method_10_code 60 = .ok (.putfield 76, 3) := by decide +kernel
theorem own_d12_63 : decode prog_65_method_10_code 63 = .ok (.iconst 1, 1) := by decide +kernel
theorem own_d12_64 : decode prog_65_method_10_code 64 = .ok (.ireturn, 1) := by decide +kernel
theorem own_efpta (m : MethodId) (d : Nat) (x : Int32) (va : Int32) : entryFrame m #[(.ref d), (.int x), (.int va)] 3 = mkF m 0 #[rv d, iv x, iv va] [] := by first | (simp [entryFrame, mkF, argsToLocals, Value.category]; done) | rfl
set_option maxRecDepth 65536 in
set_option maxHeartbeats 40000000 in
theorem own_rmpta (l : Launch) (Z : State) (a0 : Array Value) (hw : ∀ d ∈ tables_1, d.before a0 Z = true) (d : Nat) (x : Int32) (va : Int32) (ib kp ta ob : Nat) (q r : Nat → Nat) (kk vT vO : Nat → Int32) (vR : Nat → Nat → Int32) (cnt : Int64) (kf : Nat) (h0 : Heap) (n0 : Nat) (Z0 : n0 ≤ h0.size) (HA : own_Ad n0 d ib kp ta ob q r) (HD : own_D Z h0 d ib kp ta ob q r kk vT vO vR cnt) (hkf : x.toInt = ((kf + 1 : Nat) : Int)) (hf3 : kf < 3) :
    own_Ct l Z (⟨"com/example/kingsround/kingsround/engine/Deliveries", "putToAll", "(II)Z"⟩ : MethodName) prog_65_method_10_code 3 (some .boolean) ({ frames := 0, cells := 0, slots := 0, locals := 0 } : Room) #[(.ref d), (.int x), (.int va)] h0 (fun v h L => v = some (.int (own_ar kk vT vO kf)) ∧ Fr n0 L ∧ h0.size ≤ h.size ∧ own_D Z h d ib kp ta ob q r kk (own_aT kk vT vO kf va) vO vR (own_ac kk vT vO kf cnt)) := by
  refine own_body (y := (⟨"com/example/kingsround/kingsround/engine/Deliveries", "putToAll", "(II)Z"⟩ : MethodName)) (Q := fun v h L => v = some (.int (own_ar kk vT vO kf)) ∧ Fr n0 L ∧ h0.size ≤ h.size ∧ own_D Z h d ib kp ta ob q r kk (own_aT kk vT vO kf va) vO vR (own_ac kk vT vO kf cnt)) (plainFor_of_name own_pn1) ?_
  intro p e s m below meth c s₁ Bd hml0 hZ e0
  have hx := Bd.exec
  have hby := Bd.bytes
  have hml : c.maxLocals = 3 := hml0
  have hown : s.vm.findClass "com/example/kingsround/kingsround/engine/Deliveries" = some m.cls := findClass_of_methodNamed Bd.named
  have hnm := (name_of_methodNamed Bd.named Bd.method).1
  have X0 : Stand p l e ({ frames := 0, cells := 0, slots := 0, locals := 0 } : Room) s m #[(.ref d), (.int x), (.int va)] below meth c s₁ [] 0 0 := Stand.of_body Bd
  have N0 := Fr.nil n0
  rw [own_efpta]
  have HD0 := HD
  obtain ⟨EE, Finboxes, Fkept, FtoAll, FoneByOne, Fcount, AI, AK, AT, AO, DVS⟩ := HD
  have if1 := own_i1 hkf
  have sg1 : own_V p e below s₁ (mkF m 1 #[rv d, iv x, iv va] [(.ref d)]) (mkF m 0 #[rv d, iv x, iv va] []) := by
    intro t kt
    refine XS.aloadN X0.here hx rfl (hb hby own_d12_0) rfl rfl ?_
    show own_S p e below s₁ m 1 #[rv d, iv x, iv va] [(.ref d)] _
    exact kt
  refine own_st sg1 ?_
  obtain ⟨T2, X2, e2, st2⟩ := getF X0 hx hZ hown (host := "") (Or.inl (hw _ (List.mem_of_getElem? (i := 42) rfl))) Via.refl e0 Fkept (g := (mkF m 1 #[rv d, iv x, iv va] [(.ref d)])) rfl rfl (hb hby own_d12_1)
  refine own_st st2 ?_
  show own_Go p e below _ T2 (mkF m 4 #[rv d, iv x, iv va] [(.ref kp)])
  have sg3 : own_V p e below T2 (mkF m 8 #[rv d, iv x, iv va] [(.int (kk kf))]) (mkF m 4 #[rv d, iv x, iv va] [(.ref kp)]) := by
    intro t kt
    refine XS.iloadN X2.here hx rfl (hb hby own_d12_4) rfl ?_
    show own_S p e below T2 m 5 #[rv d, iv x, iv va] [(.int x), (.ref kp)] _
    refine XS.iconst X2.here hx rfl (hb hby own_d12_5) ?_
    show own_S p e below T2 m 6 #[rv d, iv x, iv va] [(.int (1 : Int32)), (.int x), (.ref kp)] _
    refine XS.isub X2.here hx rfl (hb hby own_d12_6) rfl ?_
    show own_S p e below T2 m 7 #[rv d, iv x, iv va] [(.int (x - (1 : Int32))), (.ref kp)] _
    refine own_rdZ X2 hx hZ e2 AK if1 hf3 (g := (mkF m 7 #[rv d, iv x, iv va] [(.int (x - (1 : Int32))), (.ref kp)])) rfl rfl (hb hby own_d12_7) _ ?_
    show own_S p e below T2 m 8 #[rv d, iv x, iv va] [(.int (kk kf))] _
    exact kt
  refine own_st sg3 ?_
  by_cases hc4 : (kk kf) = (0 : Int32)
  · skip
    have sg5 : own_V p e below T2 (mkF m 34 #[rv d, iv x, iv va] []) (mkF m 8 #[rv d, iv x, iv va] [(.int (kk kf))]) := by
      intro t kt
      refine XS.ifYes X2.here hx rfl (pc0 := 8) (pc' := 34) rfl (hb hby own_d12_8) rfl ((if0 _ _).trans (teq hc4).1) (by decide) (by decide) ?_
      exact kt
    refine own_st sg5 ?_
    have sg6 : own_V p e below T2 (mkF m 35 #[rv d, iv x, iv va] [(.int (0 : Int32))]) (mkF m 34 #[rv d, iv x, iv va] []) := by
      intro t kt
      refine XS.iconst X2.here hx rfl (hb hby own_d12_34) ?_
      show own_S p e below T2 m 35 #[rv d, iv x, iv va] [(.int (0 : Int32))] _
      exact kt
    refine own_st sg6 ?_
    have hn : ¬ own_ta kk vT vO kf := fun z => z.1 hc4
    have hF : own_ar kk vT vO kf = (0 : Int32) := by unfold own_ar; rw [if_neg hn]
    exact own_retZ X2 hx Bd.notSynchronized Bd.returns (hb hby own_d12_35) (by decide) (by decide) (by decide) e2 ⟨by rw [hF], N0, Nat.le_refl _, by unfold own_aT own_ac; rw [if_neg hn, if_neg hn]; exact HD0⟩
  have sg7 : own_V p e below T2 (mkF m 11 #[rv d, iv x, iv va] []) (mkF m 8 #[rv d, iv x, iv va] [(.int (kk kf))]) := by
    intro t kt
    refine XS.ifNo X2.here hx rfl (hb hby own_d12_8) rfl ((if0 _ _).trans (feq hc4).1) ?_
    exact kt
  refine own_st sg7 ?_
  have sg8 : own_V p e below T2 (mkF m 12 #[rv d, iv x, iv va] [(.ref d)]) (mkF m 11 #[rv d, iv x, iv va] []) := by
    intro t kt
    refine XS.aloadN X2.here hx rfl (hb hby own_d12_11) rfl rfl ?_
    show own_S p e below T2 m 12 #[rv d, iv x, iv va] [(.ref d)] _
    exact kt
  refine own_st sg8 ?_
  obtain ⟨T9, X9, e9, st9⟩ := getF X2 hx hZ hown (host := "") (Or.inl (hw _ (List.mem_of_getElem? (i := 53) rfl))) Via.refl e2 FoneByOne (g := (mkF m 12 #[rv d, iv x, iv va] [(.ref d)])) rfl rfl (hb hby own_d12_12)
  refine own_st st9 ?_
  show own_Go p e below _ T9 (mkF m 15 #[rv d, iv x, iv va] [(.ref ob)])
  have sg10 : own_V p e below T9 (mkF m 19 #[rv d, iv x, iv va] [(.int (vO kf))]) (mkF m 15 #[rv d, iv x, iv va] [(.ref ob)]) := by
    intro t kt
    refine XS.iloadN X9.here hx rfl (hb hby own_d12_15) rfl ?_
    show own_S p e below T9 m 16 #[rv d, iv x, iv va] [(.int x), (.ref ob)] _
    refine XS.iconst X9.here hx rfl (hb hby own_d12_16) ?_
    show own_S p e below T9 m 17 #[rv d, iv x, iv va] [(.int (1 : Int32)), (.int x), (.ref ob)] _
    refine XS.isub X9.here hx rfl (hb hby own_d12_17) rfl ?_
    show own_S p e below T9 m 18 #[rv d, iv x, iv va] [(.int (x - (1 : Int32))), (.ref ob)] _
    refine own_rdZ X9 hx hZ e9 AO if1 hf3 (g := (mkF m 18 #[rv d, iv x, iv va] [(.int (x - (1 : Int32))), (.ref ob)])) rfl rfl (hb hby own_d12_18) _ ?_
    show own_S p e below T9 m 19 #[rv d, iv x, iv va] [(.int (vO kf))] _
    exact kt
  refine own_st sg10 ?_
  by_cases hc11 : (vO kf) = (0 : Int32)
  · skip
    have sg12 : own_V p e below T9 (mkF m 22 #[rv d, iv x, iv va] []) (mkF m 19 #[rv d, iv x, iv va] [(.int (vO kf))]) := by
      intro t kt
      refine XS.ifNo X9.here hx rfl (hb hby own_d12_19) rfl ((if0 _ _).trans (teq hc11).2) ?_
      exact kt
    refine own_st sg12 ?_
    have sg13 : own_V p e below T9 (mkF m 23 #[rv d, iv x, iv va] [(.ref d)]) (mkF m 22 #[rv d, iv x, iv va] []) := by
      intro t kt
      refine XS.aloadN X9.here hx rfl (hb hby own_d12_22) rfl rfl ?_
      show own_S p e below T9 m 23 #[rv d, iv x, iv va] [(.ref d)] _
      exact kt
    refine own_st sg13 ?_
    obtain ⟨T14, X14, e14, st14⟩ := getF X9 hx hZ hown (host := "") (Or.inl (hw _ (List.mem_of_getElem? (i := 50) rfl))) Via.refl e9 FtoAll (g := (mkF m 23 #[rv d, iv x, iv va] [(.ref d)])) rfl rfl (hb hby own_d12_23)
    refine own_st st14 ?_
    show own_Go p e below _ T14 (mkF m 26 #[rv d, iv x, iv va] [(.ref ta)])
    have sg15 : own_V p e below T14 (mkF m 31 #[rv d, iv x, iv va] [(.int (-1 : Int32)), (.int (vT kf))]) (mkF m 26 #[rv d, iv x, iv va] [(.ref ta)]) := by
      intro t kt
      refine XS.iloadN X14.here hx rfl (hb hby own_d12_26) rfl ?_
      show own_S p e below T14 m 27 #[rv d, iv x, iv va] [(.int x), (.ref ta)] _
      refine XS.iconst X14.here hx rfl (hb hby own_d12_27) ?_
      show own_S p e below T14 m 28 #[rv d, iv x, iv va] [(.int (1 : Int32)), (.int x), (.ref ta)] _
      refine XS.isub X14.here hx rfl (hb hby own_d12_28) rfl ?_
      show own_S p e below T14 m 29 #[rv d, iv x, iv va] [(.int (x - (1 : Int32))), (.ref ta)] _
      refine own_rdB X14 hx hZ e14 AT if1 hf3 (g := (mkF m 29 #[rv d, iv x, iv va] [(.int (x - (1 : Int32))), (.ref ta)])) rfl rfl (hb hby own_d12_29) _ ?_
      show own_S p e below T14 m 30 #[rv d, iv x, iv va] [(.int (vT kf))] _
      refine XS.iconst X14.here hx rfl (hb hby own_d12_30) ?_
      show own_S p e below T14 m 31 #[rv d, iv x, iv va] [(.int (-1 : Int32)), (.int (vT kf))] _
      exact kt
    refine own_st sg15 ?_
    by_cases hc16 : (vT kf) = (-1 : Int32)
    · skip
      have sg17 : own_V p e below T14 (mkF m 36 #[rv d, iv x, iv va] []) (mkF m 31 #[rv d, iv x, iv va] [(.int (-1 : Int32)), (.int (vT kf))]) := by
        intro t kt
        refine XS.icmpYes X14.here hx rfl (pc0 := 31) (pc' := 36) rfl (hb hby own_d12_31) rfl (teq hc16).1 (by decide) (by decide) ?_
        exact kt
      refine own_st sg17 ?_
      have hS : own_ta kk vT vO kf := ⟨hc4, hc11, hc16⟩
      obtain ⟨p1, p2, p3, p4, p5, p6⟩ := HA.rest
      have sg18 : own_V p e below T14 (mkF m 37 #[rv d, iv x, iv va] [(.ref d)]) (mkF m 36 #[rv d, iv x, iv va] []) := by
        intro t kt
        refine XS.aloadN X14.here hx rfl (hb hby own_d12_36) rfl rfl ?_
        show own_S p e below T14 m 37 #[rv d, iv x, iv va] [(.ref d)] _
        exact kt
      refine own_st sg18 ?_
      obtain ⟨T19, X19, e19, st19⟩ := getF X14 hx hZ hown (host := "") (Or.inl (hw _ (List.mem_of_getElem? (i := 50) rfl))) Via.refl e14 FtoAll (g := (mkF m 37 #[rv d, iv x, iv va] [(.ref d)])) rfl rfl (hb hby own_d12_37)
      refine own_st st19 ?_
      show own_Go p e below _ T19 (mkF m 40 #[rv d, iv x, iv va] [(.ref ta)])
      have sg20 : own_V p e below T19 (mkF m 45 #[rv d, iv x, iv va] [(.int va.toInt8.toInt32), (.int (x - (1 : Int32))), (.ref ta)]) (mkF m 40 #[rv d, iv x, iv va] [(.ref ta)]) := by
        intro t kt
        refine XS.iloadN X19.here hx rfl (hb hby own_d12_40) rfl ?_
        show own_S p e below T19 m 41 #[rv d, iv x, iv va] [(.int x), (.ref ta)] _
        refine XS.iconst X19.here hx rfl (hb hby own_d12_41) ?_
        show own_S p e below T19 m 42 #[rv d, iv x, iv va] [(.int (1 : Int32)), (.int x), (.ref ta)] _
        refine XS.isub X19.here hx rfl (hb hby own_d12_42) rfl ?_
        show own_S p e below T19 m 43 #[rv d, iv x, iv va] [(.int (x - (1 : Int32))), (.ref ta)] _
        refine XS.iloadN X19.here hx rfl (hb hby own_d12_43) rfl ?_
        show own_S p e below T19 m 44 #[rv d, iv x, iv va] [(.int va), (.int (x - (1 : Int32))), (.ref ta)] _
        refine XS.i2b X19.here hx rfl (hb hby own_d12_44) rfl ?_
        show own_S p e below T19 m 45 #[rv d, iv x, iv va] [(.int va.toInt8.toInt32), (.int (x - (1 : Int32))), (.ref ta)] _
        exact kt
      refine own_st sg20 ?_
      obtain ⟨T21, h21, X21, e21, W21, A21, st21⟩ := own_wrB X19 hx hZ e19 AT (k := kf) if1 hf3 (g := (mkF m 45 #[rv d, iv x, iv va] [(.int va.toInt8.toInt32), (.int (x - (1 : Int32))), (.ref ta)])) rfl rfl (hb hby own_d12_45)
      refine own_st st21 ?_
      have Z21 : n0 ≤ h21.size := by rw [Wr.size W21]; exact Z0
      have N21 := Fr.snoc X21 N0 (by omega)
      show own_Go p e below _ T21 (mkF m 46 #[rv d, iv x, iv va] [])
      have Ka := Keep.of_wr W21
      have Fcounta := Fcount.keep Ka (own_ninS (by omega) nin0)
      have Finboxesa := Finboxes.keep Ka (own_ninS (by omega) nin0)
      have EEa := EE.keep Ka
      have AIa := own_AV.keep AI Ka (own_ninS (by have := (HA.lo (i := 0) (by decide)).1; omega) nin0)
      have sg22 : own_V p e below T21 (mkF m 48 #[rv d, iv x, iv va] [(.ref d), (.ref d)]) (mkF m 46 #[rv d, iv x, iv va] []) := by
        intro t kt
        refine XS.aloadN X21.here hx rfl (hb hby own_d12_46) rfl rfl ?_
        show own_S p e below T21 m 47 #[rv d, iv x, iv va] [(.ref d)] _
        refine XS.dup X21.here hx rfl (hb hby own_d12_47) rfl rfl ?_
        show own_S p e below T21 m 48 #[rv d, iv x, iv va] [(.ref d), (.ref d)] _
        exact kt
      refine own_st sg22 ?_
      obtain ⟨T23, X23, e23, st23⟩ := getF X21 hx hZ hown (host := "") (Or.inl (hw _ (List.mem_of_getElem? (i := 87) rfl))) Via.refl e21 Fcounta (g := (mkF m 48 #[rv d, iv x, iv va] [(.ref d), (.ref d)])) rfl rfl (hb hby own_d12_48)
      refine own_st st23 ?_
      show own_Go p e below _ T23 (mkF m 51 #[rv d, iv x, iv va] [(.long cnt), (.ref d)])
      have sg24 : own_V p e below T23 (mkF m 52 #[rv d, iv x, iv va] [(.ref d), (.long cnt), (.ref d)]) (mkF m 51 #[rv d, iv x, iv va] [(.long cnt), (.ref d)]) := by
        intro t kt
        refine XS.aloadN X23.here hx rfl (hb hby own_d12_51) rfl rfl ?_
        show own_S p e below T23 m 52 #[rv d, iv x, iv va] [(.ref d), (.long cnt), (.ref d)] _
        exact kt
      refine own_st sg24 ?_
      obtain ⟨T25, X25, e25, st25⟩ := getF X23 hx hZ hown (host := "") (Or.inl (hw _ (List.mem_of_getElem? (i := 13) rfl))) Via.refl e23 Finboxesa (g := (mkF m 52 #[rv d, iv x, iv va] [(.ref d), (.long cnt), (.ref d)])) rfl rfl (hb hby own_d12_52)
      refine own_st st25 ?_
      show own_Go p e below _ T25 (mkF m 55 #[rv d, iv x, iv va] [(.ref ib), (.long cnt), (.ref d)])
      have sg26 : own_V p e below T25 (mkF m 60 #[rv d, iv x, iv va] [(.long (cnt + ((3 : Int32) - (1 : Int32)).toInt64)), (.ref d)]) (mkF m 55 #[rv d, iv x, iv va] [(.ref ib), (.long cnt), (.ref d)]) := by
        intro t kt
        refine own_len (z := (3 : Int32)) X25 hx hZ e25 AIa (by decide) (g := (mkF m 55 #[rv d, iv x, iv va] [(.ref ib), (.long cnt), (.ref d)])) rfl rfl (hb hby own_d12_55) _ ?_
        show own_S p e below T25 m 56 #[rv d, iv x, iv va] [(.int (3 : Int32)), (.long cnt), (.ref d)] _
        refine XS.iconst X25.here hx rfl (hb hby own_d12_56) ?_
        show own_S p e below T25 m 57 #[rv d, iv x, iv va] [(.int (1 : Int32)), (.int (3 : Int32)), (.long cnt), (.ref d)] _
        refine XS.isub X25.here hx rfl (hb hby own_d12_57) rfl ?_
        show own_S p e below T25 m 58 #[rv d, iv x, iv va] [(.int ((3 : Int32) - (1 : Int32))), (.long cnt), (.ref d)] _
        refine XS.i2l X25.here hx rfl (hb hby own_d12_58) rfl ?_
        show own_S p e below T25 m 59 #[rv d, iv x, iv va] [(.long ((3 : Int32) - (1 : Int32)).toInt64), (.long cnt), (.ref d)] _
        refine XS.ladd X25.here hx rfl (hb hby own_d12_59) rfl ?_
        show own_S p e below T25 m 60 #[rv d, iv x, iv va] [(.long (cnt + ((3 : Int32) - (1 : Int32)).toInt64)), (.ref d)] _
        exact kt
      refine own_st sg26 ?_
      obtain ⟨T27, h27, X27, e27, W27, st27⟩ := putF X25 hx hZ hown (host := "") (Or.inl (hw _ (List.mem_of_getElem? (i := 87) rfl))) Via.refl e25 Fcounta EEa (Or.inl (hw _ (List.mem_of_getElem? (i := 88) rfl))) (hw _ (List.mem_of_getElem? (i := 3) rfl)) (ty := .long) (by decide) rfl rfl (g := (mkF m 60 #[rv d, iv x, iv va] [(.long (cnt + ((3 : Int32) - (1 : Int32)).toInt64)), (.ref d)])) rfl rfl (hb hby own_d12_60)
      refine own_st st27 ?_
      have Z27 : n0 ≤ h27.size := by rw [Wr.size W27]; exact Z21
      have N27 := Fr.snoc X27 N21 (by omega)
      show own_Go p e below _ T27 (mkF m 63 #[rv d, iv x, iv va] [])
      have Kc := Keep.of_wr W27
      have sg28 : own_V p e below T27 (mkF m 64 #[rv d, iv x, iv va] [(.int (1 : Int32))]) (mkF m 63 #[rv d, iv x, iv va] []) := by
        intro t kt
        refine XS.iconst X27.here hx rfl (hb hby own_d12_63) ?_
        show own_S p e below T27 m 64 #[rv d, iv x, iv va] [(.int (1 : Int32))] _
        exact kt
      refine own_st sg28 ?_
      have Finboxesc := (Finboxes.keep Ka (own_ninS (by omega) nin0)).other W27 (Or.inr (slot_ne (Or.inr (hw _ (List.mem_of_getElem? (i := 14) rfl))) (Or.inl (hw _ (List.mem_of_getElem? (i := 88) rfl))) (by decide) (t := (.array (.object "com/example/kingsround/kingsround/engine/Deliveries$Delivered"))) (t' := .long) (by decide) (by decide)))
      have Fkeptc := (Fkept.keep Ka (own_ninS (by omega) nin0)).other W27 (Or.inr (slot_ne (Or.inr (hw _ (List.mem_of_getElem? (i := 43) rfl))) (Or.inl (hw _ (List.mem_of_getElem? (i := 88) rfl))) (by decide) (t := (.array .boolean)) (t' := .long) (by decide) (by decide)))
      have FtoAllc := (FtoAll.keep Ka (own_ninS (by omega) nin0)).other W27 (Or.inr (slot_ne (Or.inr (hw _ (List.mem_of_getElem? (i := 51) rfl))) (Or.inl (hw _ (List.mem_of_getElem? (i := 88) rfl))) (by decide) (t := (.array .byte)) (t' := .long) (by decide) (by decide)))
      have FoneByOnec := (FoneByOne.keep Ka (own_ninS (by omega) nin0)).other W27 (Or.inr (slot_ne (Or.inr (hw _ (List.mem_of_getElem? (i := 54) rfl))) (Or.inl (hw _ (List.mem_of_getElem? (i := 88) rfl))) (by decide) (t := (.array .boolean)) (t' := .long) (by decide) (by decide)))
      have KK : Keep h0 h27 [ta, d] := ((Keep.refl h0 [ta, d]).wr W21 (Or.inl (List.mem_of_getElem? (i := 0) rfl))).wr W27 (Or.inl (List.mem_of_getElem? (i := 1) rfl))
      have nin : ∀ x : Nat, x ≠ ta → x ≠ d → x ∉ [ta, d] := fun x a b => own_ninS a (own_ninS b nin0)
      have hD : ∀ i, i < 3 → own_Dv Z h27 (q i) (r i) d (Int32.ofNat (i + 1)) (vR i) := fun i hi => by
        obtain ⟨s1, s2, s3, s4, s5, -⟩ := HA.lo hi
        exact (DVS i hi).keep KK (nin _ (by omega) (by omega)) (nin _ (by omega) (by omega))
      have ATc : own_AI Z h27 ta .byte 3 (own_upd vT kf (own_by va)) := (A21.keep Kc (own_ninS (by omega) nin0)).congr (fun j _ => rfl)
      have hF : own_ar kk vT vO kf = (1 : Int32) := by unfold own_ar; rw [if_pos hS]
      exact own_retZ X27 hx Bd.notSynchronized Bd.returns (hb hby own_d12_64) (by decide) (by decide) (by decide) e27 ⟨by rw [hF], N27, KK.1, by unfold own_aT own_ac; rw [if_pos hS, if_pos hS]; exact ⟨EEa.wr W27, Finboxesc, Fkeptc, FtoAllc, FoneByOnec, Fcounta.same W27, own_AV.keep AI KK (nin _ (by omega) (by omega)), AK.keep KK (nin _ (by omega) (by omega)), ATc, AO.keep KK (nin _ (by omega) (by omega)), hD⟩⟩
    have sg29 : own_V p e below T14 (mkF m 34 #[rv d, iv x, iv va] []) (mkF m 31 #[rv d, iv x, iv va] [(.int (-1 : Int32)), (.int (vT kf))]) := by
      intro t kt
      refine XS.icmpNo X14.here hx rfl (hb hby own_d12_31) rfl (feq hc16).1 ?_
      exact kt
    refine own_st sg29 ?_
    have sg30 : own_V p e below T14 (mkF m 35 #[rv d, iv x, iv va] [(.int (0 : Int32))]) (mkF m 34 #[rv d, iv x, iv va] []) := by
      intro t kt
      refine XS.iconst X14.here hx rfl (hb hby own_d12_34) ?_
      show own_S p e below T14 m 35 #[rv d, iv x, iv va] [(.int (0 : Int32))] _
      exact kt
    refine own_st sg30 ?_
    have hn : ¬ own_ta kk vT vO kf := fun z => hc16 z.2.2
    have hF : own_ar kk vT vO kf = (0 : Int32) := by unfold own_ar; rw [if_neg hn]
    exact own_retZ X14 hx Bd.notSynchronized Bd.returns (hb hby own_d12_35) (by decide) (by decide) (by decide) e14 ⟨by rw [hF], N0, Nat.le_refl _, by unfold own_aT own_ac; rw [if_neg hn, if_neg hn]; exact HD0⟩
  have sg31 : own_V p e below T9 (mkF m 34 #[rv d, iv x, iv va] []) (mkF m 19 #[rv d, iv x, iv va] [(.int (vO kf))]) := by
    intro t kt
    refine XS.ifYes X9.here hx rfl (pc0 := 19) (pc' := 34) rfl (hb hby own_d12_19) rfl ((if0 _ _).trans (feq hc11).2) (by decide) (by decide) ?_
    exact kt
  refine own_st sg31 ?_
  have sg32 : own_V p e below T9 (mkF m 35 #[rv d, iv x, iv va] [(.int (0 : Int32))]) (mkF m 34 #[rv d, iv x, iv va] []) := by
    intro t kt
    refine XS.iconst X9.here hx rfl (hb hby own_d12_34) ?_
    show own_S p e below T9 m 35 #[rv d, iv x, iv va] [(.int (0 : Int32))] _
    exact kt
  refine own_st sg32 ?_
  have hn : ¬ own_ta kk vT vO kf := fun z => hc11 z.2.1
  have hF : own_ar kk vT vO kf = (0 : Int32) := by unfold own_ar; rw [if_neg hn]
  exact own_retZ X9 hx Bd.notSynchronized Bd.returns (hb hby own_d12_35) (by decide) (by decide) (by decide) e9 ⟨by rw [hF], N0, Nat.le_refl _, by unfold own_aT own_ac; rw [if_neg hn, if_neg hn]; exact HD0⟩
theorem own_d11_0 : decode prog_67_method_2_code 0 = .ok (.aload_n 0, 1) := by decide +kernel
theorem own_d11_1 : decode prog_67_method_2_code 1 = .ok (.getfield 1, 3) := by decide +kernel
theorem own_d11_4 : decode prog_67_method_2_code 4 = .ok (.getfield 29, 3) := by decide +kernel
theorem own_d11_7 : decode prog_67_method_2_code 7 = .ok (.iload_n 1, 1) := by decide +kernel
theorem own_d11_8 : decode prog_67_method_2_code 8 = .ok (.iconst 1, 1) := by decide +kernel
theorem own_d11_9 : decode prog_67_method_2_code 9 = .ok (.isub, 1) := by decide +kernel
theorem own_d11_10 : decode prog_67_method_2_code 10 = .ok (.baload, 1) := by decide +kernel
theorem own_d11_11 : decode prog_67_method_2_code 11 = .ok (.istore_n 2, 1) := by decide +kernel
theorem own_d11_12 : decode prog_67_method_2_code 12 = .ok (.iload_n 2, 1) := by decide +kernel
theorem own_d11_13 : decode prog_67_method_2_code 13 = .ok (.iconst (-1), 1) := by decide +kernel
theorem own_d11_14 : decode prog_67_method_2_code 14 = .ok (.if_icmp .eq 15, 3) := by decide +kernel
theorem own_d11_17 : decode prog_67_method_2_code 17 = .ok (.iload_n 1, 1) := by decide +kernel
theorem own_d11_18 : decode prog_67_method_2_code 18 = .ok (.aload_n 0, 1) := by decide +kernel
theorem own_d11_19 : decode prog_67_method_2_code 19 = .ok (.getfield 13, 3) := by decide +kernel
theorem own_d11_22 : decode prog_67_method_2_code 22 = .ok (.if_icmp .eq 7, 3) := by decide +kernel
theorem own_d11_25 : decode prog_67_method_2_code 25 = .ok (.iload_n 2, 1) := by decide +kernel
theorem own_d11_26 : decode prog_67_method_2_code 26 = .ok (.goto 11, 3) := by decide +kernel
theorem own_d11_29 : decode prog_67_method_2_code 29 = .ok (.aload_n 0, 1) := by decide +kernel
theorem own_d11_30 : decode prog_67_method_2_code 30 = .ok (.getfield 17, 3) := by decide +kernel
theorem own_d11_33 : decode prog_67_method_2_code 33 = .ok (.iload_n 1, 1) := by decide +kernel
theorem own_d11_34 : decode prog_67_method_2_code 34 = .ok (.iconst 1, 1) := by decide +kernel
theorem own_d11_35 : decode prog_67_method_2_code 35 = .ok (.isub, 1) := by decide +kernel
theorem own_d11_36 : decode prog_67_method_2_code 36 = .ok (.baload, 1) := by decide +kernel
theorem own_d11_37 : decode prog_67_method_2_code 37 = .ok (.ireturn, 1) := by decide +kernel
theorem own_ofn (k : Nat) (hk : k < 3) : (Int32.ofNat (k + 1)).toInt = ((k + 1 : Nat) : Int) := by rcases own_lt3 hk with rfl | rfl | rfl <;> decide
theorem own_efdval (m : MethodId) (a : Nat) (x : Int32) : entryFrame m #[(.ref a), (.int x)] 3 = mkF m 0 #[rv a, iv x, .unset] [] := by first | (simp [entryFrame, mkF, argsToLocals, Value.category]; done) | rfl
set_option maxRecDepth 65536 in
set_option maxHeartbeats 40000000 in
theorem own_rmdval (l : Launch) (Z : State) (a0 : Array Value) (hw : ∀ d ∈ tables_1, d.before a0 Z = true) (a : Nat) (x : Int32) (d : Nat) (ib kp ta ob : Nat) (q r : Nat → Nat) (kk vT vO : Nat → Int32) (vR : Nat → Nat → Int32) (cnt : Int64) (kf ky : Nat) (h0 : Heap) (n0 : Nat) (Z0 : n0 ≤ h0.size) (HA : own_Ad n0 d ib kp ta ob q r) (HD : own_D Z h0 d ib kp ta ob q r kk vT vO vR cnt) (ha : a = q ky) (hkf : x.toInt = ((kf + 1 : Nat) : Int)) (hf3 : kf < 3) (ht3 : ky < 3) :
    own_Ct l Z (⟨"com/example/kingsround/kingsround/engine/Deliveries$Delivered", "value", "(I)I"⟩ : MethodName) prog_67_method_2_code 3 (some .int) ({ frames := 0, cells := 0, slots := 0, locals := 0 } : Room) #[(.ref a), (.int x)] h0 (fun v h L => v = some (.int (own_val vT vR kf ky)) ∧ Fr n0 L ∧ h = h0) := by
  refine own_body (y := (⟨"com/example/kingsround/kingsround/engine/Deliveries$Delivered", "value", "(I)I"⟩ : MethodName)) (Q := fun v h L => v = some (.int (own_val vT vR kf ky)) ∧ Fr n0 L ∧ h = h0) (plainFor_of_name own_pn2) ?_
  intro p e s m below meth c s₁ Bd hml0 hZ e0
  have hx := Bd.exec
  have hby := Bd.bytes
  have hml : c.maxLocals = 3 := hml0
  have hown : s.vm.findClass "com/example/kingsround/kingsround/engine/Deliveries$Delivered" = some m.cls := findClass_of_methodNamed Bd.named
  have hnm := (name_of_methodNamed Bd.named Bd.method).1
  have X0 : Stand p l e ({ frames := 0, cells := 0, slots := 0, locals := 0 } : Room) s m #[(.ref a), (.int x)] below meth c s₁ [] 0 0 := Stand.of_body Bd
  have N0 := Fr.nil n0
  rw [own_efdval]
  obtain ⟨EE, Finboxes, Fkept, FtoAll, FoneByOne, Fcount, AI, AK, AT, AO, DVS⟩ := HD
  subst ha
  have if1 := own_i1 hkf
  obtain ⟨EQ, Fthis, Fto, Frec, AR⟩ := DVS ky ht3
  have sg1 : own_V p e below s₁ (mkF m 1 #[rv (q ky), iv x, .unset] [(.ref (q ky))]) (mkF m 0 #[rv (q ky), iv x, .unset] []) := by
    intro t kt
    refine XS.aloadN X0.here hx rfl (hb hby own_d11_0) rfl rfl ?_
    show own_S p e below s₁ m 1 #[rv (q ky), iv x, .unset] [(.ref (q ky))] _
    exact kt
  refine own_st sg1 ?_
  obtain ⟨T2, X2, e2, st2⟩ := getF X0 hx hZ hown (host := "") (Or.inl (hw _ (List.mem_of_getElem? (i := 20) rfl))) Via.refl e0 Fthis (g := (mkF m 1 #[rv (q ky), iv x, .unset] [(.ref (q ky))])) rfl rfl (hb hby own_d11_1)
  refine own_st st2 ?_
  show own_Go p e below _ T2 (mkF m 4 #[rv (q ky), iv x, .unset] [(.ref d)])
  obtain ⟨T3, X3, e3, st3⟩ := getF X2 hx hZ hown (Or.inr (hw _ (List.mem_of_getElem? (i := 99) rfl))) Via.refl e2 FtoAll (g := (mkF m 4 #[rv (q ky), iv x, .unset] [(.ref d)])) rfl rfl (hb hby own_d11_4)
  refine own_st st3 ?_
  show own_Go p e below _ T3 (mkF m 7 #[rv (q ky), iv x, .unset] [(.ref ta)])
  have sg4 : own_V p e below T3 (mkF m 14 #[rv (q ky), iv x, iv (vT kf)] [(.int (-1 : Int32)), (.int (vT kf))]) (mkF m 7 #[rv (q ky), iv x, .unset] [(.ref ta)]) := by
    intro t kt
    refine XS.iloadN X3.here hx rfl (hb hby own_d11_7) rfl ?_
    show own_S p e below T3 m 8 #[rv (q ky), iv x, .unset] [(.int x), (.ref ta)] _
    refine XS.iconst X3.here hx rfl (hb hby own_d11_8) ?_
    show own_S p e below T3 m 9 #[rv (q ky), iv x, .unset] [(.int (1 : Int32)), (.int x), (.ref ta)] _
    refine XS.isub X3.here hx rfl (hb hby own_d11_9) rfl ?_
    show own_S p e below T3 m 10 #[rv (q ky), iv x, .unset] [(.int (x - (1 : Int32))), (.ref ta)] _
    refine own_rdB X3 hx hZ e3 AT if1 hf3 (g := (mkF m 10 #[rv (q ky), iv x, .unset] [(.int (x - (1 : Int32))), (.ref ta)])) rfl rfl (hb hby own_d11_10) _ ?_
    show own_S p e below T3 m 11 #[rv (q ky), iv x, .unset] [(.int (vT kf))] _
    refine XS.istoreN X3.here hx rfl (hb hby own_d11_11) rfl (l' := #[rv (q ky), iv x, iv (vT kf)]) rfl ?_
    show own_S p e below T3 m 12 #[rv (q ky), iv x, iv (vT kf)] [] _
    refine XS.iloadN X3.here hx rfl (hb hby own_d11_12) rfl ?_
    show own_S p e below T3 m 13 #[rv (q ky), iv x, iv (vT kf)] [(.int (vT kf))] _
    refine XS.iconst X3.here hx rfl (hb hby own_d11_13) ?_
    show own_S p e below T3 m 14 #[rv (q ky), iv x, iv (vT kf)] [(.int (-1 : Int32)), (.int (vT kf))] _
    exact kt
  refine own_st sg4 ?_
  by_cases hc5 : (vT kf) = (-1 : Int32)
  · skip
    have sg6 : own_V p e below T3 (mkF m 29 #[rv (q ky), iv x, iv (vT kf)] []) (mkF m 14 #[rv (q ky), iv x, iv (vT kf)] [(.int (-1 : Int32)), (.int (vT kf))]) := by
      intro t kt
      refine XS.icmpYes X3.here hx rfl (pc0 := 14) (pc' := 29) rfl (hb hby own_d11_14) rfl (teq hc5).1 (by decide) (by decide) ?_
      exact kt
    refine own_st sg6 ?_
    have sg7 : own_V p e below T3 (mkF m 30 #[rv (q ky), iv x, iv (vT kf)] [(.ref (q ky))]) (mkF m 29 #[rv (q ky), iv x, iv (vT kf)] []) := by
      intro t kt
      refine XS.aloadN X3.here hx rfl (hb hby own_d11_29) rfl rfl ?_
      show own_S p e below T3 m 30 #[rv (q ky), iv x, iv (vT kf)] [(.ref (q ky))] _
      exact kt
    refine own_st sg7 ?_
    obtain ⟨T8, X8, e8, st8⟩ := getF X3 hx hZ hown (host := "") (Or.inl (hw _ (List.mem_of_getElem? (i := 26) rfl))) Via.refl e3 Frec (g := (mkF m 30 #[rv (q ky), iv x, iv (vT kf)] [(.ref (q ky))])) rfl rfl (hb hby own_d11_30)
    refine own_st st8 ?_
    show own_Go p e below _ T8 (mkF m 33 #[rv (q ky), iv x, iv (vT kf)] [(.ref (r ky))])
    have sg9 : own_V p e below T8 (mkF m 37 #[rv (q ky), iv x, iv (vT kf)] [(.int (vR ky kf))]) (mkF m 33 #[rv (q ky), iv x, iv (vT kf)] [(.ref (r ky))]) := by
      intro t kt
      refine XS.iloadN X8.here hx rfl (hb hby own_d11_33) rfl ?_
      show own_S p e below T8 m 34 #[rv (q ky), iv x, iv (vT kf)] [(.int x), (.ref (r ky))] _
      refine XS.iconst X8.here hx rfl (hb hby own_d11_34) ?_
      show own_S p e below T8 m 35 #[rv (q ky), iv x, iv (vT kf)] [(.int (1 : Int32)), (.int x), (.ref (r ky))] _
      refine XS.isub X8.here hx rfl (hb hby own_d11_35) rfl ?_
      show own_S p e below T8 m 36 #[rv (q ky), iv x, iv (vT kf)] [(.int (x - (1 : Int32))), (.ref (r ky))] _
      refine own_rdB X8 hx hZ e8 AR if1 hf3 (g := (mkF m 36 #[rv (q ky), iv x, iv (vT kf)] [(.int (x - (1 : Int32))), (.ref (r ky))])) rfl rfl (hb hby own_d11_36) _ ?_
      show own_S p e below T8 m 37 #[rv (q ky), iv x, iv (vT kf)] [(.int (vR ky kf))] _
      exact kt
    refine own_st sg9 ?_
    have hF : own_val vT vR kf ky = vR ky kf := by unfold own_val; rw [if_pos hc5]
    exact own_retI X8 hx Bd.notSynchronized Bd.returns (hb hby own_d11_37) (by decide) (by decide) e8 ⟨by rw [hF], N0, rfl⟩
  have sg10 : own_V p e below T3 (mkF m 17 #[rv (q ky), iv x, iv (vT kf)] []) (mkF m 14 #[rv (q ky), iv x, iv (vT kf)] [(.int (-1 : Int32)), (.int (vT kf))]) := by
    intro t kt
    refine XS.icmpNo X3.here hx rfl (hb hby own_d11_14) rfl (feq hc5).1 ?_
    exact kt
  refine own_st sg10 ?_
  have sg11 : own_V p e below T3 (mkF m 19 #[rv (q ky), iv x, iv (vT kf)] [(.ref (q ky)), (.int x)]) (mkF m 17 #[rv (q ky), iv x, iv (vT kf)] []) := by
    intro t kt
    refine XS.iloadN X3.here hx rfl (hb hby own_d11_17) rfl ?_
    show own_S p e below T3 m 18 #[rv (q ky), iv x, iv (vT kf)] [(.int x)] _
    refine XS.aloadN X3.here hx rfl (hb hby own_d11_18) rfl rfl ?_
    show own_S p e below T3 m 19 #[rv (q ky), iv x, iv (vT kf)] [(.ref (q ky)), (.int x)] _
    exact kt
  refine own_st sg11 ?_
  obtain ⟨T12, X12, e12, st12⟩ := getF X3 hx hZ hown (host := "") (Or.inl (hw _ (List.mem_of_getElem? (i := 23) rfl))) Via.refl e3 Fto (g := (mkF m 19 #[rv (q ky), iv x, iv (vT kf)] [(.ref (q ky)), (.int x)])) rfl rfl (hb hby own_d11_19)
  refine own_st st12 ?_
  show own_Go p e below _ T12 (mkF m 22 #[rv (q ky), iv x, iv (vT kf)] [(.int (Int32.ofNat (ky + 1))), (.int x)])
  by_cases hc13 : x = (Int32.ofNat (ky + 1))
  · skip
    have sg14 : own_V p e below T12 (mkF m 29 #[rv (q ky), iv x, iv (vT kf)] []) (mkF m 22 #[rv (q ky), iv x, iv (vT kf)] [(.int (Int32.ofNat (ky + 1))), (.int x)]) := by
      intro t kt
      refine XS.icmpYes X12.here hx rfl (pc0 := 22) (pc' := 29) rfl (hb hby own_d11_22) rfl (teq hc13).1 (by decide) (by decide) ?_
      exact kt
    refine own_st sg14 ?_
    have sg15 : own_V p e below T12 (mkF m 30 #[rv (q ky), iv x, iv (vT kf)] [(.ref (q ky))]) (mkF m 29 #[rv (q ky), iv x, iv (vT kf)] []) := by
      intro t kt
      refine XS.aloadN X12.here hx rfl (hb hby own_d11_29) rfl rfl ?_
      show own_S p e below T12 m 30 #[rv (q ky), iv x, iv (vT kf)] [(.ref (q ky))] _
      exact kt
    refine own_st sg15 ?_
    obtain ⟨T16, X16, e16, st16⟩ := getF X12 hx hZ hown (host := "") (Or.inl (hw _ (List.mem_of_getElem? (i := 26) rfl))) Via.refl e12 Frec (g := (mkF m 30 #[rv (q ky), iv x, iv (vT kf)] [(.ref (q ky))])) rfl rfl (hb hby own_d11_30)
    refine own_st st16 ?_
    show own_Go p e below _ T16 (mkF m 33 #[rv (q ky), iv x, iv (vT kf)] [(.ref (r ky))])
    have sg17 : own_V p e below T16 (mkF m 37 #[rv (q ky), iv x, iv (vT kf)] [(.int (vR ky kf))]) (mkF m 33 #[rv (q ky), iv x, iv (vT kf)] [(.ref (r ky))]) := by
      intro t kt
      refine XS.iloadN X16.here hx rfl (hb hby own_d11_33) rfl ?_
      show own_S p e below T16 m 34 #[rv (q ky), iv x, iv (vT kf)] [(.int x), (.ref (r ky))] _
      refine XS.iconst X16.here hx rfl (hb hby own_d11_34) ?_
      show own_S p e below T16 m 35 #[rv (q ky), iv x, iv (vT kf)] [(.int (1 : Int32)), (.int x), (.ref (r ky))] _
      refine XS.isub X16.here hx rfl (hb hby own_d11_35) rfl ?_
      show own_S p e below T16 m 36 #[rv (q ky), iv x, iv (vT kf)] [(.int (x - (1 : Int32))), (.ref (r ky))] _
      refine own_rdB X16 hx hZ e16 AR if1 hf3 (g := (mkF m 36 #[rv (q ky), iv x, iv (vT kf)] [(.int (x - (1 : Int32))), (.ref (r ky))])) rfl rfl (hb hby own_d11_36) _ ?_
      show own_S p e below T16 m 37 #[rv (q ky), iv x, iv (vT kf)] [(.int (vR ky kf))] _
      exact kt
    refine own_st sg17 ?_
    have hF : own_val vT vR kf ky = vR ky kf := by
      have hq : kf = ky := by have z := congrArg Int32.toInt hc13; rw [hkf, own_ofn ky ht3] at z; omega
      unfold own_val; rw [if_neg hc5, if_pos hq]
    exact own_retI X16 hx Bd.notSynchronized Bd.returns (hb hby own_d11_37) (by decide) (by decide) e16 ⟨by rw [hF], N0, rfl⟩
  have sg18 : own_V p e below T12 (mkF m 25 #[rv (q ky), iv x, iv (vT kf)] []) (mkF m 22 #[rv (q ky), iv x, iv (vT kf)] [(.int (Int32.ofNat (ky + 1))), (.int x)]) := by
    intro t kt
    refine XS.icmpNo X12.here hx rfl (hb hby own_d11_22) rfl (feq hc13).1 ?_
    exact kt
  refine own_st sg18 ?_
  have sg19 : own_V p e below T12 (mkF m 37 #[rv (q ky), iv x, iv (vT kf)] [(.int (vT kf))]) (mkF m 25 #[rv (q ky), iv x, iv (vT kf)] []) := by
    intro t kt
    refine XS.iloadN X12.here hx rfl (hb hby own_d11_25) rfl ?_
    show own_S p e below T12 m 26 #[rv (q ky), iv x, iv (vT kf)] [(.int (vT kf))] _
    refine XS.goto X12.here hx rfl (pc0 := 26) (pc' := 37) rfl (hb hby own_d11_26) (by decide) (by decide) ?_
    show own_S p e below T12 m 37 #[rv (q ky), iv x, iv (vT kf)] [(.int (vT kf))] _
    exact kt
  refine own_st sg19 ?_
  have hne : ¬ kf = ky := fun z => hc13 (own_eqI (by rw [hkf, own_ofn ky ht3, z]))
  have hF : own_val vT vR kf ky = vT kf := by unfold own_val; rw [if_neg hc5, if_neg hne]
  exact own_retI X12 hx Bd.notSynchronized Bd.returns (hb hby own_d11_37) (by decide) (by decide) e12 ⟨by rw [hF], N0, rfl⟩
theorem own_d10_0 : decode prog_65_method_5_code 0 = .ok (.aload_n 0, 1) := by decide +kernel
theorem own_d10_1 : decode prog_65_method_5_code 1 = .ok (.getfield 18, 3) := by decide +kernel
theorem own_d10_4 : decode prog_65_method_5_code 4 = .ok (.iload_n 2, 1) := by decide +kernel
theorem own_d10_5 : decode prog_65_method_5_code 5 = .ok (.iconst 1, 1) := by decide +kernel
theorem own_d10_6 : decode prog_65_method_5_code 6 = .ok (.isub, 1) := by decide +kernel
theorem own_d10_7 : decode prog_65_method_5_code 7 = .ok (.aaload, 1) := by decide +kernel
theorem own_d10_8 : decode prog_65_method_5_code 8 = .ok (.iload_n 1, 1) := by decide +kernel
theorem own_d10_9 : decode prog_65_method_5_code 9 = .ok (.invokevirtual 80, 3) := by decide +kernel
theorem own_d10_12 : decode prog_65_method_5_code 12 = .ok (.ireturn, 1) := by decide +kernel
theorem own_pd5 : parseMethodDescriptor "(I)I" = some ⟨[.int], some .int⟩ := by decide +kernel
theorem own_efval (m : MethodId) (d : Nat) (x : Int32) (y : Int32) : entryFrame m #[(.ref d), (.int x), (.int y)] 3 = mkF m 0 #[rv d, iv x, iv y] [] := by first | (simp [entryFrame, mkF, argsToLocals, Value.category]; done) | rfl
set_option maxRecDepth 65536 in
set_option maxHeartbeats 40000000 in
theorem own_rmval (l : Launch) (Z : State) (a0 : Array Value) (hw : ∀ d ∈ tables_1, d.before a0 Z = true) (d : Nat) (x : Int32) (y : Int32) (ib kp ta ob : Nat) (q r : Nat → Nat) (kk vT vO : Nat → Int32) (vR : Nat → Nat → Int32) (cnt : Int64) (kf ky : Nat) (h0 : Heap) (n0 : Nat) (Z0 : n0 ≤ h0.size) (HA : own_Ad n0 d ib kp ta ob q r) (HD : own_D Z h0 d ib kp ta ob q r kk vT vO vR cnt) (hkf : x.toInt = ((kf + 1 : Nat) : Int)) (hky : y.toInt = ((ky + 1 : Nat) : Int)) (hf3 : kf < 3) (ht3 : ky < 3) :
    own_Ct l Z (⟨"com/example/kingsround/kingsround/engine/Deliveries", "value", "(II)I"⟩ : MethodName) prog_65_method_5_code 3 (some .int) ({ frames := 1, cells := 0, slots := 0, locals := 14 } : Room) #[(.ref d), (.int x), (.int y)] h0 (fun v h L => v = some (.int (own_val vT vR kf ky)) ∧ Fr n0 L ∧ h = h0) := by
  refine own_body (y := (⟨"com/example/kingsround/kingsround/engine/Deliveries", "value", "(II)I"⟩ : MethodName)) (Q := fun v h L => v = some (.int (own_val vT vR kf ky)) ∧ Fr n0 L ∧ h = h0) (plainFor_of_name own_pn1) ?_
  intro p e s m below meth c s₁ Bd hml0 hZ e0
  have hx := Bd.exec
  have hby := Bd.bytes
  have hml : c.maxLocals = 3 := hml0
  have hown : s.vm.findClass "com/example/kingsround/kingsround/engine/Deliveries" = some m.cls := findClass_of_methodNamed Bd.named
  have hnm := (name_of_methodNamed Bd.named Bd.method).1
  have X0 : Stand p l e ({ frames := 1, cells := 0, slots := 0, locals := 14 } : Room) s m #[(.ref d), (.int x), (.int y)] below meth c s₁ [] 0 0 := Stand.of_body Bd
  have N0 := Fr.nil n0
  rw [own_efval]
  have HD0 := HD
  obtain ⟨EE, Finboxes, Fkept, FtoAll, FoneByOne, Fcount, AI, AK, AT, AO, DVS⟩ := HD
  have it1 := own_i1 hky
  have sg1 : own_V p e below s₁ (mkF m 1 #[rv d, iv x, iv y] [(.ref d)]) (mkF m 0 #[rv d, iv x, iv y] []) := by
    intro t kt
    refine XS.aloadN X0.here hx rfl (hb hby own_d10_0) rfl rfl ?_
    show own_S p e below s₁ m 1 #[rv d, iv x, iv y] [(.ref d)] _
    exact kt
  refine own_st sg1 ?_
  obtain ⟨T2, X2, e2, st2⟩ := getF X0 hx hZ hown (host := "") (Or.inl (hw _ (List.mem_of_getElem? (i := 13) rfl))) Via.refl e0 Finboxes (g := (mkF m 1 #[rv d, iv x, iv y] [(.ref d)])) rfl rfl (hb hby own_d10_1)
  refine own_st st2 ?_
  show own_Go p e below _ T2 (mkF m 4 #[rv d, iv x, iv y] [(.ref ib)])
  have sg3 : own_V p e below T2 (mkF m 9 #[rv d, iv x, iv y] [(.int x), (.ref (q ky))]) (mkF m 4 #[rv d, iv x, iv y] [(.ref ib)]) := by
    intro t kt
    refine XS.iloadN X2.here hx rfl (hb hby own_d10_4) rfl ?_
    show own_S p e below T2 m 5 #[rv d, iv x, iv y] [(.int y), (.ref ib)] _
    refine XS.iconst X2.here hx rfl (hb hby own_d10_5) ?_
    show own_S p e below T2 m 6 #[rv d, iv x, iv y] [(.int (1 : Int32)), (.int y), (.ref ib)] _
    refine XS.isub X2.here hx rfl (hb hby own_d10_6) rfl ?_
    show own_S p e below T2 m 7 #[rv d, iv x, iv y] [(.int (y - (1 : Int32))), (.ref ib)] _
    refine own_rdR X2 hx hZ e2 AI rfl it1 ht3 (g := (mkF m 7 #[rv d, iv x, iv y] [(.int (y - (1 : Int32))), (.ref ib)])) rfl rfl (hb hby own_d10_7) _ ?_
    show own_S p e below T2 m 8 #[rv d, iv x, iv y] [(.ref (q ky))] _
    refine XS.iloadN X2.here hx rfl (hb hby own_d10_8) rfl ?_
    show own_S p e below T2 m 9 #[rv d, iv x, iv y] [(.int x), (.ref (q ky))] _
    exact kt
  refine own_st sg3 ?_
  obtain ⟨_, T4, L4, X4, hQ4, st4⟩ := own_callV (y := (⟨"com/example/kingsround/kingsround/engine/Deliveries$Delivered", "value", "(I)I"⟩ : MethodName)) (y0 := (⟨"com/example/kingsround/kingsround/engine/Deliveries$Delivered", "value", "(I)I"⟩ : MethodName)) (a := (q ky)) (C := "com/example/kingsround/kingsround/engine/Deliveries$Delivered") X2 hx hZ hown (DVS ky ht3).1 (hw _ (List.mem_of_getElem? (i := 94) rfl)) (hw _ (List.mem_of_getElem? (i := 95) rfl)) (hw _ (List.mem_of_getElem? (i := 97) rfl)) (notFace_of_selects (args := #[]) (mvT hZ (hw _ (List.mem_of_getElem? (i := 97) rfl)))) (hw _ (List.mem_of_getElem? (i := 96) rfl)) (hw _ (List.mem_of_getElem? (i := 16) rfl)) (hw _ (List.mem_of_getElem? (i := 98) rfl)) (by decide) (own_rmdval l Z a0 hw (q ky) x d ib kp ta ob q r kk vT vO vR cnt kf ky h0 n0 Z0 HA HD0 rfl hkf hf3 ht3) e2 (g := (mkF m 9 #[rv d, iv x, iv y] [(.int x), (.ref (q ky))])) rfl (by rw [hml]; rfl) (argsL := [(.int x)]) (rest := []) (lenOf own_pd5 rfl) rfl (W := 0) (by show 2 * 0 + _ ≤ _; exact Nat.le_of_eq rfl) (hb hby own_d10_9) (by decide) (by decide) (by decide) (by decide)
  obtain ⟨rfl, Nq4, e4⟩ := hQ4
  refine own_st st4 ?_
  have N4 := Fr.app N0 Nq4
  show own_Go p e below _ T4 (mkF m 12 #[rv d, iv x, iv y] [(.int (own_val vT vR kf ky))])
  exact own_retI X4 hx Bd.notSynchronized Bd.returns (hb hby own_d10_12) (by decide) (by decide) e4 ⟨rfl, N4, rfl⟩
def own_bi (b : Bool) : Int32 := if b then 1 else 0
def own_K (b0 b1 b2 : Bool) : Nat → Int32 := fun i => if i = 0 then own_bi b0 else if i = 1 then own_bi b1 else own_bi b2
theorem own_bit (u : Int32) (P : Prop) [Decidable P] (h : u = (if P then (0 : Int32) else (1 : Int32))) : ∃ b : Bool, nar .boolean u = own_bi b := by
  rw [h]; split
  · exact ⟨false, by decide⟩
  · exact ⟨true, by decide⟩
def own_kt (i : Nat) (bb : Bool) : Nat := (i + 1 + (if bb then 1 else 0)) % 3
def own_ko (i : Nat) (bb : Bool) : Nat := 3 - i - own_kt i bb
theorem own_and1 (x : Int32) : ∃ b : Bool, (x &&& (1 : Int32)) = own_bi b := by
  rcases and_one x with h | h
  · exact ⟨false, by rw [h]; rfl⟩
  · exact ⟨true, by rw [h]; rfl⟩
theorem own_bi_toInt (b : Bool) : (own_bi b).toInt = (((if b then 1 else 0) : Nat) : Int) := by cases b <;> decide
theorem own_from (a fr : Int32) (h : fr = ((1 : Int32) + ((a &&& (2147483647 : Int32)) % (3 : Int32)))) : ∃ kf : Nat, fr.toInt = ((kf + 1 : Nat) : Int) ∧ kf < 3 := by
  have m1 : (a &&& (2147483647 : Int32)).toInt = a.toInt % ((2 ^ 31 : Nat) : Int) := c_mask a 2147483647 31 (by decide) (by decide)
  generalize (a &&& (2147483647 : Int32)) = y at *
  have a1 := (c_irem y 3 3 (by decide)).1 (by omega)
  have c1 := c_iadd 1 (y % 3)
  have r1 := rng32 ((1 : Int32) + (y % 3))
  have e : (1 : Int32).toInt = 1 := by decide
  rw [e, ← h] at c1
  rw [← h] at r1
  exact ⟨fr.toInt.toNat - 1, by omega, by omega⟩
theorem own_to (fr to u : Int32) (kf : Nat) (bb : Bool) (hu : u = own_bi bb) (hf : fr.toInt = ((kf + 1 : Nat) : Int)) (h3 : kf < 3) (h : to = ((1 : Int32) + ((fr + u) % (3 : Int32)))) : to.toInt = ((own_kt kf bb + 1 : Nat) : Int) ∧ own_kt kf bb < 3 := by
  have b1 := own_bi_toInt bb
  rw [← hu] at b1
  have e : (1 : Int32).toInt = 1 := by decide
  have c1 := c_iadd fr u
  have r1 := rng32 (fr + u)
  generalize fr + u = z at *
  have k1 : (if bb then 1 else 0) ≤ 1 := by cases bb <;> decide
  unfold own_kt
  generalize (if bb then 1 else 0) = k at *
  have a1 := (c_irem z 3 3 (by decide)).1 (by omega)
  have c2 := c_iadd 1 (z % 3)
  have r2 := rng32 ((1 : Int32) + (z % 3))
  rw [e, ← h] at c2
  rw [← h] at r2
  omega
theorem own_oo (fr to oo : Int32) (kf : Nat) (bb : Bool) (hf : fr.toInt = ((kf + 1 : Nat) : Int)) (h3 : kf < 3) (ht : to.toInt = ((own_kt kf bb + 1 : Nat) : Int)) (ht3 : own_kt kf bb < 3) (h : oo = (((6 : Int32) - fr) - to)) : oo.toInt = ((own_ko kf bb + 1 : Nat) : Int) ∧ own_ko kf bb < 3 := by
  have e : (6 : Int32).toInt = 6 := by decide
  have c1 := c_isub 6 fr
  have r1 := rng32 ((6 : Int32) - fr)
  rw [e] at c1
  have c2 := c_isub ((6 : Int32) - fr) to
  have r2 := rng32 (((6 : Int32) - fr) - to)
  rw [← h] at c2 r2
  have key : ∀ (i : Fin 3) (b : Bool), own_ko i.1 b + own_kt i.1 b + i.1 = 3 ∧ own_ko i.1 b < 3 := by decide
  have q := key ⟨kf, h3⟩ bb
  have q1 : own_ko kf bb + own_kt kf bb + kf = 3 := q.1
  exact ⟨by omega, q.2⟩
theorem own_s4 (x z : Int32) (h : z = ((x &&& (2147483647 : Int32)) % (4 : Int32))) : z = 0 ∨ z = 1 ∨ z = 2 ∨ z = 3 := by
  have m1 : (x &&& (2147483647 : Int32)).toInt = x.toInt % ((2 ^ 31 : Nat) : Int) := c_mask x 2147483647 31 (by decide) (by decide)
  generalize (x &&& (2147483647 : Int32)) = y at *
  have a1 := (c_irem y 4 4 (by decide)).1 (by omega)
  rw [← h] at a1
  have : z.toInt = 0 ∨ z.toInt = 1 ∨ z.toInt = 2 ∨ z.toInt = 3 := by omega
  rcases this with q | q | q | q
  · exact Or.inl (own_eqI (by rw [q]; decide))
  · exact Or.inr (Or.inl (own_eqI (by rw [q]; decide)))
  · exact Or.inr (Or.inr (Or.inl (own_eqI (by rw [q]; decide))))
  · exact Or.inr (Or.inr (Or.inr (own_eqI (by rw [q]; decide))))
theorem own_pd6 : parseMethodDescriptor "([Z)V" = some ⟨[(.array .boolean)], none⟩ := by decide +kernel
theorem own_pd7 : parseMethodDescriptor "(III)Z" = some ⟨[.int, .int, .int], some .boolean⟩ := by decide +kernel
def own_f_ei (b0 b1 b2 : Bool) (kf : Nat) (bb bv bw : Bool) : Int32 := (if (own_K b0 b1 b2 kf) = (0 : Int32) then (if (own_K b0 b1 b2 (own_kt kf bb)) = (0 : Int32) then (0 : Int32) else (1 : Int32)) else (1 : Int32))
def own_f_bls0 (b0 b1 b2 : Bool) (kf : Nat) (bb bv bw : Bool) : Int32 := (0 : Int32)
def own_f_sos0 (b0 b1 b2 : Bool) (kf : Nat) (bb bv bw : Bool) : Int32 := (if (own_f_ei b0 b1 b2 kf bb bv bw) = (0 : Int32) then (0 : Int32) else (if (own_f_bls0 b0 b1 b2 kf bb bv bw) = (0 : Int32) then (1 : Int32) else (0 : Int32)))
def own_f_pls0 (b0 b1 b2 : Bool) (kf : Nat) (bb bv bw : Bool) : Int64 := (if (own_f_sos0 b0 b1 b2 kf bb bv bw) = (0 : Int32) then (0 : Int64) else (1 : Int64))
def own_f_ecs0 (b0 b1 b2 : Bool) (kf : Nat) (bb bv bw : Bool) : Int64 := ((0 : Int64) + (own_f_pls0 b0 b1 b2 kf bb bv bw))
def own_f_efts0 (b0 b1 b2 : Bool) (kf : Nat) (bb bv bw : Bool) : Int32 := (if (own_f_sos0 b0 b1 b2 kf bb bv bw) = (0 : Int32) then (-1 : Int32) else (own_bi bv))
def own_f_nbs0 (b0 b1 b2 : Bool) (kf : Nat) (bb bv bw : Bool) : Int32 := (if (own_f_bls0 b0 b1 b2 kf bb bv bw) = (0 : Int32) then (1 : Int32) else (0 : Int32))
theorem own_fins0 : ∀ (b0 b1 b2 : Bool) (kf0 : Fin 3) (bb bv bw : Bool), (own_pr (own_K b0 b1 b2) (fun _ => -1) (fun _ _ => -1) kf0.1 (own_kt kf0.1 bb)) = (own_f_nbs0 b0 b1 b2 kf0.1 bb bv bw) ∧ (own_pc (own_K b0 b1 b2) (fun _ => -1) (fun _ _ => -1) kf0.1 (own_kt kf0.1 bb) 0) = (own_f_ecs0 b0 b1 b2 kf0.1 bb bv bw) ∧ (own_val (fun _ => -1) (own_pR (own_K b0 b1 b2) (fun _ => -1) (fun _ _ => -1) kf0.1 (own_kt kf0.1 bb) (own_bi bv)) kf0.1 (own_kt kf0.1 bb)) = (own_f_efts0 b0 b1 b2 kf0.1 bb bv bw) ∧ (own_val (fun _ => -1) (own_pR (own_K b0 b1 b2) (fun _ => -1) (fun _ _ => -1) kf0.1 (own_kt kf0.1 bb) (own_bi bv)) kf0.1 (own_ko kf0.1 bb)) = (-1 : Int32) ∧ (own_val (fun _ => -1) (own_pR (own_K b0 b1 b2) (fun _ => -1) (fun _ _ => -1) kf0.1 (own_kt kf0.1 bb) (own_bi bv)) (own_kt kf0.1 bb) kf0.1) = (-1 : Int32) ∧ True := by decide +kernel
theorem own_pd8 : parseMethodDescriptor "()J" = some ⟨[], some .long⟩ := by decide +kernel
theorem own_pd9 : parseMethodDescriptor "(II)I" = some ⟨[.int, .int], some .int⟩ := by decide +kernel
def own_f_pre1 (b0 b1 b2 : Bool) (kf : Nat) (bb bv bw : Bool) : Int64 := (if (own_f_ei b0 b1 b2 kf bb bv bw) = (0 : Int32) then (0 : Int64) else (1 : Int64))
def own_f_pft1 (b0 b1 b2 : Bool) (kf : Nat) (bb bv bw : Bool) : Int32 := (if (own_f_ei b0 b1 b2 kf bb bv bw) = (0 : Int32) then (-1 : Int32) else (own_bi bw))
def own_f_bls1 (b0 b1 b2 : Bool) (kf : Nat) (bb bv bw : Bool) : Int32 := (if (own_f_pft1 b0 b1 b2 kf bb bv bw) = (-1 : Int32) then (0 : Int32) else (1 : Int32))
def own_f_sos1 (b0 b1 b2 : Bool) (kf : Nat) (bb bv bw : Bool) : Int32 := (if (own_f_ei b0 b1 b2 kf bb bv bw) = (0 : Int32) then (0 : Int32) else (if (own_f_bls1 b0 b1 b2 kf bb bv bw) = (0 : Int32) then (1 : Int32) else (0 : Int32)))
def own_f_pls1 (b0 b1 b2 : Bool) (kf : Nat) (bb bv bw : Bool) : Int64 := (if (own_f_sos1 b0 b1 b2 kf bb bv bw) = (0 : Int32) then (0 : Int64) else (1 : Int64))
def own_f_ecs1 (b0 b1 b2 : Bool) (kf : Nat) (bb bv bw : Bool) : Int64 := ((own_f_pre1 b0 b1 b2 kf bb bv bw) + (own_f_pls1 b0 b1 b2 kf bb bv bw))
def own_f_efts1 (b0 b1 b2 : Bool) (kf : Nat) (bb bv bw : Bool) : Int32 := (if (own_f_sos1 b0 b1 b2 kf bb bv bw) = (0 : Int32) then (own_f_pft1 b0 b1 b2 kf bb bv bw) else (own_bi bv))
def own_f_nbs1 (b0 b1 b2 : Bool) (kf : Nat) (bb bv bw : Bool) : Int32 := (if (own_f_bls1 b0 b1 b2 kf bb bv bw) = (0 : Int32) then (1 : Int32) else (0 : Int32))
theorem own_fins1 : ∀ (b0 b1 b2 : Bool) (kf0 : Fin 3) (bb bv bw : Bool), (own_pr (own_K b0 b1 b2) (fun _ => -1) (own_pR (own_K b0 b1 b2) (fun _ => -1) (fun _ _ => -1) kf0.1 (own_kt kf0.1 bb) (own_bi bw)) kf0.1 (own_kt kf0.1 bb)) = (own_f_nbs1 b0 b1 b2 kf0.1 bb bv bw) ∧ (own_pc (own_K b0 b1 b2) (fun _ => -1) (own_pR (own_K b0 b1 b2) (fun _ => -1) (fun _ _ => -1) kf0.1 (own_kt kf0.1 bb) (own_bi bw)) kf0.1 (own_kt kf0.1 bb) (own_pc (own_K b0 b1 b2) (fun _ => -1) (fun _ _ => -1) kf0.1 (own_kt kf0.1 bb) 0)) = (own_f_ecs1 b0 b1 b2 kf0.1 bb bv bw) ∧ (own_val (fun _ => -1) (own_pR (own_K b0 b1 b2) (fun _ => -1) (own_pR (own_K b0 b1 b2) (fun _ => -1) (fun _ _ => -1) kf0.1 (own_kt kf0.1 bb) (own_bi bw)) kf0.1 (own_kt kf0.1 bb) (own_bi bv)) kf0.1 (own_kt kf0.1 bb)) = (own_f_efts1 b0 b1 b2 kf0.1 bb bv bw) ∧ (own_val (fun _ => -1) (own_pR (own_K b0 b1 b2) (fun _ => -1) (own_pR (own_K b0 b1 b2) (fun _ => -1) (fun _ _ => -1) kf0.1 (own_kt kf0.1 bb) (own_bi bw)) kf0.1 (own_kt kf0.1 bb) (own_bi bv)) kf0.1 (own_ko kf0.1 bb)) = (-1 : Int32) ∧ (own_val (fun _ => -1) (own_pR (own_K b0 b1 b2) (fun _ => -1) (own_pR (own_K b0 b1 b2) (fun _ => -1) (fun _ _ => -1) kf0.1 (own_kt kf0.1 bb) (own_bi bw)) kf0.1 (own_kt kf0.1 bb) (own_bi bv)) (own_kt kf0.1 bb) kf0.1) = (-1 : Int32) ∧ True := by decide +kernel
theorem own_pd10 : parseMethodDescriptor "(II)Z" = some ⟨[.int, .int], some .boolean⟩ := by decide +kernel
def own_f_pre2 (b0 b1 b2 : Bool) (kf : Nat) (bb bv bw : Bool) : Int64 := (if (own_K b0 b1 b2 kf) = (0 : Int32) then (0 : Int64) else (2 : Int64))
def own_f_pft2 (b0 b1 b2 : Bool) (kf : Nat) (bb bv bw : Bool) : Int32 := (if (own_K b0 b1 b2 kf) = (0 : Int32) then (-1 : Int32) else (own_bi bw))
def own_f_pfo2 (b0 b1 b2 : Bool) (kf : Nat) (bb bv bw : Bool) : Int32 := (if (own_K b0 b1 b2 kf) = (0 : Int32) then (-1 : Int32) else (own_bi bw))
def own_f_bls2 (b0 b1 b2 : Bool) (kf : Nat) (bb bv bw : Bool) : Int32 := (if (own_f_pft2 b0 b1 b2 kf bb bv bw) = (-1 : Int32) then (0 : Int32) else (1 : Int32))
def own_f_sos2 (b0 b1 b2 : Bool) (kf : Nat) (bb bv bw : Bool) : Int32 := (if (own_f_ei b0 b1 b2 kf bb bv bw) = (0 : Int32) then (0 : Int32) else (if (own_f_bls2 b0 b1 b2 kf bb bv bw) = (0 : Int32) then (1 : Int32) else (0 : Int32)))
def own_f_pls2 (b0 b1 b2 : Bool) (kf : Nat) (bb bv bw : Bool) : Int64 := (if (own_f_sos2 b0 b1 b2 kf bb bv bw) = (0 : Int32) then (0 : Int64) else (1 : Int64))
def own_f_ecs2 (b0 b1 b2 : Bool) (kf : Nat) (bb bv bw : Bool) : Int64 := ((own_f_pre2 b0 b1 b2 kf bb bv bw) + (own_f_pls2 b0 b1 b2 kf bb bv bw))
def own_f_efts2 (b0 b1 b2 : Bool) (kf : Nat) (bb bv bw : Bool) : Int32 := (if (own_f_sos2 b0 b1 b2 kf bb bv bw) = (0 : Int32) then (own_f_pft2 b0 b1 b2 kf bb bv bw) else (own_bi bv))
def own_f_nbs2 (b0 b1 b2 : Bool) (kf : Nat) (bb bv bw : Bool) : Int32 := (if (own_f_bls2 b0 b1 b2 kf bb bv bw) = (0 : Int32) then (1 : Int32) else (0 : Int32))
theorem own_fins2 : ∀ (b0 b1 b2 : Bool) (kf0 : Fin 3) (bb bv bw : Bool), (own_pr (own_K b0 b1 b2) (own_aT (own_K b0 b1 b2) (fun _ => -1) (fun _ => 0) kf0.1 (own_bi bw)) (fun _ _ => -1) kf0.1 (own_kt kf0.1 bb)) = (own_f_nbs2 b0 b1 b2 kf0.1 bb bv bw) ∧ (own_pc (own_K b0 b1 b2) (own_aT (own_K b0 b1 b2) (fun _ => -1) (fun _ => 0) kf0.1 (own_bi bw)) (fun _ _ => -1) kf0.1 (own_kt kf0.1 bb) (own_ac (own_K b0 b1 b2) (fun _ => -1) (fun _ => 0) kf0.1 0)) = (own_f_ecs2 b0 b1 b2 kf0.1 bb bv bw) ∧ (own_val (own_aT (own_K b0 b1 b2) (fun _ => -1) (fun _ => 0) kf0.1 (own_bi bw)) (own_pR (own_K b0 b1 b2) (own_aT (own_K b0 b1 b2) (fun _ => -1) (fun _ => 0) kf0.1 (own_bi bw)) (fun _ _ => -1) kf0.1 (own_kt kf0.1 bb) (own_bi bv)) kf0.1 (own_kt kf0.1 bb)) = (own_f_efts2 b0 b1 b2 kf0.1 bb bv bw) ∧ (own_val (own_aT (own_K b0 b1 b2) (fun _ => -1) (fun _ => 0) kf0.1 (own_bi bw)) (own_pR (own_K b0 b1 b2) (own_aT (own_K b0 b1 b2) (fun _ => -1) (fun _ => 0) kf0.1 (own_bi bw)) (fun _ _ => -1) kf0.1 (own_kt kf0.1 bb) (own_bi bv)) kf0.1 (own_ko kf0.1 bb)) = (own_f_pfo2 b0 b1 b2 kf0.1 bb bv bw) ∧ (own_val (own_aT (own_K b0 b1 b2) (fun _ => -1) (fun _ => 0) kf0.1 (own_bi bw)) (own_pR (own_K b0 b1 b2) (own_aT (own_K b0 b1 b2) (fun _ => -1) (fun _ => 0) kf0.1 (own_bi bw)) (fun _ _ => -1) kf0.1 (own_kt kf0.1 bb) (own_bi bv)) (own_kt kf0.1 bb) kf0.1) = (-1 : Int32) ∧ True := by decide +kernel
def own_f_pre3 (b0 b1 b2 : Bool) (kf : Nat) (bb bv bw : Bool) : Int64 := (if (own_K b0 b1 b2 kf) = (0 : Int32) then (if (own_K b0 b1 b2 (own_ko kf bb)) = (0 : Int32) then (0 : Int64) else (1 : Int64)) else (1 : Int64))
def own_f_pfo3 (b0 b1 b2 : Bool) (kf : Nat) (bb bv bw : Bool) : Int32 := (if (own_K b0 b1 b2 kf) = (0 : Int32) then (if (own_K b0 b1 b2 (own_ko kf bb)) = (0 : Int32) then (-1 : Int32) else (own_bi bw)) else (own_bi bw))
def own_f_bls3 (b0 b1 b2 : Bool) (kf : Nat) (bb bv bw : Bool) : Int32 := (0 : Int32)
def own_f_sos3 (b0 b1 b2 : Bool) (kf : Nat) (bb bv bw : Bool) : Int32 := (if (own_f_ei b0 b1 b2 kf bb bv bw) = (0 : Int32) then (0 : Int32) else (if (own_f_bls3 b0 b1 b2 kf bb bv bw) = (0 : Int32) then (1 : Int32) else (0 : Int32)))
def own_f_pls3 (b0 b1 b2 : Bool) (kf : Nat) (bb bv bw : Bool) : Int64 := (if (own_f_sos3 b0 b1 b2 kf bb bv bw) = (0 : Int32) then (0 : Int64) else (1 : Int64))
def own_f_ecs3 (b0 b1 b2 : Bool) (kf : Nat) (bb bv bw : Bool) : Int64 := ((own_f_pre3 b0 b1 b2 kf bb bv bw) + (own_f_pls3 b0 b1 b2 kf bb bv bw))
def own_f_efts3 (b0 b1 b2 : Bool) (kf : Nat) (bb bv bw : Bool) : Int32 := (if (own_f_sos3 b0 b1 b2 kf bb bv bw) = (0 : Int32) then (-1 : Int32) else (own_bi bv))
def own_f_nbs3 (b0 b1 b2 : Bool) (kf : Nat) (bb bv bw : Bool) : Int32 := (if (own_f_bls3 b0 b1 b2 kf bb bv bw) = (0 : Int32) then (1 : Int32) else (0 : Int32))
theorem own_fins3 : ∀ (b0 b1 b2 : Bool) (kf0 : Fin 3) (bb bv bw : Bool), (own_pr (own_K b0 b1 b2) (fun _ => -1) (own_pR (own_K b0 b1 b2) (fun _ => -1) (fun _ _ => -1) kf0.1 (own_ko kf0.1 bb) (own_bi bw)) kf0.1 (own_kt kf0.1 bb)) = (own_f_nbs3 b0 b1 b2 kf0.1 bb bv bw) ∧ (own_pc (own_K b0 b1 b2) (fun _ => -1) (own_pR (own_K b0 b1 b2) (fun _ => -1) (fun _ _ => -1) kf0.1 (own_ko kf0.1 bb) (own_bi bw)) kf0.1 (own_kt kf0.1 bb) (own_pc (own_K b0 b1 b2) (fun _ => -1) (fun _ _ => -1) kf0.1 (own_ko kf0.1 bb) 0)) = (own_f_ecs3 b0 b1 b2 kf0.1 bb bv bw) ∧ (own_val (fun _ => -1) (own_pR (own_K b0 b1 b2) (fun _ => -1) (own_pR (own_K b0 b1 b2) (fun _ => -1) (fun _ _ => -1) kf0.1 (own_ko kf0.1 bb) (own_bi bw)) kf0.1 (own_kt kf0.1 bb) (own_bi bv)) kf0.1 (own_kt kf0.1 bb)) = (own_f_efts3 b0 b1 b2 kf0.1 bb bv bw) ∧ (own_val (fun _ => -1) (own_pR (own_K b0 b1 b2) (fun _ => -1) (own_pR (own_K b0 b1 b2) (fun _ => -1) (fun _ _ => -1) kf0.1 (own_ko kf0.1 bb) (own_bi bw)) kf0.1 (own_kt kf0.1 bb) (own_bi bv)) kf0.1 (own_ko kf0.1 bb)) = (own_f_pfo3 b0 b1 b2 kf0.1 bb bv bw) ∧ (own_val (fun _ => -1) (own_pR (own_K b0 b1 b2) (fun _ => -1) (own_pR (own_K b0 b1 b2) (fun _ => -1) (fun _ _ => -1) kf0.1 (own_ko kf0.1 bb) (own_bi bw)) kf0.1 (own_kt kf0.1 bb) (own_bi bv)) (own_kt kf0.1 bb) kf0.1) = (-1 : Int32) ∧ True := by decide +kernel
theorem own_pn5 : plainName "com/example/kingsround/kingsround/engine/DeliveriesPutPinLaw" = true := by first | (simp [plainName, overriddenIn]; done) | decide +kernel
theorem own_eflaw (m : MethodId) (xk : Int32) (xa : Int32) (xb : Int32) (xc : Int32) : entryFrame m #[(.int xk), (.int xa), (.int xb), (.int xc)] maxLocals = mkF m 0 #[iv xk, iv xa, iv xb, iv xc, .unset, .unset, .unset, .unset, .unset, .unset, .unset, .unset, .unset, .unset, .unset, .unset, .unset, .unset, .unset, .unset, .unset, .unset, .unset, .unset, .unset, .unset] [] := by first | (simp [entryFrame, mkF, argsToLocals, Value.category, maxLocals]; done) | rfl
set_option maxRecDepth 65536 in
set_option maxHeartbeats 40000000 in
theorem own_rmlaw (l : Launch) (Z : State) (a0 : Array Value) (hw : ∀ d ∈ tables_1, d.before a0 Z = true) (xk : Int32) (xa : Int32) (xb : Int32) (xc : Int32) (h0 : Heap) (n0 : Nat) (Z0 : n0 ≤ h0.size) :
    MetFree l Jvm.Pilot.@@N@@.x (head1 (Jvm.Cond.code Jvm.Pilot.@@N@@.x code maxLocals ret :: tables_1) room_1) (fun a U => a = #[(.int xk), (.int xa), (.int xb), (.int xc)] ∧ Z.Warmed39 U.vm ∧ U.heap = h0) (fun _ _ _ _ _ => True) (fun _ U o U' => ∃ v L, o = .returned v ∧ (fun v h L => v = some (.int 1) ∧ Fr n0 L) v U'.heap L ∧ FrameEnd U o U' L 15 48) := by
  refine own_body (y := Jvm.Pilot.@@N@@.x) (Q := fun v h L => v = some (.int 1) ∧ Fr n0 L) (plainFor_of_name own_pn5) ?_
  intro p e s m below meth c s₁ Bd hml0 hZ e0
  have hx := Bd.exec
  have hby := Bd.bytes
  have hml : c.maxLocals = 26 := hml0
  have hown : s.vm.findClass "com/example/kingsround/kingsround/engine/DeliveriesPutPinLaw" = some m.cls := findClass_of_methodNamed Bd.named
  have hnm := (name_of_methodNamed Bd.named Bd.method).1
  have X0 : Stand p l e room_1 s m #[(.int xk), (.int xa), (.int xb), (.int xc)] below meth c s₁ [] 0 0 := Stand.of_body Bd
  have N0 := Fr.nil n0
  rw [own_eflaw]
  have sg1 : own_V p e below s₁ (mkF m 1 #[iv xk, iv xa, iv xb, iv xc, .unset, .unset, .unset, .unset, .unset, .unset, .unset, .unset, .unset, .unset, .unset, .unset, .unset, .unset, .unset, .unset, .unset, .unset, .unset, .unset, .unset, .unset] [(.int (3 : Int32))]) (mkF m 0 #[iv xk, iv xa, iv xb, iv xc, .unset, .unset, .unset, .unset, .unset, .unset, .unset, .unset, .unset, .unset, .unset, .unset, .unset, .unset, .unset, .unset, .unset, .unset, .unset, .unset, .unset, .unset] []) := by
    intro t kt
    refine XS.iconst X0.here hx rfl (hb hby at_0) ?_
    show own_S p e below s₁ m 1 #[iv xk, iv xa, iv xb, iv xc, .unset, .unset, .unset, .unset, .unset, .unset, .unset, .unset, .unset, .unset, .unset, .unset, .unset, .unset, .unset, .unset, .unset, .unset, .unset, .unset, .unset, .unset] [(.int (3 : Int32))] _
    exact kt
  refine own_st sg1 ?_
  obtain ⟨T2, h2, a2, g2, X2, e2, E2, A2, C2, st2⟩ := own_newPE (n := 3) X0 hx hZ (hw _ (List.mem_of_getElem? (i := 0) rfl)) e0 (by decide) rfl (g := (mkF m 1 #[iv xk, iv xa, iv xb, iv xc, .unset, .unset, .unset, .unset, .unset, .unset, .unset, .unset, .unset, .unset, .unset, .unset, .unset, .unset, .unset, .unset, .unset, .unset, .unset, .unset, .unset, .unset] [(.int (3 : Int32))])) rfl rfl (hb hby at_1) (cap := 3) (by decide) (by decide) (by decide) (by decide) (ad := "[Z") (by decide)
  refine own_st st2 ?_
  have g_a2 : n0 ≤ a2 := by rw [g2]; exact Z0
  have Z2 : n0 ≤ h2.size := Nat.le_trans Z0 E2.1
  have B2 : own_AI Z h2 a2 .boolean 3 (fun _ => 0) := A2
  show own_Go p e below _ T2 (mkF m 3 #[iv xk, iv xa, iv xb, iv xc, .unset, .unset, .unset, .unset, .unset, .unset, .unset, .unset, .unset, .unset, .unset, .unset, .unset, .unset, .unset, .unset, .unset, .unset, .unset, .unset, .unset, .unset] [(.ref a2)])
  obtain ⟨u0, hu0⟩ : ∃ z : Int32, z = (if (xk &&& (1 : Int32)) = (0 : Int32) then (0 : Int32) else (1 : Int32)) := ⟨_, rfl⟩
  have sg4 : own_V p e below T2 (mkF m 19 #[iv xk, iv xa, iv xb, iv xc, rv a2, .unset, .unset, .unset, .unset, .unset, .unset, .unset, .unset, .unset, .unset, .unset, .unset, .unset, .unset, .unset, .unset, .unset, .unset, .unset, .unset, .unset] [(.int u0), (.int (0 : Int32)), (.ref a2)]) (mkF m 3 #[iv xk, iv xa, iv xb, iv xc, .unset, .unset, .unset, .unset, .unset, .unset, .unset, .unset, .unset, .unset, .unset, .unset, .unset, .unset, .unset, .unset, .unset, .unset, .unset, .unset, .unset, .unset] [(.ref a2)]) := by
    intro t kt
    refine XS.astore X2.here hx rfl (hb hby at_3) rfl rfl (l' := #[iv xk, iv xa, iv xb, iv xc, rv a2, .unset, .unset, .unset, .unset, .unset, .unset, .unset, .unset, .unset, .unset, .unset, .unset, .unset, .unset, .unset, .unset, .unset, .unset, .unset, .unset, .unset]) rfl ?_
    show own_S p e below T2 m 5 #[iv xk, iv xa, iv xb, iv xc, rv a2, .unset, .unset, .unset, .unset, .unset, .unset, .unset, .unset, .unset, .unset, .unset, .unset, .unset, .unset, .unset, .unset, .unset, .unset, .unset, .unset, .unset] [] _
    refine XS.aload X2.here hx rfl (hb hby at_5) rfl rfl ?_
    show own_S p e below T2 m 7 #[iv xk, iv xa, iv xb, iv xc, rv a2, .unset, .unset, .unset, .unset, .unset, .unset, .unset, .unset, .unset, .unset, .unset, .unset, .unset, .unset, .unset, .unset, .unset, .unset, .unset, .unset, .unset] [(.ref a2)] _
    refine XS.iconst X2.here hx rfl (hb hby at_7) ?_
    show own_S p e below T2 m 8 #[iv xk, iv xa, iv xb, iv xc, rv a2, .unset, .unset, .unset, .unset, .unset, .unset, .unset, .unset, .unset, .unset, .unset, .unset, .unset, .unset, .unset, .unset, .unset, .unset, .unset, .unset, .unset] [(.int (0 : Int32)), (.ref a2)] _
    refine XS.iloadN X2.here hx rfl (hb hby at_8) rfl ?_
    show own_S p e below T2 m 9 #[iv xk, iv xa, iv xb, iv xc, rv a2, .unset, .unset, .unset, .unset, .unset, .unset, .unset, .unset, .unset, .unset, .unset, .unset, .unset, .unset, .unset, .unset, .unset, .unset, .unset, .unset, .unset] [(.int xk), (.int (0 : Int32)), (.ref a2)] _
    refine XS.iconst X2.here hx rfl (hb hby at_9) ?_
    show own_S p e below T2 m 10 #[iv xk, iv xa, iv xb, iv xc, rv a2, .unset, .unset, .unset, .unset, .unset, .unset, .unset, .unset, .unset, .unset, .unset, .unset, .unset, .unset, .unset, .unset, .unset, .unset, .unset, .unset, .unset] [(.int (1 : Int32)), (.int xk), (.int (0 : Int32)), (.ref a2)] _
    refine XS.iand X2.here hx rfl (hb hby at_10) rfl ?_
    show own_S p e below T2 m 11 #[iv xk, iv xa, iv xb, iv xc, rv a2, .unset, .unset, .unset, .unset, .unset, .unset, .unset, .unset, .unset, .unset, .unset, .unset, .unset, .unset, .unset, .unset, .unset, .unset, .unset, .unset, .unset] [(.int (xk &&& (1 : Int32))), (.int (0 : Int32)), (.ref a2)] _
    by_cases hc3 : (xk &&& (1 : Int32)) = (0 : Int32)
    · refine XS.ifYes X2.here hx rfl (pc0 := 11) (pc' := 18) rfl (hb hby at_11) rfl ((if0 _ _).trans (teq hc3).1) (by decide) (by decide) ?_
      show own_S p e below T2 m 18 #[iv xk, iv xa, iv xb, iv xc, rv a2, .unset, .unset, .unset, .unset, .unset, .unset, .unset, .unset, .unset, .unset, .unset, .unset, .unset, .unset, .unset, .unset, .unset, .unset, .unset, .unset, .unset] [(.int (0 : Int32)), (.ref a2)] _
      refine XS.iconst X2.here hx rfl (hb hby at_18) ?_
      show own_S p e below T2 m 19 #[iv xk, iv xa, iv xb, iv xc, rv a2, .unset, .unset, .unset, .unset, .unset, .unset, .unset, .unset, .unset, .unset, .unset, .unset, .unset, .unset, .unset, .unset, .unset, .unset, .unset, .unset, .unset] [(.int (0 : Int32)), (.int (0 : Int32)), (.ref a2)] _
      rw [show u0 = (0 : Int32) from by rw [hu0, if_pos hc3]] at kt
      exact kt
    · refine XS.ifNo X2.here hx rfl (hb hby at_11) rfl ((if0 _ _).trans (feq hc3).1) ?_
      show own_S p e below T2 m 14 #[iv xk, iv xa, iv xb, iv xc, rv a2, .unset, .unset, .unset, .unset, .unset, .unset, .unset, .unset, .unset, .unset, .unset, .unset, .unset, .unset, .unset, .unset, .unset, .unset, .unset, .unset, .unset] [(.int (0 : Int32)), (.ref a2)] _
      refine XS.iconst X2.here hx rfl (hb hby at_14) ?_
      show own_S p e below T2 m 15 #[iv xk, iv xa, iv xb, iv xc, rv a2, .unset, .unset, .unset, .unset, .unset, .unset, .unset, .unset, .unset, .unset, .unset, .unset, .unset, .unset, .unset, .unset, .unset, .unset, .unset, .unset, .unset] [(.int (1 : Int32)), (.int (0 : Int32)), (.ref a2)] _
      refine XS.goto X2.here hx rfl (pc0 := 15) (pc' := 19) rfl (hb hby at_15) (by decide) (by decide) ?_
      show own_S p e below T2 m 19 #[iv xk, iv xa, iv xb, iv xc, rv a2, .unset, .unset, .unset, .unset, .unset, .unset, .unset, .unset, .unset, .unset, .unset, .unset, .unset, .unset, .unset, .unset, .unset, .unset, .unset, .unset, .unset] [(.int (1 : Int32)), (.int (0 : Int32)), (.ref a2)] _
      rw [show u0 = (1 : Int32) from by rw [hu0, if_neg hc3]] at kt
      exact kt
  refine own_st sg4 ?_
  obtain ⟨T5, h5, X5, e5, W5, A5, st5⟩ := own_wrZ X2 hx hZ e2 B2 (k := 0) (by decide) (by decide) (g := (mkF m 19 #[iv xk, iv xa, iv xb, iv xc, rv a2, .unset, .unset, .unset, .unset, .unset, .unset, .unset, .unset, .unset, .unset, .unset, .unset, .unset, .unset, .unset, .unset, .unset, .unset, .unset, .unset, .unset] [(.int u0), (.int (0 : Int32)), (.ref a2)])) rfl rfl (hb hby at_19)
  refine own_st st5 ?_
  have Z5 : n0 ≤ h5.size := by rw [Wr.size W5]; exact Z2
  have N5 := Fr.snoc X5 N0 g_a2
  show own_Go p e below _ T5 (mkF m 20 #[iv xk, iv xa, iv xb, iv xc, rv a2, .unset, .unset, .unset, .unset, .unset, .unset, .unset, .unset, .unset, .unset, .unset, .unset, .unset, .unset, .unset, .unset, .unset, .unset, .unset, .unset, .unset] [])
  have EK0 := C2.wr W5
  obtain ⟨b0, hbb0⟩ := own_bit u0 _ hu0
  obtain ⟨u1, hu1⟩ : ∃ z : Int32, z = (if (xk &&& (2 : Int32)) = (0 : Int32) then (0 : Int32) else (1 : Int32)) := ⟨_, rfl⟩
  have sg7 : own_V p e below T5 (mkF m 34 #[iv xk, iv xa, iv xb, iv xc, rv a2, .unset, .unset, .unset, .unset, .unset, .unset, .unset, .unset, .unset, .unset, .unset, .unset, .unset, .unset, .unset, .unset, .unset, .unset, .unset, .unset, .unset] [(.int u1), (.int (1 : Int32)), (.ref a2)]) (mkF m 20 #[iv xk, iv xa, iv xb, iv xc, rv a2, .unset, .unset, .unset, .unset, .unset, .unset, .unset, .unset, .unset, .unset, .unset, .unset, .unset, .unset, .unset, .unset, .unset, .unset, .unset, .unset, .unset] []) := by
    intro t kt
    refine XS.aload X5.here hx rfl (hb hby at_20) rfl rfl ?_
    show own_S p e below T5 m 22 #[iv xk, iv xa, iv xb, iv xc, rv a2, .unset, .unset, .unset, .unset, .unset, .unset, .unset, .unset, .unset, .unset, .unset, .unset, .unset, .unset, .unset, .unset, .unset, .unset, .unset, .unset, .unset] [(.ref a2)] _
    refine XS.iconst X5.here hx rfl (hb hby at_22) ?_
    show own_S p e below T5 m 23 #[iv xk, iv xa, iv xb, iv xc, rv a2, .unset, .unset, .unset, .unset, .unset, .unset, .unset, .unset, .unset, .unset, .unset, .unset, .unset, .unset, .unset, .unset, .unset, .unset, .unset, .unset, .unset] [(.int (1 : Int32)), (.ref a2)] _
    refine XS.iloadN X5.here hx rfl (hb hby at_23) rfl ?_
    show own_S p e below T5 m 24 #[iv xk, iv xa, iv xb, iv xc, rv a2, .unset, .unset, .unset, .unset, .unset, .unset, .unset, .unset, .unset, .unset, .unset, .unset, .unset, .unset, .unset, .unset, .unset, .unset, .unset, .unset, .unset] [(.int xk), (.int (1 : Int32)), (.ref a2)] _
    refine XS.iconst X5.here hx rfl (hb hby at_24) ?_
    show own_S p e below T5 m 25 #[iv xk, iv xa, iv xb, iv xc, rv a2, .unset, .unset, .unset, .unset, .unset, .unset, .unset, .unset, .unset, .unset, .unset, .unset, .unset, .unset, .unset, .unset, .unset, .unset, .unset, .unset, .unset] [(.int (2 : Int32)), (.int xk), (.int (1 : Int32)), (.ref a2)] _
    refine XS.iand X5.here hx rfl (hb hby at_25) rfl ?_
    show own_S p e below T5 m 26 #[iv xk, iv xa, iv xb, iv xc, rv a2, .unset, .unset, .unset, .unset, .unset, .unset, .unset, .unset, .unset, .unset, .unset, .unset, .unset, .unset, .unset, .unset, .unset, .unset, .unset, .unset, .unset] [(.int (xk &&& (2 : Int32))), (.int (1 : Int32)), (.ref a2)] _
    by_cases hc6 : (xk &&& (2 : Int32)) = (0 : Int32)
    · refine XS.ifYes X5.here hx rfl (pc0 := 26) (pc' := 33) rfl (hb hby at_26) rfl ((if0 _ _).trans (teq hc6).1) (by decide) (by decide) ?_
      show own_S p e below T5 m 33 #[iv xk, iv xa, iv xb, iv xc, rv a2, .unset, .unset, .unset, .unset, .unset, .unset, .unset, .unset, .unset, .unset, .unset, .unset, .unset, .unset, .unset, .unset, .unset, .unset, .unset, .unset, .unset] [(.int (1 : Int32)), (.ref a2)] _
      refine XS.iconst X5.here hx rfl (hb hby at_33) ?_
      show own_S p e below T5 m 34 #[iv xk, iv xa, iv xb, iv xc, rv a2, .unset, .unset, .unset, .unset, .unset, .unset, .unset, .unset, .unset, .unset, .unset, .unset, .unset, .unset, .unset, .unset, .unset, .unset, .unset, .unset, .unset] [(.int (0 : Int32)), (.int (1 : Int32)), (.ref a2)] _
      rw [show u1 = (0 : Int32) from by rw [hu1, if_pos hc6]] at kt
      exact kt
    · refine XS.ifNo X5.here hx rfl (hb hby at_26) rfl ((if0 _ _).trans (feq hc6).1) ?_
      show own_S p e below T5 m 29 #[iv xk, iv xa, iv xb, iv xc, rv a2, .unset, .unset, .unset, .unset, .unset, .unset, .unset, .unset, .unset, .unset, .unset, .unset, .unset, .unset, .unset, .unset, .unset, .unset, .unset, .unset, .unset] [(.int (1 : Int32)), (.ref a2)] _
      refine XS.iconst X5.here hx rfl (hb hby at_29) ?_
      show own_S p e below T5 m 30 #[iv xk, iv xa, iv xb, iv xc, rv a2, .unset, .unset, .unset, .unset, .unset, .unset, .unset, .unset, .unset, .unset, .unset, .unset, .unset, .unset, .unset, .unset, .unset, .unset, .unset, .unset, .unset] [(.int (1 : Int32)), (.int (1 : Int32)), (.ref a2)] _
      refine XS.goto X5.here hx rfl (pc0 := 30) (pc' := 34) rfl (hb hby at_30) (by decide) (by decide) ?_
      show own_S p e below T5 m 34 #[iv xk, iv xa, iv xb, iv xc, rv a2, .unset, .unset, .unset, .unset, .unset, .unset, .unset, .unset, .unset, .unset, .unset, .unset, .unset, .unset, .unset, .unset, .unset, .unset, .unset, .unset, .unset] [(.int (1 : Int32)), (.int (1 : Int32)), (.ref a2)] _
      rw [show u1 = (1 : Int32) from by rw [hu1, if_neg hc6]] at kt
      exact kt
  refine own_st sg7 ?_
  obtain ⟨T8, h8, X8, e8, W8, A8, st8⟩ := own_wrZ X5 hx hZ e5 A5 (k := 1) (by decide) (by decide) (g := (mkF m 34 #[iv xk, iv xa, iv xb, iv xc, rv a2, .unset, .unset, .unset, .unset, .unset, .unset, .unset, .unset, .unset, .unset, .unset, .unset, .unset, .unset, .unset, .unset, .unset, .unset, .unset, .unset, .unset] [(.int u1), (.int (1 : Int32)), (.ref a2)])) rfl rfl (hb hby at_34)
  refine own_st st8 ?_
  have Z8 : n0 ≤ h8.size := by rw [Wr.size W8]; exact Z5
  have N8 := Fr.snoc X8 N5 g_a2
  show own_Go p e below _ T8 (mkF m 35 #[iv xk, iv xa, iv xb, iv xc, rv a2, .unset, .unset, .unset, .unset, .unset, .unset, .unset, .unset, .unset, .unset, .unset, .unset, .unset, .unset, .unset, .unset, .unset, .unset, .unset, .unset, .unset] [])
  have EK1 := EK0.wr W8
  obtain ⟨b1, hbb1⟩ := own_bit u1 _ hu1
  obtain ⟨u2, hu2⟩ : ∃ z : Int32, z = (if (xk &&& (4 : Int32)) = (0 : Int32) then (0 : Int32) else (1 : Int32)) := ⟨_, rfl⟩
  have sg10 : own_V p e below T8 (mkF m 49 #[iv xk, iv xa, iv xb, iv xc, rv a2, .unset, .unset, .unset, .unset, .unset, .unset, .unset, .unset, .unset, .unset, .unset, .unset, .unset, .unset, .unset, .unset, .unset, .unset, .unset, .unset, .unset] [(.int u2), (.int (2 : Int32)), (.ref a2)]) (mkF m 35 #[iv xk, iv xa, iv xb, iv xc, rv a2, .unset, .unset, .unset, .unset, .unset, .unset, .unset, .unset, .unset, .unset, .unset, .unset, .unset, .unset, .unset, .unset, .unset, .unset, .unset, .unset, .unset] []) := by
    intro t kt
    refine XS.aload X8.here hx rfl (hb hby at_35) rfl rfl ?_
    show own_S p e below T8 m 37 #[iv xk, iv xa, iv xb, iv xc, rv a2, .unset, .unset, .unset, .unset, .unset, .unset, .unset, .unset, .unset, .unset, .unset, .unset, .unset, .unset, .unset, .unset, .unset, .unset, .unset, .unset, .unset] [(.ref a2)] _
    refine XS.iconst X8.here hx rfl (hb hby at_37) ?_
    show own_S p e below T8 m 38 #[iv xk, iv xa, iv xb, iv xc, rv a2, .unset, .unset, .unset, .unset, .unset, .unset, .unset, .unset, .unset, .unset, .unset, .unset, .unset, .unset, .unset, .unset, .unset, .unset, .unset, .unset, .unset] [(.int (2 : Int32)), (.ref a2)] _
    refine XS.iloadN X8.here hx rfl (hb hby at_38) rfl ?_
    show own_S p e below T8 m 39 #[iv xk, iv xa, iv xb, iv xc, rv a2, .unset, .unset, .unset, .unset, .unset, .unset, .unset, .unset, .unset, .unset, .unset, .unset, .unset, .unset, .unset, .unset, .unset, .unset, .unset, .unset, .unset] [(.int xk), (.int (2 : Int32)), (.ref a2)] _
    refine XS.iconst X8.here hx rfl (hb hby at_39) ?_
    show own_S p e below T8 m 40 #[iv xk, iv xa, iv xb, iv xc, rv a2, .unset, .unset, .unset, .unset, .unset, .unset, .unset, .unset, .unset, .unset, .unset, .unset, .unset, .unset, .unset, .unset, .unset, .unset, .unset, .unset, .unset] [(.int (4 : Int32)), (.int xk), (.int (2 : Int32)), (.ref a2)] _
    refine XS.iand X8.here hx rfl (hb hby at_40) rfl ?_
    show own_S p e below T8 m 41 #[iv xk, iv xa, iv xb, iv xc, rv a2, .unset, .unset, .unset, .unset, .unset, .unset, .unset, .unset, .unset, .unset, .unset, .unset, .unset, .unset, .unset, .unset, .unset, .unset, .unset, .unset, .unset] [(.int (xk &&& (4 : Int32))), (.int (2 : Int32)), (.ref a2)] _
    by_cases hc9 : (xk &&& (4 : Int32)) = (0 : Int32)
    · refine XS.ifYes X8.here hx rfl (pc0 := 41) (pc' := 48) rfl (hb hby at_41) rfl ((if0 _ _).trans (teq hc9).1) (by decide) (by decide) ?_
      show own_S p e below T8 m 48 #[iv xk, iv xa, iv xb, iv xc, rv a2, .unset, .unset, .unset, .unset, .unset, .unset, .unset, .unset, .unset, .unset, .unset, .unset, .unset, .unset, .unset, .unset, .unset, .unset, .unset, .unset, .unset] [(.int (2 : Int32)), (.ref a2)] _
      refine XS.iconst X8.here hx rfl (hb hby at_48) ?_
      show own_S p e below T8 m 49 #[iv xk, iv xa, iv xb, iv xc, rv a2, .unset, .unset, .unset, .unset, .unset, .unset, .unset, .unset, .unset, .unset, .unset, .unset, .unset, .unset, .unset, .unset, .unset, .unset, .unset, .unset, .unset] [(.int (0 : Int32)), (.int (2 : Int32)), (.ref a2)] _
      rw [show u2 = (0 : Int32) from by rw [hu2, if_pos hc9]] at kt
      exact kt
    · refine XS.ifNo X8.here hx rfl (hb hby at_41) rfl ((if0 _ _).trans (feq hc9).1) ?_
      show own_S p e below T8 m 44 #[iv xk, iv xa, iv xb, iv xc, rv a2, .unset, .unset, .unset, .unset, .unset, .unset, .unset, .unset, .unset, .unset, .unset, .unset, .unset, .unset, .unset, .unset, .unset, .unset, .unset, .unset, .unset] [(.int (2 : Int32)), (.ref a2)] _
      refine XS.iconst X8.here hx rfl (hb hby at_44) ?_
      show own_S p e below T8 m 45 #[iv xk, iv xa, iv xb, iv xc, rv a2, .unset, .unset, .unset, .unset, .unset, .unset, .unset, .unset, .unset, .unset, .unset, .unset, .unset, .unset, .unset, .unset, .unset, .unset, .unset, .unset, .unset] [(.int (1 : Int32)), (.int (2 : Int32)), (.ref a2)] _
      refine XS.goto X8.here hx rfl (pc0 := 45) (pc' := 49) rfl (hb hby at_45) (by decide) (by decide) ?_
      show own_S p e below T8 m 49 #[iv xk, iv xa, iv xb, iv xc, rv a2, .unset, .unset, .unset, .unset, .unset, .unset, .unset, .unset, .unset, .unset, .unset, .unset, .unset, .unset, .unset, .unset, .unset, .unset, .unset, .unset, .unset] [(.int (1 : Int32)), (.int (2 : Int32)), (.ref a2)] _
      rw [show u2 = (1 : Int32) from by rw [hu2, if_neg hc9]] at kt
      exact kt
  refine own_st sg10 ?_
  obtain ⟨T11, h11, X11, e11, W11, A11, st11⟩ := own_wrZ X8 hx hZ e8 A8 (k := 2) (by decide) (by decide) (g := (mkF m 49 #[iv xk, iv xa, iv xb, iv xc, rv a2, .unset, .unset, .unset, .unset, .unset, .unset, .unset, .unset, .unset, .unset, .unset, .unset, .unset, .unset, .unset, .unset, .unset, .unset, .unset, .unset, .unset] [(.int u2), (.int (2 : Int32)), (.ref a2)])) rfl rfl (hb hby at_49)
  refine own_st st11 ?_
  have Z11 : n0 ≤ h11.size := by rw [Wr.size W11]; exact Z8
  have N11 := Fr.snoc X11 N8 g_a2
  show own_Go p e below _ T11 (mkF m 50 #[iv xk, iv xa, iv xb, iv xc, rv a2, .unset, .unset, .unset, .unset, .unset, .unset, .unset, .unset, .unset, .unset, .unset, .unset, .unset, .unset, .unset, .unset, .unset, .unset, .unset, .unset, .unset] [])
  have EK2 := EK1.wr W11
  obtain ⟨b2, hbb2⟩ := own_bit u2 _ hu2
  have AK0 : own_AI Z h11 a2 .boolean 3 (own_K b0 b1 b2) := A11.congr (fun i hi => by rcases own_lt3 hi with rfl | rfl | rfl <;> simp only [own_upd, own_K, hbb0, hbb1, hbb2] <;> rfl)
  obtain ⟨fr, hfr⟩ : ∃ z : Int32, z = ((1 : Int32) + ((xa &&& (2147483647 : Int32)) % (3 : Int32))) := ⟨_, rfl⟩
  have sg12 : own_V p e below T11 (mkF m 60 #[iv xk, iv xa, iv xb, iv xc, rv a2, iv fr, .unset, .unset, .unset, .unset, .unset, .unset, .unset, .unset, .unset, .unset, .unset, .unset, .unset, .unset, .unset, .unset, .unset, .unset, .unset, .unset] []) (mkF m 50 #[iv xk, iv xa, iv xb, iv xc, rv a2, .unset, .unset, .unset, .unset, .unset, .unset, .unset, .unset, .unset, .unset, .unset, .unset, .unset, .unset, .unset, .unset, .unset, .unset, .unset, .unset, .unset] []) := by
    intro t kt
    refine XS.iconst X11.here hx rfl (hb hby at_50) ?_
    show own_S p e below T11 m 51 #[iv xk, iv xa, iv xb, iv xc, rv a2, .unset, .unset, .unset, .unset, .unset, .unset, .unset, .unset, .unset, .unset, .unset, .unset, .unset, .unset, .unset, .unset, .unset, .unset, .unset, .unset, .unset] [(.int (1 : Int32))] _
    refine XS.iloadN X11.here hx rfl (hb hby at_51) rfl ?_
    show own_S p e below T11 m 52 #[iv xk, iv xa, iv xb, iv xc, rv a2, .unset, .unset, .unset, .unset, .unset, .unset, .unset, .unset, .unset, .unset, .unset, .unset, .unset, .unset, .unset, .unset, .unset, .unset, .unset, .unset, .unset] [(.int xa), (.int (1 : Int32))] _
    refine X11.ldcInt hx hown (mvT hZ (hw _ (List.mem_of_getElem? (i := 1) rfl))) (g := (mkF m 52 #[iv xk, iv xa, iv xb, iv xc, rv a2, .unset, .unset, .unset, .unset, .unset, .unset, .unset, .unset, .unset, .unset, .unset, .unset, .unset, .unset, .unset, .unset, .unset, .unset, .unset, .unset, .unset] [(.int xa), (.int (1 : Int32))])) rfl (hb hby at_52) _ ?_
    show own_S p e below T11 m 54 #[iv xk, iv xa, iv xb, iv xc, rv a2, .unset, .unset, .unset, .unset, .unset, .unset, .unset, .unset, .unset, .unset, .unset, .unset, .unset, .unset, .unset, .unset, .unset, .unset, .unset, .unset, .unset] [(.int (2147483647 : Int32)), (.int xa), (.int (1 : Int32))] _
    refine XS.iand X11.here hx rfl (hb hby at_54) rfl ?_
    show own_S p e below T11 m 55 #[iv xk, iv xa, iv xb, iv xc, rv a2, .unset, .unset, .unset, .unset, .unset, .unset, .unset, .unset, .unset, .unset, .unset, .unset, .unset, .unset, .unset, .unset, .unset, .unset, .unset, .unset, .unset] [(.int (xa &&& (2147483647 : Int32))), (.int (1 : Int32))] _
    refine XS.iconst X11.here hx rfl (hb hby at_55) ?_
    show own_S p e below T11 m 56 #[iv xk, iv xa, iv xb, iv xc, rv a2, .unset, .unset, .unset, .unset, .unset, .unset, .unset, .unset, .unset, .unset, .unset, .unset, .unset, .unset, .unset, .unset, .unset, .unset, .unset, .unset, .unset] [(.int (3 : Int32)), (.int (xa &&& (2147483647 : Int32))), (.int (1 : Int32))] _
    refine own_irem X11.here hx rfl (hb hby at_56) rfl (by decide) ?_
    show own_S p e below T11 m 57 #[iv xk, iv xa, iv xb, iv xc, rv a2, .unset, .unset, .unset, .unset, .unset, .unset, .unset, .unset, .unset, .unset, .unset, .unset, .unset, .unset, .unset, .unset, .unset, .unset, .unset, .unset, .unset] [(.int ((xa &&& (2147483647 : Int32)) % (3 : Int32))), (.int (1 : Int32))] _
    refine XS.iadd X11.here hx rfl (hb hby at_57) rfl ?_
    show own_S p e below T11 m 58 #[iv xk, iv xa, iv xb, iv xc, rv a2, .unset, .unset, .unset, .unset, .unset, .unset, .unset, .unset, .unset, .unset, .unset, .unset, .unset, .unset, .unset, .unset, .unset, .unset, .unset, .unset, .unset] [(.int ((1 : Int32) + ((xa &&& (2147483647 : Int32)) % (3 : Int32))))] _
    refine XS.istore X11.here hx rfl (hb hby at_58) rfl (l' := #[iv xk, iv xa, iv xb, iv xc, rv a2, iv ((1 : Int32) + ((xa &&& (2147483647 : Int32)) % (3 : Int32))), .unset, .unset, .unset, .unset, .unset, .unset, .unset, .unset, .unset, .unset, .unset, .unset, .unset, .unset, .unset, .unset, .unset, .unset, .unset, .unset]) rfl ?_
    show own_S p e below T11 m 60 #[iv xk, iv xa, iv xb, iv xc, rv a2, iv ((1 : Int32) + ((xa &&& (2147483647 : Int32)) % (3 : Int32))), .unset, .unset, .unset, .unset, .unset, .unset, .unset, .unset, .unset, .unset, .unset, .unset, .unset, .unset, .unset, .unset, .unset, .unset, .unset, .unset] [] _
    rw [hfr] at kt
    exact kt
  refine own_st sg12 ?_
  obtain ⟨kf, hkf, hf3⟩ := own_from xa fr hfr
  obtain ⟨to, hto⟩ : ∃ z : Int32, z = ((1 : Int32) + ((fr + (xb &&& (1 : Int32))) % (3 : Int32))) := ⟨_, rfl⟩
  have sg13 : own_V p e below T11 (mkF m 72 #[iv xk, iv xa, iv xb, iv xc, rv a2, iv fr, iv to, .unset, .unset, .unset, .unset, .unset, .unset, .unset, .unset, .unset, .unset, .unset, .unset, .unset, .unset, .unset, .unset, .unset, .unset, .unset] []) (mkF m 60 #[iv xk, iv xa, iv xb, iv xc, rv a2, iv fr, .unset, .unset, .unset, .unset, .unset, .unset, .unset, .unset, .unset, .unset, .unset, .unset, .unset, .unset, .unset, .unset, .unset, .unset, .unset, .unset] []) := by
    intro t kt
    refine XS.iconst X11.here hx rfl (hb hby at_60) ?_
    show own_S p e below T11 m 61 #[iv xk, iv xa, iv xb, iv xc, rv a2, iv fr, .unset, .unset, .unset, .unset, .unset, .unset, .unset, .unset, .unset, .unset, .unset, .unset, .unset, .unset, .unset, .unset, .unset, .unset, .unset, .unset] [(.int (1 : Int32))] _
    refine XS.iload X11.here hx rfl (hb hby at_61) rfl ?_
    show own_S p e below T11 m 63 #[iv xk, iv xa, iv xb, iv xc, rv a2, iv fr, .unset, .unset, .unset, .unset, .unset, .unset, .unset, .unset, .unset, .unset, .unset, .unset, .unset, .unset, .unset, .unset, .unset, .unset, .unset, .unset] [(.int fr), (.int (1 : Int32))] _
    refine XS.iloadN X11.here hx rfl (hb hby at_63) rfl ?_
    show own_S p e below T11 m 64 #[iv xk, iv xa, iv xb, iv xc, rv a2, iv fr, .unset, .unset, .unset, .unset, .unset, .unset, .unset, .unset, .unset, .unset, .unset, .unset, .unset, .unset, .unset, .unset, .unset, .unset, .unset, .unset] [(.int xb), (.int fr), (.int (1 : Int32))] _
    refine XS.iconst X11.here hx rfl (hb hby at_64) ?_
    show own_S p e below T11 m 65 #[iv xk, iv xa, iv xb, iv xc, rv a2, iv fr, .unset, .unset, .unset, .unset, .unset, .unset, .unset, .unset, .unset, .unset, .unset, .unset, .unset, .unset, .unset, .unset, .unset, .unset, .unset, .unset] [(.int (1 : Int32)), (.int xb), (.int fr), (.int (1 : Int32))] _
    refine XS.iand X11.here hx rfl (hb hby at_65) rfl ?_
    show own_S p e below T11 m 66 #[iv xk, iv xa, iv xb, iv xc, rv a2, iv fr, .unset, .unset, .unset, .unset, .unset, .unset, .unset, .unset, .unset, .unset, .unset, .unset, .unset, .unset, .unset, .unset, .unset, .unset, .unset, .unset] [(.int (xb &&& (1 : Int32))), (.int fr), (.int (1 : Int32))] _
    refine XS.iadd X11.here hx rfl (hb hby at_66) rfl ?_
    show own_S p e below T11 m 67 #[iv xk, iv xa, iv xb, iv xc, rv a2, iv fr, .unset, .unset, .unset, .unset, .unset, .unset, .unset, .unset, .unset, .unset, .unset, .unset, .unset, .unset, .unset, .unset, .unset, .unset, .unset, .unset] [(.int (fr + (xb &&& (1 : Int32)))), (.int (1 : Int32))] _
    refine XS.iconst X11.here hx rfl (hb hby at_67) ?_
    show own_S p e below T11 m 68 #[iv xk, iv xa, iv xb, iv xc, rv a2, iv fr, .unset, .unset, .unset, .unset, .unset, .unset, .unset, .unset, .unset, .unset, .unset, .unset, .unset, .unset, .unset, .unset, .unset, .unset, .unset, .unset] [(.int (3 : Int32)), (.int (fr + (xb &&& (1 : Int32)))), (.int (1 : Int32))] _
    refine own_irem X11.here hx rfl (hb hby at_68) rfl (by decide) ?_
    show own_S p e below T11 m 69 #[iv xk, iv xa, iv xb, iv xc, rv a2, iv fr, .unset, .unset, .unset, .unset, .unset, .unset, .unset, .unset, .unset, .unset, .unset, .unset, .unset, .unset, .unset, .unset, .unset, .unset, .unset, .unset] [(.int ((fr + (xb &&& (1 : Int32))) % (3 : Int32))), (.int (1 : Int32))] _
    refine XS.iadd X11.here hx rfl (hb hby at_69) rfl ?_
    show own_S p e below T11 m 70 #[iv xk, iv xa, iv xb, iv xc, rv a2, iv fr, .unset, .unset, .unset, .unset, .unset, .unset, .unset, .unset, .unset, .unset, .unset, .unset, .unset, .unset, .unset, .unset, .unset, .unset, .unset, .unset] [(.int ((1 : Int32) + ((fr + (xb &&& (1 : Int32))) % (3 : Int32))))] _
    refine XS.istore X11.here hx rfl (hb hby at_70) rfl (l' := #[iv xk, iv xa, iv xb, iv xc, rv a2, iv fr, iv ((1 : Int32) + ((fr + (xb &&& (1 : Int32))) % (3 : Int32))), .unset, .unset, .unset, .unset, .unset, .unset, .unset, .unset, .unset, .unset, .unset, .unset, .unset, .unset, .unset, .unset, .unset, .unset, .unset]) rfl ?_
    show own_S p e below T11 m 72 #[iv xk, iv xa, iv xb, iv xc, rv a2, iv fr, iv ((1 : Int32) + ((fr + (xb &&& (1 : Int32))) % (3 : Int32))), .unset, .unset, .unset, .unset, .unset, .unset, .unset, .unset, .unset, .unset, .unset, .unset, .unset, .unset, .unset, .unset, .unset, .unset, .unset] [] _
    rw [hto] at kt
    exact kt
  refine own_st sg13 ?_
  obtain ⟨bb, hbb⟩ := own_and1 xb
  obtain ⟨hkt, ht3⟩ := own_to fr to _ kf bb hbb hkf hf3 hto
  obtain ⟨oo, hoo⟩ : ∃ z : Int32, z = (((6 : Int32) - fr) - to) := ⟨_, rfl⟩
  have sg14 : own_V p e below T11 (mkF m 82 #[iv xk, iv xa, iv xb, iv xc, rv a2, iv fr, iv to, iv oo, .unset, .unset, .unset, .unset, .unset, .unset, .unset, .unset, .unset, .unset, .unset, .unset, .unset, .unset, .unset, .unset, .unset, .unset] []) (mkF m 72 #[iv xk, iv xa, iv xb, iv xc, rv a2, iv fr, iv to, .unset, .unset, .unset, .unset, .unset, .unset, .unset, .unset, .unset, .unset, .unset, .unset, .unset, .unset, .unset, .unset, .unset, .unset, .unset] []) := by
    intro t kt
    refine XS.bipush X11.here hx rfl (hb hby at_72) ?_
    show own_S p e below T11 m 74 #[iv xk, iv xa, iv xb, iv xc, rv a2, iv fr, iv to, .unset, .unset, .unset, .unset, .unset, .unset, .unset, .unset, .unset, .unset, .unset, .unset, .unset, .unset, .unset, .unset, .unset, .unset, .unset] [(.int (6 : Int32))] _
    refine XS.iload X11.here hx rfl (hb hby at_74) rfl ?_
    show own_S p e below T11 m 76 #[iv xk, iv xa, iv xb, iv xc, rv a2, iv fr, iv to, .unset, .unset, .unset, .unset, .unset, .unset, .unset, .unset, .unset, .unset, .unset, .unset, .unset, .unset, .unset, .unset, .unset, .unset, .unset] [(.int fr), (.int (6 : Int32))] _
    refine XS.isub X11.here hx rfl (hb hby at_76) rfl ?_
    show own_S p e below T11 m 77 #[iv xk, iv xa, iv xb, iv xc, rv a2, iv fr, iv to, .unset, .unset, .unset, .unset, .unset, .unset, .unset, .unset, .unset, .unset, .unset, .unset, .unset, .unset, .unset, .unset, .unset, .unset, .unset] [(.int ((6 : Int32) - fr))] _
    refine XS.iload X11.here hx rfl (hb hby at_77) rfl ?_
    show own_S p e below T11 m 79 #[iv xk, iv xa, iv xb, iv xc, rv a2, iv fr, iv to, .unset, .unset, .unset, .unset, .unset, .unset, .unset, .unset, .unset, .unset, .unset, .unset, .unset, .unset, .unset, .unset, .unset, .unset, .unset] [(.int to), (.int ((6 : Int32) - fr))] _
    refine XS.isub X11.here hx rfl (hb hby at_79) rfl ?_
    show own_S p e below T11 m 80 #[iv xk, iv xa, iv xb, iv xc, rv a2, iv fr, iv to, .unset, .unset, .unset, .unset, .unset, .unset, .unset, .unset, .unset, .unset, .unset, .unset, .unset, .unset, .unset, .unset, .unset, .unset, .unset] [(.int (((6 : Int32) - fr) - to))] _
    refine XS.istore X11.here hx rfl (hb hby at_80) rfl (l' := #[iv xk, iv xa, iv xb, iv xc, rv a2, iv fr, iv to, iv (((6 : Int32) - fr) - to), .unset, .unset, .unset, .unset, .unset, .unset, .unset, .unset, .unset, .unset, .unset, .unset, .unset, .unset, .unset, .unset, .unset, .unset]) rfl ?_
    show own_S p e below T11 m 82 #[iv xk, iv xa, iv xb, iv xc, rv a2, iv fr, iv to, iv (((6 : Int32) - fr) - to), .unset, .unset, .unset, .unset, .unset, .unset, .unset, .unset, .unset, .unset, .unset, .unset, .unset, .unset, .unset, .unset, .unset, .unset] [] _
    rw [hoo] at kt
    exact kt
  refine own_st sg14 ?_
  obtain ⟨hko, ho3⟩ := own_oo fr to oo kf bb hkf hf3 hkt ht3 hoo
  obtain ⟨v, hv⟩ : ∃ z : Int32, z = ((xb >>> ((1 : Int32) &&& 31)) &&& (1 : Int32)) := ⟨_, rfl⟩
  obtain ⟨v0, hv0⟩ : ∃ z : Int32, z = ((xb >>> ((2 : Int32) &&& 31)) &&& (1 : Int32)) := ⟨_, rfl⟩
  obtain ⟨ss, hss⟩ : ∃ z : Int32, z = ((xc &&& (2147483647 : Int32)) % (4 : Int32)) := ⟨_, rfl⟩
  have sg15 : own_V p e below T11 (mkF m 104 #[iv xk, iv xa, iv xb, iv xc, rv a2, iv fr, iv to, iv oo, iv v, iv v0, iv ss, .unset, .unset, .unset, .unset, .unset, .unset, .unset, .unset, .unset, .unset, .unset, .unset, .unset, .unset, .unset] []) (mkF m 82 #[iv xk, iv xa, iv xb, iv xc, rv a2, iv fr, iv to, iv oo, .unset, .unset, .unset, .unset, .unset, .unset, .unset, .unset, .unset, .unset, .unset, .unset, .unset, .unset, .unset, .unset, .unset, .unset] []) := by
    intro t kt
    refine XS.iloadN X11.here hx rfl (hb hby at_82) rfl ?_
    show own_S p e below T11 m 83 #[iv xk, iv xa, iv xb, iv xc, rv a2, iv fr, iv to, iv oo, .unset, .unset, .unset, .unset, .unset, .unset, .unset, .unset, .unset, .unset, .unset, .unset, .unset, .unset, .unset, .unset, .unset, .unset] [(.int xb)] _
    refine XS.iconst X11.here hx rfl (hb hby at_83) ?_
    show own_S p e below T11 m 84 #[iv xk, iv xa, iv xb, iv xc, rv a2, iv fr, iv to, iv oo, .unset, .unset, .unset, .unset, .unset, .unset, .unset, .unset, .unset, .unset, .unset, .unset, .unset, .unset, .unset, .unset, .unset, .unset] [(.int (1 : Int32)), (.int xb)] _
    refine XS.ishr X11.here hx rfl (hb hby at_84) rfl ?_
    show own_S p e below T11 m 85 #[iv xk, iv xa, iv xb, iv xc, rv a2, iv fr, iv to, iv oo, .unset, .unset, .unset, .unset, .unset, .unset, .unset, .unset, .unset, .unset, .unset, .unset, .unset, .unset, .unset, .unset, .unset, .unset] [(.int (xb >>> ((1 : Int32) &&& 31)))] _
    refine XS.iconst X11.here hx rfl (hb hby at_85) ?_
    show own_S p e below T11 m 86 #[iv xk, iv xa, iv xb, iv xc, rv a2, iv fr, iv to, iv oo, .unset, .unset, .unset, .unset, .unset, .unset, .unset, .unset, .unset, .unset, .unset, .unset, .unset, .unset, .unset, .unset, .unset, .unset] [(.int (1 : Int32)), (.int (xb >>> ((1 : Int32) &&& 31)))] _
    refine XS.iand X11.here hx rfl (hb hby at_86) rfl ?_
    show own_S p e below T11 m 87 #[iv xk, iv xa, iv xb, iv xc, rv a2, iv fr, iv to, iv oo, .unset, .unset, .unset, .unset, .unset, .unset, .unset, .unset, .unset, .unset, .unset, .unset, .unset, .unset, .unset, .unset, .unset, .unset] [(.int ((xb >>> ((1 : Int32) &&& 31)) &&& (1 : Int32)))] _
    refine XS.istore X11.here hx rfl (hb hby at_87) rfl (l' := #[iv xk, iv xa, iv xb, iv xc, rv a2, iv fr, iv to, iv oo, iv ((xb >>> ((1 : Int32) &&& 31)) &&& (1 : Int32)), .unset, .unset, .unset, .unset, .unset, .unset, .unset, .unset, .unset, .unset, .unset, .unset, .unset, .unset, .unset, .unset, .unset]) rfl ?_
    show own_S p e below T11 m 89 #[iv xk, iv xa, iv xb, iv xc, rv a2, iv fr, iv to, iv oo, iv ((xb >>> ((1 : Int32) &&& 31)) &&& (1 : Int32)), .unset, .unset, .unset, .unset, .unset, .unset, .unset, .unset, .unset, .unset, .unset, .unset, .unset, .unset, .unset, .unset, .unset] [] _
    refine XS.iloadN X11.here hx rfl (hb hby at_89) rfl ?_
    show own_S p e below T11 m 90 #[iv xk, iv xa, iv xb, iv xc, rv a2, iv fr, iv to, iv oo, iv ((xb >>> ((1 : Int32) &&& 31)) &&& (1 : Int32)), .unset, .unset, .unset, .unset, .unset, .unset, .unset, .unset, .unset, .unset, .unset, .unset, .unset, .unset, .unset, .unset, .unset] [(.int xb)] _
    refine XS.iconst X11.here hx rfl (hb hby at_90) ?_
    show own_S p e below T11 m 91 #[iv xk, iv xa, iv xb, iv xc, rv a2, iv fr, iv to, iv oo, iv ((xb >>> ((1 : Int32) &&& 31)) &&& (1 : Int32)), .unset, .unset, .unset, .unset, .unset, .unset, .unset, .unset, .unset, .unset, .unset, .unset, .unset, .unset, .unset, .unset, .unset] [(.int (2 : Int32)), (.int xb)] _
    refine XS.ishr X11.here hx rfl (hb hby at_91) rfl ?_
    show own_S p e below T11 m 92 #[iv xk, iv xa, iv xb, iv xc, rv a2, iv fr, iv to, iv oo, iv ((xb >>> ((1 : Int32) &&& 31)) &&& (1 : Int32)), .unset, .unset, .unset, .unset, .unset, .unset, .unset, .unset, .unset, .unset, .unset, .unset, .unset, .unset, .unset, .unset, .unset] [(.int (xb >>> ((2 : Int32) &&& 31)))] _
    refine XS.iconst X11.here hx rfl (hb hby at_92) ?_
    show own_S p e below T11 m 93 #[iv xk, iv xa, iv xb, iv xc, rv a2, iv fr, iv to, iv oo, iv ((xb >>> ((1 : Int32) &&& 31)) &&& (1 : Int32)), .unset, .unset, .unset, .unset, .unset, .unset, .unset, .unset, .unset, .unset, .unset, .unset, .unset, .unset, .unset, .unset, .unset] [(.int (1 : Int32)), (.int (xb >>> ((2 : Int32) &&& 31)))] _
    refine XS.iand X11.here hx rfl (hb hby at_93) rfl ?_
    show own_S p e below T11 m 94 #[iv xk, iv xa, iv xb, iv xc, rv a2, iv fr, iv to, iv oo, iv ((xb >>> ((1 : Int32) &&& 31)) &&& (1 : Int32)), .unset, .unset, .unset, .unset, .unset, .unset, .unset, .unset, .unset, .unset, .unset, .unset, .unset, .unset, .unset, .unset, .unset] [(.int ((xb >>> ((2 : Int32) &&& 31)) &&& (1 : Int32)))] _
    refine XS.istore X11.here hx rfl (hb hby at_94) rfl (l' := #[iv xk, iv xa, iv xb, iv xc, rv a2, iv fr, iv to, iv oo, iv ((xb >>> ((1 : Int32) &&& 31)) &&& (1 : Int32)), iv ((xb >>> ((2 : Int32) &&& 31)) &&& (1 : Int32)), .unset, .unset, .unset, .unset, .unset, .unset, .unset, .unset, .unset, .unset, .unset, .unset, .unset, .unset, .unset, .unset]) rfl ?_
    show own_S p e below T11 m 96 #[iv xk, iv xa, iv xb, iv xc, rv a2, iv fr, iv to, iv oo, iv ((xb >>> ((1 : Int32) &&& 31)) &&& (1 : Int32)), iv ((xb >>> ((2 : Int32) &&& 31)) &&& (1 : Int32)), .unset, .unset, .unset, .unset, .unset, .unset, .unset, .unset, .unset, .unset, .unset, .unset, .unset, .unset, .unset, .unset] [] _
    refine XS.iloadN X11.here hx rfl (hb hby at_96) rfl ?_
    show own_S p e below T11 m 97 #[iv xk, iv xa, iv xb, iv xc, rv a2, iv fr, iv to, iv oo, iv ((xb >>> ((1 : Int32) &&& 31)) &&& (1 : Int32)), iv ((xb >>> ((2 : Int32) &&& 31)) &&& (1 : Int32)), .unset, .unset, .unset, .unset, .unset, .unset, .unset, .unset, .unset, .unset, .unset, .unset, .unset, .unset, .unset, .unset] [(.int xc)] _
    refine X11.ldcInt hx hown (mvT hZ (hw _ (List.mem_of_getElem? (i := 1) rfl))) (g := (mkF m 97 #[iv xk, iv xa, iv xb, iv xc, rv a2, iv fr, iv to, iv oo, iv ((xb >>> ((1 : Int32) &&& 31)) &&& (1 : Int32)), iv ((xb >>> ((2 : Int32) &&& 31)) &&& (1 : Int32)), .unset, .unset, .unset, .unset, .unset, .unset, .unset, .unset, .unset, .unset, .unset, .unset, .unset, .unset, .unset, .unset] [(.int xc)])) rfl (hb hby at_97) _ ?_
    show own_S p e below T11 m 99 #[iv xk, iv xa, iv xb, iv xc, rv a2, iv fr, iv to, iv oo, iv ((xb >>> ((1 : Int32) &&& 31)) &&& (1 : Int32)), iv ((xb >>> ((2 : Int32) &&& 31)) &&& (1 : Int32)), .unset, .unset, .unset, .unset, .unset, .unset, .unset, .unset, .unset, .unset, .unset, .unset, .unset, .unset, .unset, .unset] [(.int (2147483647 : Int32)), (.int xc)] _
    refine XS.iand X11.here hx rfl (hb hby at_99) rfl ?_
    show own_S p e below T11 m 100 #[iv xk, iv xa, iv xb, iv xc, rv a2, iv fr, iv to, iv oo, iv ((xb >>> ((1 : Int32) &&& 31)) &&& (1 : Int32)), iv ((xb >>> ((2 : Int32) &&& 31)) &&& (1 : Int32)), .unset, .unset, .unset, .unset, .unset, .unset, .unset, .unset, .unset, .unset, .unset, .unset, .unset, .unset, .unset, .unset] [(.int (xc &&& (2147483647 : Int32)))] _
    refine XS.iconst X11.here hx rfl (hb hby at_100) ?_
    show own_S p e below T11 m 101 #[iv xk, iv xa, iv xb, iv xc, rv a2, iv fr, iv to, iv oo, iv ((xb >>> ((1 : Int32) &&& 31)) &&& (1 : Int32)), iv ((xb >>> ((2 : Int32) &&& 31)) &&& (1 : Int32)), .unset, .unset, .unset, .unset, .unset, .unset, .unset, .unset, .unset, .unset, .unset, .unset, .unset, .unset, .unset, .unset] [(.int (4 : Int32)), (.int (xc &&& (2147483647 : Int32)))] _
    refine own_irem X11.here hx rfl (hb hby at_101) rfl (by decide) ?_
    show own_S p e below T11 m 102 #[iv xk, iv xa, iv xb, iv xc, rv a2, iv fr, iv to, iv oo, iv ((xb >>> ((1 : Int32) &&& 31)) &&& (1 : Int32)), iv ((xb >>> ((2 : Int32) &&& 31)) &&& (1 : Int32)), .unset, .unset, .unset, .unset, .unset, .unset, .unset, .unset, .unset, .unset, .unset, .unset, .unset, .unset, .unset, .unset] [(.int ((xc &&& (2147483647 : Int32)) % (4 : Int32)))] _
    refine XS.istore X11.here hx rfl (hb hby at_102) rfl (l' := #[iv xk, iv xa, iv xb, iv xc, rv a2, iv fr, iv to, iv oo, iv ((xb >>> ((1 : Int32) &&& 31)) &&& (1 : Int32)), iv ((xb >>> ((2 : Int32) &&& 31)) &&& (1 : Int32)), iv ((xc &&& (2147483647 : Int32)) % (4 : Int32)), .unset, .unset, .unset, .unset, .unset, .unset, .unset, .unset, .unset, .unset, .unset, .unset, .unset, .unset, .unset]) rfl ?_
    show own_S p e below T11 m 104 #[iv xk, iv xa, iv xb, iv xc, rv a2, iv fr, iv to, iv oo, iv ((xb >>> ((1 : Int32) &&& 31)) &&& (1 : Int32)), iv ((xb >>> ((2 : Int32) &&& 31)) &&& (1 : Int32)), iv ((xc &&& (2147483647 : Int32)) % (4 : Int32)), .unset, .unset, .unset, .unset, .unset, .unset, .unset, .unset, .unset, .unset, .unset, .unset, .unset, .unset, .unset] [] _
    rw [hv] at kt
    rw [hv0] at kt
    rw [hss] at kt
    exact kt
  refine own_st sg15 ?_
  obtain ⟨bv, hbv⟩ := own_and1 (xb >>> ((1 : Int32) &&& 31))
  obtain ⟨bw, hbw⟩ := own_and1 (xb >>> ((2 : Int32) &&& 31))
  have hv1 : v = own_bi bv := hv.trans hbv
  have hv2 : v0 = own_bi bw := hv0.trans hbw
  clear hv hv0
  subst hv1 hv2
  show own_Go p e below _ T11 (mkF m 104 #[iv xk, iv xa, iv xb, iv xc, rv a2, iv fr, iv to, iv oo, iv (own_bi bv), iv (own_bi bw), iv ss, .unset, .unset, .unset, .unset, .unset, .unset, .unset, .unset, .unset, .unset, .unset, .unset, .unset, .unset, .unset] [])
  obtain ⟨T16, h16, X16, e16, E16, A16, D16, -, st16⟩ := newO X11 hx hZ hown (hw _ (List.mem_of_getElem? (i := 2) rfl)) (hw _ (List.mem_of_getElem? (i := 3) rfl)) (hw _ (List.mem_of_getElem? (i := 4) rfl)) e11 (g := (mkF m 104 #[iv xk, iv xa, iv xb, iv xc, rv a2, iv fr, iv to, iv oo, iv (own_bi bv), iv (own_bi bw), iv ss, .unset, .unset, .unset, .unset, .unset, .unset, .unset, .unset, .unset, .unset, .unset, .unset, .unset, .unset, .unset] [])) rfl (hb hby at_104) (by decide) (by decide)
  obtain ⟨a16, g16⟩ : ∃ z, z = h11.size := ⟨_, rfl⟩
  rw [← g16] at A16 D16 st16
  refine own_st st16 ?_
  have g_a16 : n0 ≤ a16 := by rw [g16]; exact Z11
  have Z16 : n0 ≤ h16.size := Nat.le_trans Z11 E16.1
  show own_Go p e below _ T16 (mkF m 107 #[iv xk, iv xa, iv xb, iv xc, rv a2, iv fr, iv to, iv oo, iv (own_bi bv), iv (own_bi bw), iv ss, .unset, .unset, .unset, .unset, .unset, .unset, .unset, .unset, .unset, .unset, .unset, .unset, .unset, .unset, .unset] [(.ref a16)])
  have Finboxes : Fld Z h16 a16 "com/example/kingsround/kingsround/engine/Deliveries" "inboxes" "[Lcom/example/kingsround/kingsround/engine/Deliveries$Delivered;" .null := D16 (Or.inr (hw _ (List.mem_of_getElem? (i := 14) rfl))) (ty := (.array (.object "com/example/kingsround/kingsround/engine/Deliveries$Delivered"))) (by decide)
  have Fkept : Fld Z h16 a16 "com/example/kingsround/kingsround/engine/Deliveries" "kept" "[Z" .null := D16 (Or.inr (hw _ (List.mem_of_getElem? (i := 43) rfl))) (ty := (.array .boolean)) (by decide)
  have FkeptParties : Fld Z h16 a16 "com/example/kingsround/kingsround/engine/Deliveries" "keptParties" "[I" .null := D16 (Or.inr (hw _ (List.mem_of_getElem? (i := 49) rfl))) (ty := (.array .int)) (by decide)
  have FtoAll : Fld Z h16 a16 "com/example/kingsround/kingsround/engine/Deliveries" "toAll" "[B" .null := D16 (Or.inr (hw _ (List.mem_of_getElem? (i := 51) rfl))) (ty := (.array .byte)) (by decide)
  have FoneByOne : Fld Z h16 a16 "com/example/kingsround/kingsround/engine/Deliveries" "oneByOne" "[Z" .null := D16 (Or.inr (hw _ (List.mem_of_getElem? (i := 54) rfl))) (ty := (.array .boolean)) (by decide)
  have Foutbox : Fld Z h16 a16 "com/example/kingsround/kingsround/engine/Deliveries" "outbox" "Lcom/example/kingsround/kingsround/engine/CheckedOutbox;" .null := D16 (Or.inr (hw _ (List.mem_of_getElem? (i := 76) rfl))) (ty := (.object "com/example/kingsround/kingsround/engine/CheckedOutbox")) (by decide)
  have Fcount : Fld Z h16 a16 "com/example/kingsround/kingsround/engine/Deliveries" "count" "J" (.long (0 : Int64)) := D16 (Or.inl (hw _ (List.mem_of_getElem? (i := 88) rfl))) (ty := .long) (by decide)
  have AK1 := AK0.ext E16
  have EKx := EK2.ext E16
  have hld : a2 < a16 := by rw [g16]; exact AK0.lt
  have sg17 : own_V p e below T16 (mkF m 110 #[iv xk, iv xa, iv xb, iv xc, rv a2, iv fr, iv to, iv oo, iv (own_bi bv), iv (own_bi bw), iv ss, .unset, .unset, .unset, .unset, .unset, .unset, .unset, .unset, .unset, .unset, .unset, .unset, .unset, .unset, .unset] [(.ref a2), (.ref a16), (.ref a16)]) (mkF m 107 #[iv xk, iv xa, iv xb, iv xc, rv a2, iv fr, iv to, iv oo, iv (own_bi bv), iv (own_bi bw), iv ss, .unset, .unset, .unset, .unset, .unset, .unset, .unset, .unset, .unset, .unset, .unset, .unset, .unset, .unset, .unset] [(.ref a16)]) := by
    intro t kt
    refine XS.dup X16.here hx rfl (hb hby at_107) rfl rfl ?_
    show own_S p e below T16 m 108 #[iv xk, iv xa, iv xb, iv xc, rv a2, iv fr, iv to, iv oo, iv (own_bi bv), iv (own_bi bw), iv ss, .unset, .unset, .unset, .unset, .unset, .unset, .unset, .unset, .unset, .unset, .unset, .unset, .unset, .unset, .unset] [(.ref a16), (.ref a16)] _
    refine XS.aload X16.here hx rfl (hb hby at_108) rfl rfl ?_
    show own_S p e below T16 m 110 #[iv xk, iv xa, iv xb, iv xc, rv a2, iv fr, iv to, iv oo, iv (own_bi bv), iv (own_bi bw), iv ss, .unset, .unset, .unset, .unset, .unset, .unset, .unset, .unset, .unset, .unset, .unset, .unset, .unset, .unset, .unset] [(.ref a2), (.ref a16), (.ref a16)] _
    exact kt
  refine own_st sg17 ?_
  obtain ⟨_, T18, L18, X18, hQ18, st18⟩ := own_callI (y := (⟨"com/example/kingsround/kingsround/engine/Deliveries", "<init>", "([Z)V"⟩ : MethodName)) (a := a16) X16 hx hZ hown rfl (hw _ (List.mem_of_getElem? (i := 5) rfl)) (hw _ (List.mem_of_getElem? (i := 6) rfl)) (hw _ (List.mem_of_getElem? (i := 4) rfl)) (hw _ (List.mem_of_getElem? (i := 7) rfl)) (by decide) (own_rmini l Z a0 hw a16 a2 (own_K b0 b1 b2) h16 n0 Z16 A16 Finboxes Fkept FkeptParties FtoAll FoneByOne Foutbox Fcount AK1 EKx g_a16 hld) e16 (g := (mkF m 110 #[iv xk, iv xa, iv xb, iv xc, rv a2, iv fr, iv to, iv oo, iv (own_bi bv), iv (own_bi bw), iv ss, .unset, .unset, .unset, .unset, .unset, .unset, .unset, .unset, .unset, .unset, .unset, .unset, .unset, .unset, .unset] [(.ref a2), (.ref a16), (.ref a16)])) rfl (by rw [hml]; rfl) (argsL := [(.ref a2)]) (rest := [(.ref a16)]) (lenOf own_pd6 rfl) rfl (W := 1) (by show 2 * 0 + _ ≤ _; exact Nat.le_of_eq rfl) (hb hby at_110) (by decide) (by decide) (by decide) (by decide)
  obtain ⟨rfl, Nq18, K18, ib, kp, ta, ob, q, r, HA, HD⟩ := hQ18
  refine own_st st18 ?_
  have Z18 : n0 ≤ T18.heap.size := Nat.le_trans Z16 K18.1
  have N18 := Fr.app N11 Nq18
  show own_Go p e below _ T18 (mkF m 113 #[iv xk, iv xa, iv xb, iv xc, rv a2, iv fr, iv to, iv oo, iv (own_bi bv), iv (own_bi bw), iv ss, .unset, .unset, .unset, .unset, .unset, .unset, .unset, .unset, .unset, .unset, .unset, .unset, .unset, .unset, .unset] [(.ref a16)])
  have AK2 := AK1.keep K18 (own_ninS (Nat.ne_of_lt hld) nin0)
  have sg19 : own_V p e below T18 (mkF m 142 #[iv xk, iv xa, iv xb, iv xc, rv a2, iv fr, iv to, iv oo, iv (own_bi bv), iv (own_bi bw), iv ss, rv a16, iv (own_K b0 b1 b2 kf), iv (own_K b0 b1 b2 (own_kt kf bb)), iv (own_K b0 b1 b2 (own_ko kf bb)), .unset, .unset, .unset, .unset, .unset, .unset, .unset, .unset, .unset, .unset, .unset] []) (mkF m 113 #[iv xk, iv xa, iv xb, iv xc, rv a2, iv fr, iv to, iv oo, iv (own_bi bv), iv (own_bi bw), iv ss, .unset, .unset, .unset, .unset, .unset, .unset, .unset, .unset, .unset, .unset, .unset, .unset, .unset, .unset, .unset] [(.ref a16)]) := by
    intro t kt
    refine XS.astore X18.here hx rfl (hb hby at_113) rfl rfl (l' := #[iv xk, iv xa, iv xb, iv xc, rv a2, iv fr, iv to, iv oo, iv (own_bi bv), iv (own_bi bw), iv ss, rv a16, .unset, .unset, .unset, .unset, .unset, .unset, .unset, .unset, .unset, .unset, .unset, .unset, .unset, .unset]) rfl ?_
    show own_S p e below T18 m 115 #[iv xk, iv xa, iv xb, iv xc, rv a2, iv fr, iv to, iv oo, iv (own_bi bv), iv (own_bi bw), iv ss, rv a16, .unset, .unset, .unset, .unset, .unset, .unset, .unset, .unset, .unset, .unset, .unset, .unset, .unset, .unset] [] _
    refine XS.aload X18.here hx rfl (hb hby at_115) rfl rfl ?_
    show own_S p e below T18 m 117 #[iv xk, iv xa, iv xb, iv xc, rv a2, iv fr, iv to, iv oo, iv (own_bi bv), iv (own_bi bw), iv ss, rv a16, .unset, .unset, .unset, .unset, .unset, .unset, .unset, .unset, .unset, .unset, .unset, .unset, .unset, .unset] [(.ref a2)] _
    refine XS.iload X18.here hx rfl (hb hby at_117) rfl ?_
    show own_S p e below T18 m 119 #[iv xk, iv xa, iv xb, iv xc, rv a2, iv fr, iv to, iv oo, iv (own_bi bv), iv (own_bi bw), iv ss, rv a16, .unset, .unset, .unset, .unset, .unset, .unset, .unset, .unset, .unset, .unset, .unset, .unset, .unset, .unset] [(.int fr), (.ref a2)] _
    refine XS.iconst X18.here hx rfl (hb hby at_119) ?_
    show own_S p e below T18 m 120 #[iv xk, iv xa, iv xb, iv xc, rv a2, iv fr, iv to, iv oo, iv (own_bi bv), iv (own_bi bw), iv ss, rv a16, .unset, .unset, .unset, .unset, .unset, .unset, .unset, .unset, .unset, .unset, .unset, .unset, .unset, .unset] [(.int (1 : Int32)), (.int fr), (.ref a2)] _
    refine XS.isub X18.here hx rfl (hb hby at_120) rfl ?_
    show own_S p e below T18 m 121 #[iv xk, iv xa, iv xb, iv xc, rv a2, iv fr, iv to, iv oo, iv (own_bi bv), iv (own_bi bw), iv ss, rv a16, .unset, .unset, .unset, .unset, .unset, .unset, .unset, .unset, .unset, .unset, .unset, .unset, .unset, .unset] [(.int (fr - (1 : Int32))), (.ref a2)] _
    refine own_rdZ X18 hx hZ rfl AK2 (own_i1 hkf) hf3 (g := (mkF m 121 #[iv xk, iv xa, iv xb, iv xc, rv a2, iv fr, iv to, iv oo, iv (own_bi bv), iv (own_bi bw), iv ss, rv a16, .unset, .unset, .unset, .unset, .unset, .unset, .unset, .unset, .unset, .unset, .unset, .unset, .unset, .unset] [(.int (fr - (1 : Int32))), (.ref a2)])) rfl rfl (hb hby at_121) _ ?_
    show own_S p e below T18 m 122 #[iv xk, iv xa, iv xb, iv xc, rv a2, iv fr, iv to, iv oo, iv (own_bi bv), iv (own_bi bw), iv ss, rv a16, .unset, .unset, .unset, .unset, .unset, .unset, .unset, .unset, .unset, .unset, .unset, .unset, .unset, .unset] [(.int (own_K b0 b1 b2 kf))] _
    refine XS.istore X18.here hx rfl (hb hby at_122) rfl (l' := #[iv xk, iv xa, iv xb, iv xc, rv a2, iv fr, iv to, iv oo, iv (own_bi bv), iv (own_bi bw), iv ss, rv a16, iv (own_K b0 b1 b2 kf), .unset, .unset, .unset, .unset, .unset, .unset, .unset, .unset, .unset, .unset, .unset, .unset, .unset]) rfl ?_
    show own_S p e below T18 m 124 #[iv xk, iv xa, iv xb, iv xc, rv a2, iv fr, iv to, iv oo, iv (own_bi bv), iv (own_bi bw), iv ss, rv a16, iv (own_K b0 b1 b2 kf), .unset, .unset, .unset, .unset, .unset, .unset, .unset, .unset, .unset, .unset, .unset, .unset, .unset] [] _
    refine XS.aload X18.here hx rfl (hb hby at_124) rfl rfl ?_
    show own_S p e below T18 m 126 #[iv xk, iv xa, iv xb, iv xc, rv a2, iv fr, iv to, iv oo, iv (own_bi bv), iv (own_bi bw), iv ss, rv a16, iv (own_K b0 b1 b2 kf), .unset, .unset, .unset, .unset, .unset, .unset, .unset, .unset, .unset, .unset, .unset, .unset, .unset] [(.ref a2)] _
    refine XS.iload X18.here hx rfl (hb hby at_126) rfl ?_
    show own_S p e below T18 m 128 #[iv xk, iv xa, iv xb, iv xc, rv a2, iv fr, iv to, iv oo, iv (own_bi bv), iv (own_bi bw), iv ss, rv a16, iv (own_K b0 b1 b2 kf), .unset, .unset, .unset, .unset, .unset, .unset, .unset, .unset, .unset, .unset, .unset, .unset, .unset] [(.int to), (.ref a2)] _
    refine XS.iconst X18.here hx rfl (hb hby at_128) ?_
    show own_S p e below T18 m 129 #[iv xk, iv xa, iv xb, iv xc, rv a2, iv fr, iv to, iv oo, iv (own_bi bv), iv (own_bi bw), iv ss, rv a16, iv (own_K b0 b1 b2 kf), .unset, .unset, .unset, .unset, .unset, .unset, .unset, .unset, .unset, .unset, .unset, .unset, .unset] [(.int (1 : Int32)), (.int to), (.ref a2)] _
    refine XS.isub X18.here hx rfl (hb hby at_129) rfl ?_
    show own_S p e below T18 m 130 #[iv xk, iv xa, iv xb, iv xc, rv a2, iv fr, iv to, iv oo, iv (own_bi bv), iv (own_bi bw), iv ss, rv a16, iv (own_K b0 b1 b2 kf), .unset, .unset, .unset, .unset, .unset, .unset, .unset, .unset, .unset, .unset, .unset, .unset, .unset] [(.int (to - (1 : Int32))), (.ref a2)] _
    refine own_rdZ X18 hx hZ rfl AK2 (own_i1 hkt) ht3 (g := (mkF m 130 #[iv xk, iv xa, iv xb, iv xc, rv a2, iv fr, iv to, iv oo, iv (own_bi bv), iv (own_bi bw), iv ss, rv a16, iv (own_K b0 b1 b2 kf), .unset, .unset, .unset, .unset, .unset, .unset, .unset, .unset, .unset, .unset, .unset, .unset, .unset] [(.int (to - (1 : Int32))), (.ref a2)])) rfl rfl (hb hby at_130) _ ?_
    show own_S p e below T18 m 131 #[iv xk, iv xa, iv xb, iv xc, rv a2, iv fr, iv to, iv oo, iv (own_bi bv), iv (own_bi bw), iv ss, rv a16, iv (own_K b0 b1 b2 kf), .unset, .unset, .unset, .unset, .unset, .unset, .unset, .unset, .unset, .unset, .unset, .unset, .unset] [(.int (own_K b0 b1 b2 (own_kt kf bb)))] _
    refine XS.istore X18.here hx rfl (hb hby at_131) rfl (l' := #[iv xk, iv xa, iv xb, iv xc, rv a2, iv fr, iv to, iv oo, iv (own_bi bv), iv (own_bi bw), iv ss, rv a16, iv (own_K b0 b1 b2 kf), iv (own_K b0 b1 b2 (own_kt kf bb)), .unset, .unset, .unset, .unset, .unset, .unset, .unset, .unset, .unset, .unset, .unset, .unset]) rfl ?_
    show own_S p e below T18 m 133 #[iv xk, iv xa, iv xb, iv xc, rv a2, iv fr, iv to, iv oo, iv (own_bi bv), iv (own_bi bw), iv ss, rv a16, iv (own_K b0 b1 b2 kf), iv (own_K b0 b1 b2 (own_kt kf bb)), .unset, .unset, .unset, .unset, .unset, .unset, .unset, .unset, .unset, .unset, .unset, .unset] [] _
    refine XS.aload X18.here hx rfl (hb hby at_133) rfl rfl ?_
    show own_S p e below T18 m 135 #[iv xk, iv xa, iv xb, iv xc, rv a2, iv fr, iv to, iv oo, iv (own_bi bv), iv (own_bi bw), iv ss, rv a16, iv (own_K b0 b1 b2 kf), iv (own_K b0 b1 b2 (own_kt kf bb)), .unset, .unset, .unset, .unset, .unset, .unset, .unset, .unset, .unset, .unset, .unset, .unset] [(.ref a2)] _
    refine XS.iload X18.here hx rfl (hb hby at_135) rfl ?_
    show own_S p e below T18 m 137 #[iv xk, iv xa, iv xb, iv xc, rv a2, iv fr, iv to, iv oo, iv (own_bi bv), iv (own_bi bw), iv ss, rv a16, iv (own_K b0 b1 b2 kf), iv (own_K b0 b1 b2 (own_kt kf bb)), .unset, .unset, .unset, .unset, .unset, .unset, .unset, .unset, .unset, .unset, .unset, .unset] [(.int oo), (.ref a2)] _
    refine XS.iconst X18.here hx rfl (hb hby at_137) ?_
    show own_S p e below T18 m 138 #[iv xk, iv xa, iv xb, iv xc, rv a2, iv fr, iv to, iv oo, iv (own_bi bv), iv (own_bi bw), iv ss, rv a16, iv (own_K b0 b1 b2 kf), iv (own_K b0 b1 b2 (own_kt kf bb)), .unset, .unset, .unset, .unset, .unset, .unset, .unset, .unset, .unset, .unset, .unset, .unset] [(.int (1 : Int32)), (.int oo), (.ref a2)] _
    refine XS.isub X18.here hx rfl (hb hby at_138) rfl ?_
    show own_S p e below T18 m 139 #[iv xk, iv xa, iv xb, iv xc, rv a2, iv fr, iv to, iv oo, iv (own_bi bv), iv (own_bi bw), iv ss, rv a16, iv (own_K b0 b1 b2 kf), iv (own_K b0 b1 b2 (own_kt kf bb)), .unset, .unset, .unset, .unset, .unset, .unset, .unset, .unset, .unset, .unset, .unset, .unset] [(.int (oo - (1 : Int32))), (.ref a2)] _
    refine own_rdZ X18 hx hZ rfl AK2 (own_i1 hko) ho3 (g := (mkF m 139 #[iv xk, iv xa, iv xb, iv xc, rv a2, iv fr, iv to, iv oo, iv (own_bi bv), iv (own_bi bw), iv ss, rv a16, iv (own_K b0 b1 b2 kf), iv (own_K b0 b1 b2 (own_kt kf bb)), .unset, .unset, .unset, .unset, .unset, .unset, .unset, .unset, .unset, .unset, .unset, .unset] [(.int (oo - (1 : Int32))), (.ref a2)])) rfl rfl (hb hby at_139) _ ?_
    show own_S p e below T18 m 140 #[iv xk, iv xa, iv xb, iv xc, rv a2, iv fr, iv to, iv oo, iv (own_bi bv), iv (own_bi bw), iv ss, rv a16, iv (own_K b0 b1 b2 kf), iv (own_K b0 b1 b2 (own_kt kf bb)), .unset, .unset, .unset, .unset, .unset, .unset, .unset, .unset, .unset, .unset, .unset, .unset] [(.int (own_K b0 b1 b2 (own_ko kf bb)))] _
    refine XS.istore X18.here hx rfl (hb hby at_140) rfl (l' := #[iv xk, iv xa, iv xb, iv xc, rv a2, iv fr, iv to, iv oo, iv (own_bi bv), iv (own_bi bw), iv ss, rv a16, iv (own_K b0 b1 b2 kf), iv (own_K b0 b1 b2 (own_kt kf bb)), iv (own_K b0 b1 b2 (own_ko kf bb)), .unset, .unset, .unset, .unset, .unset, .unset, .unset, .unset, .unset, .unset, .unset]) rfl ?_
    show own_S p e below T18 m 142 #[iv xk, iv xa, iv xb, iv xc, rv a2, iv fr, iv to, iv oo, iv (own_bi bv), iv (own_bi bw), iv ss, rv a16, iv (own_K b0 b1 b2 kf), iv (own_K b0 b1 b2 (own_kt kf bb)), iv (own_K b0 b1 b2 (own_ko kf bb)), .unset, .unset, .unset, .unset, .unset, .unset, .unset, .unset, .unset, .unset, .unset] [] _
    exact kt
  refine own_st sg19 ?_
  obtain ⟨ei, hei⟩ : ∃ z : Int32, z = (if (own_K b0 b1 b2 kf) = (0 : Int32) then (if (own_K b0 b1 b2 (own_kt kf bb)) = (0 : Int32) then (0 : Int32) else (1 : Int32)) else (1 : Int32)) := ⟨_, rfl⟩
  have sg22 : own_V p e below T18 (mkF m 157 #[iv xk, iv xa, iv xb, iv xc, rv a2, iv fr, iv to, iv oo, iv (own_bi bv), iv (own_bi bw), iv ss, rv a16, iv (own_K b0 b1 b2 kf), iv (own_K b0 b1 b2 (own_kt kf bb)), iv (own_K b0 b1 b2 (own_ko kf bb)), .unset, .unset, .unset, .unset, .unset, .unset, .unset, .unset, .unset, .unset, .unset] [(.int ei)]) (mkF m 142 #[iv xk, iv xa, iv xb, iv xc, rv a2, iv fr, iv to, iv oo, iv (own_bi bv), iv (own_bi bw), iv ss, rv a16, iv (own_K b0 b1 b2 kf), iv (own_K b0 b1 b2 (own_kt kf bb)), iv (own_K b0 b1 b2 (own_ko kf bb)), .unset, .unset, .unset, .unset, .unset, .unset, .unset, .unset, .unset, .unset, .unset] []) := by
    intro t kt
    refine XS.iload X18.here hx rfl (hb hby at_142) rfl ?_
    show own_S p e below T18 m 144 #[iv xk, iv xa, iv xb, iv xc, rv a2, iv fr, iv to, iv oo, iv (own_bi bv), iv (own_bi bw), iv ss, rv a16, iv (own_K b0 b1 b2 kf), iv (own_K b0 b1 b2 (own_kt kf bb)), iv (own_K b0 b1 b2 (own_ko kf bb)), .unset, .unset, .unset, .unset, .unset, .unset, .unset, .unset, .unset, .unset, .unset] [(.int (own_K b0 b1 b2 kf))] _
    by_cases hc20 : (own_K b0 b1 b2 kf) = (0 : Int32)
    · refine XS.ifNo X18.here hx rfl (hb hby at_144) rfl ((if0 _ _).trans (teq hc20).2) ?_
      show own_S p e below T18 m 147 #[iv xk, iv xa, iv xb, iv xc, rv a2, iv fr, iv to, iv oo, iv (own_bi bv), iv (own_bi bw), iv ss, rv a16, iv (own_K b0 b1 b2 kf), iv (own_K b0 b1 b2 (own_kt kf bb)), iv (own_K b0 b1 b2 (own_ko kf bb)), .unset, .unset, .unset, .unset, .unset, .unset, .unset, .unset, .unset, .unset, .unset] [] _
      refine XS.iload X18.here hx rfl (hb hby at_147) rfl ?_
      show own_S p e below T18 m 149 #[iv xk, iv xa, iv xb, iv xc, rv a2, iv fr, iv to, iv oo, iv (own_bi bv), iv (own_bi bw), iv ss, rv a16, iv (own_K b0 b1 b2 kf), iv (own_K b0 b1 b2 (own_kt kf bb)), iv (own_K b0 b1 b2 (own_ko kf bb)), .unset, .unset, .unset, .unset, .unset, .unset, .unset, .unset, .unset, .unset, .unset] [(.int (own_K b0 b1 b2 (own_kt kf bb)))] _
      by_cases hc21 : (own_K b0 b1 b2 (own_kt kf bb)) = (0 : Int32)
      · refine XS.ifYes X18.here hx rfl (pc0 := 149) (pc' := 156) rfl (hb hby at_149) rfl ((if0 _ _).trans (teq hc21).1) (by decide) (by decide) ?_
        show own_S p e below T18 m 156 #[iv xk, iv xa, iv xb, iv xc, rv a2, iv fr, iv to, iv oo, iv (own_bi bv), iv (own_bi bw), iv ss, rv a16, iv (own_K b0 b1 b2 kf), iv (own_K b0 b1 b2 (own_kt kf bb)), iv (own_K b0 b1 b2 (own_ko kf bb)), .unset, .unset, .unset, .unset, .unset, .unset, .unset, .unset, .unset, .unset, .unset] [] _
        refine XS.iconst X18.here hx rfl (hb hby at_156) ?_
        show own_S p e below T18 m 157 #[iv xk, iv xa, iv xb, iv xc, rv a2, iv fr, iv to, iv oo, iv (own_bi bv), iv (own_bi bw), iv ss, rv a16, iv (own_K b0 b1 b2 kf), iv (own_K b0 b1 b2 (own_kt kf bb)), iv (own_K b0 b1 b2 (own_ko kf bb)), .unset, .unset, .unset, .unset, .unset, .unset, .unset, .unset, .unset, .unset, .unset] [(.int (0 : Int32))] _
        rw [show ei = (0 : Int32) from by rw [hei, if_pos hc20, if_pos hc21]] at kt
        exact kt
      · refine XS.ifNo X18.here hx rfl (hb hby at_149) rfl ((if0 _ _).trans (feq hc21).1) ?_
        show own_S p e below T18 m 152 #[iv xk, iv xa, iv xb, iv xc, rv a2, iv fr, iv to, iv oo, iv (own_bi bv), iv (own_bi bw), iv ss, rv a16, iv (own_K b0 b1 b2 kf), iv (own_K b0 b1 b2 (own_kt kf bb)), iv (own_K b0 b1 b2 (own_ko kf bb)), .unset, .unset, .unset, .unset, .unset, .unset, .unset, .unset, .unset, .unset, .unset] [] _
        refine XS.iconst X18.here hx rfl (hb hby at_152) ?_
        show own_S p e below T18 m 153 #[iv xk, iv xa, iv xb, iv xc, rv a2, iv fr, iv to, iv oo, iv (own_bi bv), iv (own_bi bw), iv ss, rv a16, iv (own_K b0 b1 b2 kf), iv (own_K b0 b1 b2 (own_kt kf bb)), iv (own_K b0 b1 b2 (own_ko kf bb)), .unset, .unset, .unset, .unset, .unset, .unset, .unset, .unset, .unset, .unset, .unset] [(.int (1 : Int32))] _
        refine XS.goto X18.here hx rfl (pc0 := 153) (pc' := 157) rfl (hb hby at_153) (by decide) (by decide) ?_
        show own_S p e below T18 m 157 #[iv xk, iv xa, iv xb, iv xc, rv a2, iv fr, iv to, iv oo, iv (own_bi bv), iv (own_bi bw), iv ss, rv a16, iv (own_K b0 b1 b2 kf), iv (own_K b0 b1 b2 (own_kt kf bb)), iv (own_K b0 b1 b2 (own_ko kf bb)), .unset, .unset, .unset, .unset, .unset, .unset, .unset, .unset, .unset, .unset, .unset] [(.int (1 : Int32))] _
        rw [show ei = (1 : Int32) from by rw [hei, if_pos hc20, if_neg hc21]] at kt
        exact kt
    · refine XS.ifYes X18.here hx rfl (pc0 := 144) (pc' := 152) rfl (hb hby at_144) rfl ((if0 _ _).trans (feq hc20).2) (by decide) (by decide) ?_
      show own_S p e below T18 m 152 #[iv xk, iv xa, iv xb, iv xc, rv a2, iv fr, iv to, iv oo, iv (own_bi bv), iv (own_bi bw), iv ss, rv a16, iv (own_K b0 b1 b2 kf), iv (own_K b0 b1 b2 (own_kt kf bb)), iv (own_K b0 b1 b2 (own_ko kf bb)), .unset, .unset, .unset, .unset, .unset, .unset, .unset, .unset, .unset, .unset, .unset] [] _
      refine XS.iconst X18.here hx rfl (hb hby at_152) ?_
      show own_S p e below T18 m 153 #[iv xk, iv xa, iv xb, iv xc, rv a2, iv fr, iv to, iv oo, iv (own_bi bv), iv (own_bi bw), iv ss, rv a16, iv (own_K b0 b1 b2 kf), iv (own_K b0 b1 b2 (own_kt kf bb)), iv (own_K b0 b1 b2 (own_ko kf bb)), .unset, .unset, .unset, .unset, .unset, .unset, .unset, .unset, .unset, .unset, .unset] [(.int (1 : Int32))] _
      refine XS.goto X18.here hx rfl (pc0 := 153) (pc' := 157) rfl (hb hby at_153) (by decide) (by decide) ?_
      show own_S p e below T18 m 157 #[iv xk, iv xa, iv xb, iv xc, rv a2, iv fr, iv to, iv oo, iv (own_bi bv), iv (own_bi bw), iv ss, rv a16, iv (own_K b0 b1 b2 kf), iv (own_K b0 b1 b2 (own_kt kf bb)), iv (own_K b0 b1 b2 (own_ko kf bb)), .unset, .unset, .unset, .unset, .unset, .unset, .unset, .unset, .unset, .unset, .unset] [(.int (1 : Int32))] _
      rw [show ei = (1 : Int32) from by rw [hei, if_neg hc20]] at kt
      exact kt
  refine own_st sg22 ?_
  have sg23 : own_V p e below T18 (mkF m 168 #[iv xk, iv xa, iv xb, iv xc, rv a2, iv fr, iv to, iv oo, iv (own_bi bv), iv (own_bi bw), iv ss, rv a16, iv (own_K b0 b1 b2 kf), iv (own_K b0 b1 b2 (own_kt kf bb)), iv (own_K b0 b1 b2 (own_ko kf bb)), iv ei, own_lv (0 : Int64), .second, iv (-1 : Int32), iv (-1 : Int32), .unset, .unset, .unset, .unset, .unset, .unset] []) (mkF m 157 #[iv xk, iv xa, iv xb, iv xc, rv a2, iv fr, iv to, iv oo, iv (own_bi bv), iv (own_bi bw), iv ss, rv a16, iv (own_K b0 b1 b2 kf), iv (own_K b0 b1 b2 (own_kt kf bb)), iv (own_K b0 b1 b2 (own_ko kf bb)), .unset, .unset, .unset, .unset, .unset, .unset, .unset, .unset, .unset, .unset, .unset] [(.int ei)]) := by
    intro t kt
    refine XS.istore X18.here hx rfl (hb hby at_157) rfl (l' := #[iv xk, iv xa, iv xb, iv xc, rv a2, iv fr, iv to, iv oo, iv (own_bi bv), iv (own_bi bw), iv ss, rv a16, iv (own_K b0 b1 b2 kf), iv (own_K b0 b1 b2 (own_kt kf bb)), iv (own_K b0 b1 b2 (own_ko kf bb)), iv ei, .unset, .unset, .unset, .unset, .unset, .unset, .unset, .unset, .unset, .unset]) rfl ?_
    show own_S p e below T18 m 159 #[iv xk, iv xa, iv xb, iv xc, rv a2, iv fr, iv to, iv oo, iv (own_bi bv), iv (own_bi bw), iv ss, rv a16, iv (own_K b0 b1 b2 kf), iv (own_K b0 b1 b2 (own_kt kf bb)), iv (own_K b0 b1 b2 (own_ko kf bb)), iv ei, .unset, .unset, .unset, .unset, .unset, .unset, .unset, .unset, .unset, .unset] [] _
    refine XS.lconst X18.here hx rfl (hb hby at_159) ?_
    show own_S p e below T18 m 160 #[iv xk, iv xa, iv xb, iv xc, rv a2, iv fr, iv to, iv oo, iv (own_bi bv), iv (own_bi bw), iv ss, rv a16, iv (own_K b0 b1 b2 kf), iv (own_K b0 b1 b2 (own_kt kf bb)), iv (own_K b0 b1 b2 (own_ko kf bb)), iv ei, .unset, .unset, .unset, .unset, .unset, .unset, .unset, .unset, .unset, .unset] [(.long (0 : Int64))] _
    refine XS.lstore X18.here hx rfl (hb hby at_160) rfl (l' := #[iv xk, iv xa, iv xb, iv xc, rv a2, iv fr, iv to, iv oo, iv (own_bi bv), iv (own_bi bw), iv ss, rv a16, iv (own_K b0 b1 b2 kf), iv (own_K b0 b1 b2 (own_kt kf bb)), iv (own_K b0 b1 b2 (own_ko kf bb)), iv ei, own_lv (0 : Int64), .second, .unset, .unset, .unset, .unset, .unset, .unset, .unset, .unset]) rfl ?_
    show own_S p e below T18 m 162 #[iv xk, iv xa, iv xb, iv xc, rv a2, iv fr, iv to, iv oo, iv (own_bi bv), iv (own_bi bw), iv ss, rv a16, iv (own_K b0 b1 b2 kf), iv (own_K b0 b1 b2 (own_kt kf bb)), iv (own_K b0 b1 b2 (own_ko kf bb)), iv ei, own_lv (0 : Int64), .second, .unset, .unset, .unset, .unset, .unset, .unset, .unset, .unset] [] _
    refine XS.iconst X18.here hx rfl (hb hby at_162) ?_
    show own_S p e below T18 m 163 #[iv xk, iv xa, iv xb, iv xc, rv a2, iv fr, iv to, iv oo, iv (own_bi bv), iv (own_bi bw), iv ss, rv a16, iv (own_K b0 b1 b2 kf), iv (own_K b0 b1 b2 (own_kt kf bb)), iv (own_K b0 b1 b2 (own_ko kf bb)), iv ei, own_lv (0 : Int64), .second, .unset, .unset, .unset, .unset, .unset, .unset, .unset, .unset] [(.int (-1 : Int32))] _
    refine XS.istore X18.here hx rfl (hb hby at_163) rfl (l' := #[iv xk, iv xa, iv xb, iv xc, rv a2, iv fr, iv to, iv oo, iv (own_bi bv), iv (own_bi bw), iv ss, rv a16, iv (own_K b0 b1 b2 kf), iv (own_K b0 b1 b2 (own_kt kf bb)), iv (own_K b0 b1 b2 (own_ko kf bb)), iv ei, own_lv (0 : Int64), .second, iv (-1 : Int32), .unset, .unset, .unset, .unset, .unset, .unset, .unset]) rfl ?_
    show own_S p e below T18 m 165 #[iv xk, iv xa, iv xb, iv xc, rv a2, iv fr, iv to, iv oo, iv (own_bi bv), iv (own_bi bw), iv ss, rv a16, iv (own_K b0 b1 b2 kf), iv (own_K b0 b1 b2 (own_kt kf bb)), iv (own_K b0 b1 b2 (own_ko kf bb)), iv ei, own_lv (0 : Int64), .second, iv (-1 : Int32), .unset, .unset, .unset, .unset, .unset, .unset, .unset] [] _
    refine XS.iconst X18.here hx rfl (hb hby at_165) ?_
    show own_S p e below T18 m 166 #[iv xk, iv xa, iv xb, iv xc, rv a2, iv fr, iv to, iv oo, iv (own_bi bv), iv (own_bi bw), iv ss, rv a16, iv (own_K b0 b1 b2 kf), iv (own_K b0 b1 b2 (own_kt kf bb)), iv (own_K b0 b1 b2 (own_ko kf bb)), iv ei, own_lv (0 : Int64), .second, iv (-1 : Int32), .unset, .unset, .unset, .unset, .unset, .unset, .unset] [(.int (-1 : Int32))] _
    refine XS.istore X18.here hx rfl (hb hby at_166) rfl (l' := #[iv xk, iv xa, iv xb, iv xc, rv a2, iv fr, iv to, iv oo, iv (own_bi bv), iv (own_bi bw), iv ss, rv a16, iv (own_K b0 b1 b2 kf), iv (own_K b0 b1 b2 (own_kt kf bb)), iv (own_K b0 b1 b2 (own_ko kf bb)), iv ei, own_lv (0 : Int64), .second, iv (-1 : Int32), iv (-1 : Int32), .unset, .unset, .unset, .unset, .unset, .unset]) rfl ?_
    show own_S p e below T18 m 168 #[iv xk, iv xa, iv xb, iv xc, rv a2, iv fr, iv to, iv oo, iv (own_bi bv), iv (own_bi bw), iv ss, rv a16, iv (own_K b0 b1 b2 kf), iv (own_K b0 b1 b2 (own_kt kf bb)), iv (own_K b0 b1 b2 (own_ko kf bb)), iv ei, own_lv (0 : Int64), .second, iv (-1 : Int32), iv (-1 : Int32), .unset, .unset, .unset, .unset, .unset, .unset] [] _
    exact kt
  refine own_st sg23 ?_
  rcases own_s4 xc ss hss with hs4 | hs4 | hs4 | hs4
  · skip
    have sg24 : own_V p e below T18 (mkF m 171 #[iv xk, iv xa, iv xb, iv xc, rv a2, iv fr, iv to, iv oo, iv (own_bi bv), iv (own_bi bw), iv ss, rv a16, iv (own_K b0 b1 b2 kf), iv (own_K b0 b1 b2 (own_kt kf bb)), iv (own_K b0 b1 b2 (own_ko kf bb)), iv ei, own_lv (0 : Int64), .second, iv (-1 : Int32), iv (-1 : Int32), .unset, .unset, .unset, .unset, .unset, .unset] [(.int (1 : Int32)), (.int ss)]) (mkF m 168 #[iv xk, iv xa, iv xb, iv xc, rv a2, iv fr, iv to, iv oo, iv (own_bi bv), iv (own_bi bw), iv ss, rv a16, iv (own_K b0 b1 b2 kf), iv (own_K b0 b1 b2 (own_kt kf bb)), iv (own_K b0 b1 b2 (own_ko kf bb)), iv ei, own_lv (0 : Int64), .second, iv (-1 : Int32), iv (-1 : Int32), .unset, .unset, .unset, .unset, .unset, .unset] []) := by
      intro t kt
      refine XS.iload X18.here hx rfl (hb hby at_168) rfl ?_
      show own_S p e below T18 m 170 #[iv xk, iv xa, iv xb, iv xc, rv a2, iv fr, iv to, iv oo, iv (own_bi bv), iv (own_bi bw), iv ss, rv a16, iv (own_K b0 b1 b2 kf), iv (own_K b0 b1 b2 (own_kt kf bb)), iv (own_K b0 b1 b2 (own_ko kf bb)), iv ei, own_lv (0 : Int64), .second, iv (-1 : Int32), iv (-1 : Int32), .unset, .unset, .unset, .unset, .unset, .unset] [(.int ss)] _
      refine XS.iconst X18.here hx rfl (hb hby at_170) ?_
      show own_S p e below T18 m 171 #[iv xk, iv xa, iv xb, iv xc, rv a2, iv fr, iv to, iv oo, iv (own_bi bv), iv (own_bi bw), iv ss, rv a16, iv (own_K b0 b1 b2 kf), iv (own_K b0 b1 b2 (own_kt kf bb)), iv (own_K b0 b1 b2 (own_ko kf bb)), iv ei, own_lv (0 : Int64), .second, iv (-1 : Int32), iv (-1 : Int32), .unset, .unset, .unset, .unset, .unset, .unset] [(.int (1 : Int32)), (.int ss)] _
      exact kt
    refine own_st sg24 ?_
    have hc25 : ¬ ss = (1 : Int32) := by rw [hs4]; decide
    have sg26 : own_V p e below T18 (mkF m 201 #[iv xk, iv xa, iv xb, iv xc, rv a2, iv fr, iv to, iv oo, iv (own_bi bv), iv (own_bi bw), iv ss, rv a16, iv (own_K b0 b1 b2 kf), iv (own_K b0 b1 b2 (own_kt kf bb)), iv (own_K b0 b1 b2 (own_ko kf bb)), iv ei, own_lv (0 : Int64), .second, iv (-1 : Int32), iv (-1 : Int32), .unset, .unset, .unset, .unset, .unset, .unset] []) (mkF m 171 #[iv xk, iv xa, iv xb, iv xc, rv a2, iv fr, iv to, iv oo, iv (own_bi bv), iv (own_bi bw), iv ss, rv a16, iv (own_K b0 b1 b2 kf), iv (own_K b0 b1 b2 (own_kt kf bb)), iv (own_K b0 b1 b2 (own_ko kf bb)), iv ei, own_lv (0 : Int64), .second, iv (-1 : Int32), iv (-1 : Int32), .unset, .unset, .unset, .unset, .unset, .unset] [(.int (1 : Int32)), (.int ss)]) := by
      intro t kt
      refine XS.icmpYes X18.here hx rfl (pc0 := 171) (pc' := 201) rfl (hb hby at_171) rfl (feq hc25).2 (by decide) (by decide) ?_
      exact kt
    refine own_st sg26 ?_
    have sg27 : own_V p e below T18 (mkF m 204 #[iv xk, iv xa, iv xb, iv xc, rv a2, iv fr, iv to, iv oo, iv (own_bi bv), iv (own_bi bw), iv ss, rv a16, iv (own_K b0 b1 b2 kf), iv (own_K b0 b1 b2 (own_kt kf bb)), iv (own_K b0 b1 b2 (own_ko kf bb)), iv ei, own_lv (0 : Int64), .second, iv (-1 : Int32), iv (-1 : Int32), .unset, .unset, .unset, .unset, .unset, .unset] [(.int (2 : Int32)), (.int ss)]) (mkF m 201 #[iv xk, iv xa, iv xb, iv xc, rv a2, iv fr, iv to, iv oo, iv (own_bi bv), iv (own_bi bw), iv ss, rv a16, iv (own_K b0 b1 b2 kf), iv (own_K b0 b1 b2 (own_kt kf bb)), iv (own_K b0 b1 b2 (own_ko kf bb)), iv ei, own_lv (0 : Int64), .second, iv (-1 : Int32), iv (-1 : Int32), .unset, .unset, .unset, .unset, .unset, .unset] []) := by
      intro t kt
      refine XS.iload X18.here hx rfl (hb hby at_201) rfl ?_
      show own_S p e below T18 m 203 #[iv xk, iv xa, iv xb, iv xc, rv a2, iv fr, iv to, iv oo, iv (own_bi bv), iv (own_bi bw), iv ss, rv a16, iv (own_K b0 b1 b2 kf), iv (own_K b0 b1 b2 (own_kt kf bb)), iv (own_K b0 b1 b2 (own_ko kf bb)), iv ei, own_lv (0 : Int64), .second, iv (-1 : Int32), iv (-1 : Int32), .unset, .unset, .unset, .unset, .unset, .unset] [(.int ss)] _
      refine XS.iconst X18.here hx rfl (hb hby at_203) ?_
      show own_S p e below T18 m 204 #[iv xk, iv xa, iv xb, iv xc, rv a2, iv fr, iv to, iv oo, iv (own_bi bv), iv (own_bi bw), iv ss, rv a16, iv (own_K b0 b1 b2 kf), iv (own_K b0 b1 b2 (own_kt kf bb)), iv (own_K b0 b1 b2 (own_ko kf bb)), iv ei, own_lv (0 : Int64), .second, iv (-1 : Int32), iv (-1 : Int32), .unset, .unset, .unset, .unset, .unset, .unset] [(.int (2 : Int32)), (.int ss)] _
      exact kt
    refine own_st sg27 ?_
    have hc28 : ¬ ss = (2 : Int32) := by rw [hs4]; decide
    have sg29 : own_V p e below T18 (mkF m 238 #[iv xk, iv xa, iv xb, iv xc, rv a2, iv fr, iv to, iv oo, iv (own_bi bv), iv (own_bi bw), iv ss, rv a16, iv (own_K b0 b1 b2 kf), iv (own_K b0 b1 b2 (own_kt kf bb)), iv (own_K b0 b1 b2 (own_ko kf bb)), iv ei, own_lv (0 : Int64), .second, iv (-1 : Int32), iv (-1 : Int32), .unset, .unset, .unset, .unset, .unset, .unset] []) (mkF m 204 #[iv xk, iv xa, iv xb, iv xc, rv a2, iv fr, iv to, iv oo, iv (own_bi bv), iv (own_bi bw), iv ss, rv a16, iv (own_K b0 b1 b2 kf), iv (own_K b0 b1 b2 (own_kt kf bb)), iv (own_K b0 b1 b2 (own_ko kf bb)), iv ei, own_lv (0 : Int64), .second, iv (-1 : Int32), iv (-1 : Int32), .unset, .unset, .unset, .unset, .unset, .unset] [(.int (2 : Int32)), (.int ss)]) := by
      intro t kt
      refine XS.icmpYes X18.here hx rfl (pc0 := 204) (pc' := 238) rfl (hb hby at_204) rfl (feq hc28).2 (by decide) (by decide) ?_
      exact kt
    refine own_st sg29 ?_
    have sg30 : own_V p e below T18 (mkF m 241 #[iv xk, iv xa, iv xb, iv xc, rv a2, iv fr, iv to, iv oo, iv (own_bi bv), iv (own_bi bw), iv ss, rv a16, iv (own_K b0 b1 b2 kf), iv (own_K b0 b1 b2 (own_kt kf bb)), iv (own_K b0 b1 b2 (own_ko kf bb)), iv ei, own_lv (0 : Int64), .second, iv (-1 : Int32), iv (-1 : Int32), .unset, .unset, .unset, .unset, .unset, .unset] [(.int (3 : Int32)), (.int ss)]) (mkF m 238 #[iv xk, iv xa, iv xb, iv xc, rv a2, iv fr, iv to, iv oo, iv (own_bi bv), iv (own_bi bw), iv ss, rv a16, iv (own_K b0 b1 b2 kf), iv (own_K b0 b1 b2 (own_kt kf bb)), iv (own_K b0 b1 b2 (own_ko kf bb)), iv ei, own_lv (0 : Int64), .second, iv (-1 : Int32), iv (-1 : Int32), .unset, .unset, .unset, .unset, .unset, .unset] []) := by
      intro t kt
      refine XS.iload X18.here hx rfl (hb hby at_238) rfl ?_
      show own_S p e below T18 m 240 #[iv xk, iv xa, iv xb, iv xc, rv a2, iv fr, iv to, iv oo, iv (own_bi bv), iv (own_bi bw), iv ss, rv a16, iv (own_K b0 b1 b2 kf), iv (own_K b0 b1 b2 (own_kt kf bb)), iv (own_K b0 b1 b2 (own_ko kf bb)), iv ei, own_lv (0 : Int64), .second, iv (-1 : Int32), iv (-1 : Int32), .unset, .unset, .unset, .unset, .unset, .unset] [(.int ss)] _
      refine XS.iconst X18.here hx rfl (hb hby at_240) ?_
      show own_S p e below T18 m 241 #[iv xk, iv xa, iv xb, iv xc, rv a2, iv fr, iv to, iv oo, iv (own_bi bv), iv (own_bi bw), iv ss, rv a16, iv (own_K b0 b1 b2 kf), iv (own_K b0 b1 b2 (own_kt kf bb)), iv (own_K b0 b1 b2 (own_ko kf bb)), iv ei, own_lv (0 : Int64), .second, iv (-1 : Int32), iv (-1 : Int32), .unset, .unset, .unset, .unset, .unset, .unset] [(.int (3 : Int32)), (.int ss)] _
      exact kt
    refine own_st sg30 ?_
    have hc31 : ¬ ss = (3 : Int32) := by rw [hs4]; decide
    have sg32 : own_V p e below T18 (mkF m 273 #[iv xk, iv xa, iv xb, iv xc, rv a2, iv fr, iv to, iv oo, iv (own_bi bv), iv (own_bi bw), iv ss, rv a16, iv (own_K b0 b1 b2 kf), iv (own_K b0 b1 b2 (own_kt kf bb)), iv (own_K b0 b1 b2 (own_ko kf bb)), iv ei, own_lv (0 : Int64), .second, iv (-1 : Int32), iv (-1 : Int32), .unset, .unset, .unset, .unset, .unset, .unset] []) (mkF m 241 #[iv xk, iv xa, iv xb, iv xc, rv a2, iv fr, iv to, iv oo, iv (own_bi bv), iv (own_bi bw), iv ss, rv a16, iv (own_K b0 b1 b2 kf), iv (own_K b0 b1 b2 (own_kt kf bb)), iv (own_K b0 b1 b2 (own_ko kf bb)), iv ei, own_lv (0 : Int64), .second, iv (-1 : Int32), iv (-1 : Int32), .unset, .unset, .unset, .unset, .unset, .unset] [(.int (3 : Int32)), (.int ss)]) := by
      intro t kt
      refine XS.icmpYes X18.here hx rfl (pc0 := 241) (pc' := 273) rfl (hb hby at_241) rfl (feq hc31).2 (by decide) (by decide) ?_
      exact kt
    refine own_st sg32 ?_
    obtain ⟨bls0, hbls0⟩ : ∃ z : Int32, z = (0 : Int32) := ⟨_, rfl⟩
    have sg33 : own_V p e below T18 (mkF m 284 #[iv xk, iv xa, iv xb, iv xc, rv a2, iv fr, iv to, iv oo, iv (own_bi bv), iv (own_bi bw), iv ss, rv a16, iv (own_K b0 b1 b2 kf), iv (own_K b0 b1 b2 (own_kt kf bb)), iv (own_K b0 b1 b2 (own_ko kf bb)), iv ei, own_lv (0 : Int64), .second, iv (-1 : Int32), iv (-1 : Int32), .unset, .unset, .unset, .unset, .unset, .unset] [(.int bls0)]) (mkF m 273 #[iv xk, iv xa, iv xb, iv xc, rv a2, iv fr, iv to, iv oo, iv (own_bi bv), iv (own_bi bw), iv ss, rv a16, iv (own_K b0 b1 b2 kf), iv (own_K b0 b1 b2 (own_kt kf bb)), iv (own_K b0 b1 b2 (own_ko kf bb)), iv ei, own_lv (0 : Int64), .second, iv (-1 : Int32), iv (-1 : Int32), .unset, .unset, .unset, .unset, .unset, .unset] []) := by
      intro t kt
      refine XS.iload X18.here hx rfl (hb hby at_273) rfl ?_
      show own_S p e below T18 m 275 #[iv xk, iv xa, iv xb, iv xc, rv a2, iv fr, iv to, iv oo, iv (own_bi bv), iv (own_bi bw), iv ss, rv a16, iv (own_K b0 b1 b2 kf), iv (own_K b0 b1 b2 (own_kt kf bb)), iv (own_K b0 b1 b2 (own_ko kf bb)), iv ei, own_lv (0 : Int64), .second, iv (-1 : Int32), iv (-1 : Int32), .unset, .unset, .unset, .unset, .unset, .unset] [(.int (-1 : Int32))] _
      refine XS.iconst X18.here hx rfl (hb hby at_275) ?_
      show own_S p e below T18 m 276 #[iv xk, iv xa, iv xb, iv xc, rv a2, iv fr, iv to, iv oo, iv (own_bi bv), iv (own_bi bw), iv ss, rv a16, iv (own_K b0 b1 b2 kf), iv (own_K b0 b1 b2 (own_kt kf bb)), iv (own_K b0 b1 b2 (own_ko kf bb)), iv ei, own_lv (0 : Int64), .second, iv (-1 : Int32), iv (-1 : Int32), .unset, .unset, .unset, .unset, .unset, .unset] [(.int (-1 : Int32)), (.int (-1 : Int32))] _
      refine XS.icmpYes X18.here hx rfl (pc0 := 276) (pc' := 283) rfl (hb hby at_276) rfl (teq (by decide : (-1 : Int32) = (-1 : Int32))).1 (by decide) (by decide) ?_
      show own_S p e below T18 m 283 #[iv xk, iv xa, iv xb, iv xc, rv a2, iv fr, iv to, iv oo, iv (own_bi bv), iv (own_bi bw), iv ss, rv a16, iv (own_K b0 b1 b2 kf), iv (own_K b0 b1 b2 (own_kt kf bb)), iv (own_K b0 b1 b2 (own_ko kf bb)), iv ei, own_lv (0 : Int64), .second, iv (-1 : Int32), iv (-1 : Int32), .unset, .unset, .unset, .unset, .unset, .unset] [] _
      refine XS.iconst X18.here hx rfl (hb hby at_283) ?_
      show own_S p e below T18 m 284 #[iv xk, iv xa, iv xb, iv xc, rv a2, iv fr, iv to, iv oo, iv (own_bi bv), iv (own_bi bw), iv ss, rv a16, iv (own_K b0 b1 b2 kf), iv (own_K b0 b1 b2 (own_kt kf bb)), iv (own_K b0 b1 b2 (own_ko kf bb)), iv ei, own_lv (0 : Int64), .second, iv (-1 : Int32), iv (-1 : Int32), .unset, .unset, .unset, .unset, .unset, .unset] [(.int (0 : Int32))] _
      rw [hbls0] at kt
      exact kt
    refine own_st sg33 ?_
    obtain ⟨sos0, hsos0⟩ : ∃ z : Int32, z = (if ei = (0 : Int32) then (0 : Int32) else (if bls0 = (0 : Int32) then (1 : Int32) else (0 : Int32))) := ⟨_, rfl⟩
    have sg36 : own_V p e below T18 (mkF m 301 #[iv xk, iv xa, iv xb, iv xc, rv a2, iv fr, iv to, iv oo, iv (own_bi bv), iv (own_bi bw), iv ss, rv a16, iv (own_K b0 b1 b2 kf), iv (own_K b0 b1 b2 (own_kt kf bb)), iv (own_K b0 b1 b2 (own_ko kf bb)), iv ei, own_lv (0 : Int64), .second, iv (-1 : Int32), iv (-1 : Int32), iv bls0, .unset, .unset, .unset, .unset, .unset] [(.int sos0)]) (mkF m 284 #[iv xk, iv xa, iv xb, iv xc, rv a2, iv fr, iv to, iv oo, iv (own_bi bv), iv (own_bi bw), iv ss, rv a16, iv (own_K b0 b1 b2 kf), iv (own_K b0 b1 b2 (own_kt kf bb)), iv (own_K b0 b1 b2 (own_ko kf bb)), iv ei, own_lv (0 : Int64), .second, iv (-1 : Int32), iv (-1 : Int32), .unset, .unset, .unset, .unset, .unset, .unset] [(.int bls0)]) := by
      intro t kt
      refine XS.istore X18.here hx rfl (hb hby at_284) rfl (l' := #[iv xk, iv xa, iv xb, iv xc, rv a2, iv fr, iv to, iv oo, iv (own_bi bv), iv (own_bi bw), iv ss, rv a16, iv (own_K b0 b1 b2 kf), iv (own_K b0 b1 b2 (own_kt kf bb)), iv (own_K b0 b1 b2 (own_ko kf bb)), iv ei, own_lv (0 : Int64), .second, iv (-1 : Int32), iv (-1 : Int32), iv bls0, .unset, .unset, .unset, .unset, .unset]) rfl ?_
      show own_S p e below T18 m 286 #[iv xk, iv xa, iv xb, iv xc, rv a2, iv fr, iv to, iv oo, iv (own_bi bv), iv (own_bi bw), iv ss, rv a16, iv (own_K b0 b1 b2 kf), iv (own_K b0 b1 b2 (own_kt kf bb)), iv (own_K b0 b1 b2 (own_ko kf bb)), iv ei, own_lv (0 : Int64), .second, iv (-1 : Int32), iv (-1 : Int32), iv bls0, .unset, .unset, .unset, .unset, .unset] [] _
      refine XS.iload X18.here hx rfl (hb hby at_286) rfl ?_
      show own_S p e below T18 m 288 #[iv xk, iv xa, iv xb, iv xc, rv a2, iv fr, iv to, iv oo, iv (own_bi bv), iv (own_bi bw), iv ss, rv a16, iv (own_K b0 b1 b2 kf), iv (own_K b0 b1 b2 (own_kt kf bb)), iv (own_K b0 b1 b2 (own_ko kf bb)), iv ei, own_lv (0 : Int64), .second, iv (-1 : Int32), iv (-1 : Int32), iv bls0, .unset, .unset, .unset, .unset, .unset] [(.int ei)] _
      by_cases hc34 : ei = (0 : Int32)
      · refine XS.ifYes X18.here hx rfl (pc0 := 288) (pc' := 300) rfl (hb hby at_288) rfl ((if0 _ _).trans (teq hc34).1) (by decide) (by decide) ?_
        show own_S p e below T18 m 300 #[iv xk, iv xa, iv xb, iv xc, rv a2, iv fr, iv to, iv oo, iv (own_bi bv), iv (own_bi bw), iv ss, rv a16, iv (own_K b0 b1 b2 kf), iv (own_K b0 b1 b2 (own_kt kf bb)), iv (own_K b0 b1 b2 (own_ko kf bb)), iv ei, own_lv (0 : Int64), .second, iv (-1 : Int32), iv (-1 : Int32), iv bls0, .unset, .unset, .unset, .unset, .unset] [] _
        refine XS.iconst X18.here hx rfl (hb hby at_300) ?_
        show own_S p e below T18 m 301 #[iv xk, iv xa, iv xb, iv xc, rv a2, iv fr, iv to, iv oo, iv (own_bi bv), iv (own_bi bw), iv ss, rv a16, iv (own_K b0 b1 b2 kf), iv (own_K b0 b1 b2 (own_kt kf bb)), iv (own_K b0 b1 b2 (own_ko kf bb)), iv ei, own_lv (0 : Int64), .second, iv (-1 : Int32), iv (-1 : Int32), iv bls0, .unset, .unset, .unset, .unset, .unset] [(.int (0 : Int32))] _
        rw [show sos0 = (0 : Int32) from by rw [hsos0, if_pos hc34]] at kt
        exact kt
      · refine XS.ifNo X18.here hx rfl (hb hby at_288) rfl ((if0 _ _).trans (feq hc34).1) ?_
        show own_S p e below T18 m 291 #[iv xk, iv xa, iv xb, iv xc, rv a2, iv fr, iv to, iv oo, iv (own_bi bv), iv (own_bi bw), iv ss, rv a16, iv (own_K b0 b1 b2 kf), iv (own_K b0 b1 b2 (own_kt kf bb)), iv (own_K b0 b1 b2 (own_ko kf bb)), iv ei, own_lv (0 : Int64), .second, iv (-1 : Int32), iv (-1 : Int32), iv bls0, .unset, .unset, .unset, .unset, .unset] [] _
        refine XS.iload X18.here hx rfl (hb hby at_291) rfl ?_
        show own_S p e below T18 m 293 #[iv xk, iv xa, iv xb, iv xc, rv a2, iv fr, iv to, iv oo, iv (own_bi bv), iv (own_bi bw), iv ss, rv a16, iv (own_K b0 b1 b2 kf), iv (own_K b0 b1 b2 (own_kt kf bb)), iv (own_K b0 b1 b2 (own_ko kf bb)), iv ei, own_lv (0 : Int64), .second, iv (-1 : Int32), iv (-1 : Int32), iv bls0, .unset, .unset, .unset, .unset, .unset] [(.int bls0)] _
        by_cases hc35 : bls0 = (0 : Int32)
        · refine XS.ifNo X18.here hx rfl (hb hby at_293) rfl ((if0 _ _).trans (teq hc35).2) ?_
          show own_S p e below T18 m 296 #[iv xk, iv xa, iv xb, iv xc, rv a2, iv fr, iv to, iv oo, iv (own_bi bv), iv (own_bi bw), iv ss, rv a16, iv (own_K b0 b1 b2 kf), iv (own_K b0 b1 b2 (own_kt kf bb)), iv (own_K b0 b1 b2 (own_ko kf bb)), iv ei, own_lv (0 : Int64), .second, iv (-1 : Int32), iv (-1 : Int32), iv bls0, .unset, .unset, .unset, .unset, .unset] [] _
          refine XS.iconst X18.here hx rfl (hb hby at_296) ?_
          show own_S p e below T18 m 297 #[iv xk, iv xa, iv xb, iv xc, rv a2, iv fr, iv to, iv oo, iv (own_bi bv), iv (own_bi bw), iv ss, rv a16, iv (own_K b0 b1 b2 kf), iv (own_K b0 b1 b2 (own_kt kf bb)), iv (own_K b0 b1 b2 (own_ko kf bb)), iv ei, own_lv (0 : Int64), .second, iv (-1 : Int32), iv (-1 : Int32), iv bls0, .unset, .unset, .unset, .unset, .unset] [(.int (1 : Int32))] _
          refine XS.goto X18.here hx rfl (pc0 := 297) (pc' := 301) rfl (hb hby at_297) (by decide) (by decide) ?_
          show own_S p e below T18 m 301 #[iv xk, iv xa, iv xb, iv xc, rv a2, iv fr, iv to, iv oo, iv (own_bi bv), iv (own_bi bw), iv ss, rv a16, iv (own_K b0 b1 b2 kf), iv (own_K b0 b1 b2 (own_kt kf bb)), iv (own_K b0 b1 b2 (own_ko kf bb)), iv ei, own_lv (0 : Int64), .second, iv (-1 : Int32), iv (-1 : Int32), iv bls0, .unset, .unset, .unset, .unset, .unset] [(.int (1 : Int32))] _
          rw [show sos0 = (1 : Int32) from by rw [hsos0, if_neg hc34, if_pos hc35]] at kt
          exact kt
        · refine XS.ifYes X18.here hx rfl (pc0 := 293) (pc' := 300) rfl (hb hby at_293) rfl ((if0 _ _).trans (feq hc35).2) (by decide) (by decide) ?_
          show own_S p e below T18 m 300 #[iv xk, iv xa, iv xb, iv xc, rv a2, iv fr, iv to, iv oo, iv (own_bi bv), iv (own_bi bw), iv ss, rv a16, iv (own_K b0 b1 b2 kf), iv (own_K b0 b1 b2 (own_kt kf bb)), iv (own_K b0 b1 b2 (own_ko kf bb)), iv ei, own_lv (0 : Int64), .second, iv (-1 : Int32), iv (-1 : Int32), iv bls0, .unset, .unset, .unset, .unset, .unset] [] _
          refine XS.iconst X18.here hx rfl (hb hby at_300) ?_
          show own_S p e below T18 m 301 #[iv xk, iv xa, iv xb, iv xc, rv a2, iv fr, iv to, iv oo, iv (own_bi bv), iv (own_bi bw), iv ss, rv a16, iv (own_K b0 b1 b2 kf), iv (own_K b0 b1 b2 (own_kt kf bb)), iv (own_K b0 b1 b2 (own_ko kf bb)), iv ei, own_lv (0 : Int64), .second, iv (-1 : Int32), iv (-1 : Int32), iv bls0, .unset, .unset, .unset, .unset, .unset] [(.int (0 : Int32))] _
          rw [show sos0 = (0 : Int32) from by rw [hsos0, if_neg hc34, if_neg hc35]] at kt
          exact kt
    refine own_st sg36 ?_
    have sg37 : own_V p e below T18 (mkF m 311 #[iv xk, iv xa, iv xb, iv xc, rv a2, iv fr, iv to, iv oo, iv (own_bi bv), iv (own_bi bw), iv ss, rv a16, iv (own_K b0 b1 b2 kf), iv (own_K b0 b1 b2 (own_kt kf bb)), iv (own_K b0 b1 b2 (own_ko kf bb)), iv ei, own_lv (0 : Int64), .second, iv (-1 : Int32), iv (-1 : Int32), iv bls0, iv sos0, .unset, .unset, .unset, .unset] [(.int (own_bi bv)), (.int to), (.int fr), (.ref a16)]) (mkF m 301 #[iv xk, iv xa, iv xb, iv xc, rv a2, iv fr, iv to, iv oo, iv (own_bi bv), iv (own_bi bw), iv ss, rv a16, iv (own_K b0 b1 b2 kf), iv (own_K b0 b1 b2 (own_kt kf bb)), iv (own_K b0 b1 b2 (own_ko kf bb)), iv ei, own_lv (0 : Int64), .second, iv (-1 : Int32), iv (-1 : Int32), iv bls0, .unset, .unset, .unset, .unset, .unset] [(.int sos0)]) := by
      intro t kt
      refine XS.istore X18.here hx rfl (hb hby at_301) rfl (l' := #[iv xk, iv xa, iv xb, iv xc, rv a2, iv fr, iv to, iv oo, iv (own_bi bv), iv (own_bi bw), iv ss, rv a16, iv (own_K b0 b1 b2 kf), iv (own_K b0 b1 b2 (own_kt kf bb)), iv (own_K b0 b1 b2 (own_ko kf bb)), iv ei, own_lv (0 : Int64), .second, iv (-1 : Int32), iv (-1 : Int32), iv bls0, iv sos0, .unset, .unset, .unset, .unset]) rfl ?_
      show own_S p e below T18 m 303 #[iv xk, iv xa, iv xb, iv xc, rv a2, iv fr, iv to, iv oo, iv (own_bi bv), iv (own_bi bw), iv ss, rv a16, iv (own_K b0 b1 b2 kf), iv (own_K b0 b1 b2 (own_kt kf bb)), iv (own_K b0 b1 b2 (own_ko kf bb)), iv ei, own_lv (0 : Int64), .second, iv (-1 : Int32), iv (-1 : Int32), iv bls0, iv sos0, .unset, .unset, .unset, .unset] [] _
      refine XS.aload X18.here hx rfl (hb hby at_303) rfl rfl ?_
      show own_S p e below T18 m 305 #[iv xk, iv xa, iv xb, iv xc, rv a2, iv fr, iv to, iv oo, iv (own_bi bv), iv (own_bi bw), iv ss, rv a16, iv (own_K b0 b1 b2 kf), iv (own_K b0 b1 b2 (own_kt kf bb)), iv (own_K b0 b1 b2 (own_ko kf bb)), iv ei, own_lv (0 : Int64), .second, iv (-1 : Int32), iv (-1 : Int32), iv bls0, iv sos0, .unset, .unset, .unset, .unset] [(.ref a16)] _
      refine XS.iload X18.here hx rfl (hb hby at_305) rfl ?_
      show own_S p e below T18 m 307 #[iv xk, iv xa, iv xb, iv xc, rv a2, iv fr, iv to, iv oo, iv (own_bi bv), iv (own_bi bw), iv ss, rv a16, iv (own_K b0 b1 b2 kf), iv (own_K b0 b1 b2 (own_kt kf bb)), iv (own_K b0 b1 b2 (own_ko kf bb)), iv ei, own_lv (0 : Int64), .second, iv (-1 : Int32), iv (-1 : Int32), iv bls0, iv sos0, .unset, .unset, .unset, .unset] [(.int fr), (.ref a16)] _
      refine XS.iload X18.here hx rfl (hb hby at_307) rfl ?_
      show own_S p e below T18 m 309 #[iv xk, iv xa, iv xb, iv xc, rv a2, iv fr, iv to, iv oo, iv (own_bi bv), iv (own_bi bw), iv ss, rv a16, iv (own_K b0 b1 b2 kf), iv (own_K b0 b1 b2 (own_kt kf bb)), iv (own_K b0 b1 b2 (own_ko kf bb)), iv ei, own_lv (0 : Int64), .second, iv (-1 : Int32), iv (-1 : Int32), iv bls0, iv sos0, .unset, .unset, .unset, .unset] [(.int to), (.int fr), (.ref a16)] _
      refine XS.iload X18.here hx rfl (hb hby at_309) rfl ?_
      show own_S p e below T18 m 311 #[iv xk, iv xa, iv xb, iv xc, rv a2, iv fr, iv to, iv oo, iv (own_bi bv), iv (own_bi bw), iv ss, rv a16, iv (own_K b0 b1 b2 kf), iv (own_K b0 b1 b2 (own_kt kf bb)), iv (own_K b0 b1 b2 (own_ko kf bb)), iv ei, own_lv (0 : Int64), .second, iv (-1 : Int32), iv (-1 : Int32), iv bls0, iv sos0, .unset, .unset, .unset, .unset] [(.int (own_bi bv)), (.int to), (.int fr), (.ref a16)] _
      exact kt
    refine own_st sg37 ?_
    obtain ⟨_, T38, L38, X38, hQ38, st38⟩ := own_callV (y := (⟨"com/example/kingsround/kingsround/engine/Deliveries", "put", "(III)Z"⟩ : MethodName)) (y0 := (⟨"com/example/kingsround/kingsround/engine/Deliveries", "put", "(III)Z"⟩ : MethodName)) (a := a16) (C := "com/example/kingsround/kingsround/engine/Deliveries") X18 hx hZ hown HD.1 (hw _ (List.mem_of_getElem? (i := 77) rfl)) (hw _ (List.mem_of_getElem? (i := 78) rfl)) (hw _ (List.mem_of_getElem? (i := 80) rfl)) (notFace_of_selects (args := #[]) (mvT hZ (hw _ (List.mem_of_getElem? (i := 80) rfl)))) (hw _ (List.mem_of_getElem? (i := 79) rfl)) (hw _ (List.mem_of_getElem? (i := 4) rfl)) (hw _ (List.mem_of_getElem? (i := 81) rfl)) (by decide) (own_rmput l Z a0 hw a16 fr to (own_bi bv) ib kp ta ob q r (own_K b0 b1 b2) (fun _ => -1) (fun _ => 0) (fun _ _ => -1) 0 kf (own_kt kf bb) T18.heap n0 Z18 HA HD hkf hkt hf3 ht3) rfl (g := (mkF m 311 #[iv xk, iv xa, iv xb, iv xc, rv a2, iv fr, iv to, iv oo, iv (own_bi bv), iv (own_bi bw), iv ss, rv a16, iv (own_K b0 b1 b2 kf), iv (own_K b0 b1 b2 (own_kt kf bb)), iv (own_K b0 b1 b2 (own_ko kf bb)), iv ei, own_lv (0 : Int64), .second, iv (-1 : Int32), iv (-1 : Int32), iv bls0, iv sos0, .unset, .unset, .unset, .unset] [(.int (own_bi bv)), (.int to), (.int fr), (.ref a16)])) rfl (by rw [hml]; rfl) (argsL := [(.int fr), (.int to), (.int (own_bi bv))]) (rest := []) (lenOf own_pd7 rfl) rfl (W := 0) (by show 2 * 0 + _ ≤ _; exact Nat.le_of_eq rfl) (hb hby at_311) (by decide) (by decide) (by decide) (by decide)
    obtain ⟨rfl, Nq38, Sz38, HD38⟩ := hQ38
    refine own_st st38 ?_
    have Z38 : n0 ≤ T38.heap.size := Nat.le_trans Z18 Sz38
    have N38 := Fr.app N18 Nq38
    show own_Go p e below _ T38 (mkF m 314 #[iv xk, iv xa, iv xb, iv xc, rv a2, iv fr, iv to, iv oo, iv (own_bi bv), iv (own_bi bw), iv ss, rv a16, iv (own_K b0 b1 b2 kf), iv (own_K b0 b1 b2 (own_kt kf bb)), iv (own_K b0 b1 b2 (own_ko kf bb)), iv ei, own_lv (0 : Int64), .second, iv (-1 : Int32), iv (-1 : Int32), iv bls0, iv sos0, .unset, .unset, .unset, .unset] [(.int (own_pr (own_K b0 b1 b2) (fun _ => -1) (fun _ _ => -1) kf (own_kt kf bb)))])
    obtain ⟨pls0, hpls0⟩ : ∃ z : Int64, z = (if sos0 = (0 : Int32) then (0 : Int64) else (1 : Int64)) := ⟨_, rfl⟩
    have sg40 : own_V p e below T38 (mkF m 328 #[iv xk, iv xa, iv xb, iv xc, rv a2, iv fr, iv to, iv oo, iv (own_bi bv), iv (own_bi bw), iv ss, rv a16, iv (own_K b0 b1 b2 kf), iv (own_K b0 b1 b2 (own_kt kf bb)), iv (own_K b0 b1 b2 (own_ko kf bb)), iv ei, own_lv (0 : Int64), .second, iv (-1 : Int32), iv (-1 : Int32), iv bls0, iv sos0, iv (own_pr (own_K b0 b1 b2) (fun _ => -1) (fun _ _ => -1) kf (own_kt kf bb)), .unset, .unset, .unset] [(.long pls0), (.long (0 : Int64))]) (mkF m 314 #[iv xk, iv xa, iv xb, iv xc, rv a2, iv fr, iv to, iv oo, iv (own_bi bv), iv (own_bi bw), iv ss, rv a16, iv (own_K b0 b1 b2 kf), iv (own_K b0 b1 b2 (own_kt kf bb)), iv (own_K b0 b1 b2 (own_ko kf bb)), iv ei, own_lv (0 : Int64), .second, iv (-1 : Int32), iv (-1 : Int32), iv bls0, iv sos0, .unset, .unset, .unset, .unset] [(.int (own_pr (own_K b0 b1 b2) (fun _ => -1) (fun _ _ => -1) kf (own_kt kf bb)))]) := by
      intro t kt
      refine XS.istore X38.here hx rfl (hb hby at_314) rfl (l' := #[iv xk, iv xa, iv xb, iv xc, rv a2, iv fr, iv to, iv oo, iv (own_bi bv), iv (own_bi bw), iv ss, rv a16, iv (own_K b0 b1 b2 kf), iv (own_K b0 b1 b2 (own_kt kf bb)), iv (own_K b0 b1 b2 (own_ko kf bb)), iv ei, own_lv (0 : Int64), .second, iv (-1 : Int32), iv (-1 : Int32), iv bls0, iv sos0, iv (own_pr (own_K b0 b1 b2) (fun _ => -1) (fun _ _ => -1) kf (own_kt kf bb)), .unset, .unset, .unset]) rfl ?_
      show own_S p e below T38 m 316 #[iv xk, iv xa, iv xb, iv xc, rv a2, iv fr, iv to, iv oo, iv (own_bi bv), iv (own_bi bw), iv ss, rv a16, iv (own_K b0 b1 b2 kf), iv (own_K b0 b1 b2 (own_kt kf bb)), iv (own_K b0 b1 b2 (own_ko kf bb)), iv ei, own_lv (0 : Int64), .second, iv (-1 : Int32), iv (-1 : Int32), iv bls0, iv sos0, iv (own_pr (own_K b0 b1 b2) (fun _ => -1) (fun _ _ => -1) kf (own_kt kf bb)), .unset, .unset, .unset] [] _
      refine XS.lload X38.here hx rfl (hb hby at_316) rfl ?_
      show own_S p e below T38 m 318 #[iv xk, iv xa, iv xb, iv xc, rv a2, iv fr, iv to, iv oo, iv (own_bi bv), iv (own_bi bw), iv ss, rv a16, iv (own_K b0 b1 b2 kf), iv (own_K b0 b1 b2 (own_kt kf bb)), iv (own_K b0 b1 b2 (own_ko kf bb)), iv ei, own_lv (0 : Int64), .second, iv (-1 : Int32), iv (-1 : Int32), iv bls0, iv sos0, iv (own_pr (own_K b0 b1 b2) (fun _ => -1) (fun _ _ => -1) kf (own_kt kf bb)), .unset, .unset, .unset] [(.long (0 : Int64))] _
      refine XS.iload X38.here hx rfl (hb hby at_318) rfl ?_
      show own_S p e below T38 m 320 #[iv xk, iv xa, iv xb, iv xc, rv a2, iv fr, iv to, iv oo, iv (own_bi bv), iv (own_bi bw), iv ss, rv a16, iv (own_K b0 b1 b2 kf), iv (own_K b0 b1 b2 (own_kt kf bb)), iv (own_K b0 b1 b2 (own_ko kf bb)), iv ei, own_lv (0 : Int64), .second, iv (-1 : Int32), iv (-1 : Int32), iv bls0, iv sos0, iv (own_pr (own_K b0 b1 b2) (fun _ => -1) (fun _ _ => -1) kf (own_kt kf bb)), .unset, .unset, .unset] [(.int sos0), (.long (0 : Int64))] _
      by_cases hc39 : sos0 = (0 : Int32)
      · refine XS.ifYes X38.here hx rfl (pc0 := 320) (pc' := 327) rfl (hb hby at_320) rfl ((if0 _ _).trans (teq hc39).1) (by decide) (by decide) ?_
        show own_S p e below T38 m 327 #[iv xk, iv xa, iv xb, iv xc, rv a2, iv fr, iv to, iv oo, iv (own_bi bv), iv (own_bi bw), iv ss, rv a16, iv (own_K b0 b1 b2 kf), iv (own_K b0 b1 b2 (own_kt kf bb)), iv (own_K b0 b1 b2 (own_ko kf bb)), iv ei, own_lv (0 : Int64), .second, iv (-1 : Int32), iv (-1 : Int32), iv bls0, iv sos0, iv (own_pr (own_K b0 b1 b2) (fun _ => -1) (fun _ _ => -1) kf (own_kt kf bb)), .unset, .unset, .unset] [(.long (0 : Int64))] _
        refine XS.lconst X38.here hx rfl (hb hby at_327) ?_
        show own_S p e below T38 m 328 #[iv xk, iv xa, iv xb, iv xc, rv a2, iv fr, iv to, iv oo, iv (own_bi bv), iv (own_bi bw), iv ss, rv a16, iv (own_K b0 b1 b2 kf), iv (own_K b0 b1 b2 (own_kt kf bb)), iv (own_K b0 b1 b2 (own_ko kf bb)), iv ei, own_lv (0 : Int64), .second, iv (-1 : Int32), iv (-1 : Int32), iv bls0, iv sos0, iv (own_pr (own_K b0 b1 b2) (fun _ => -1) (fun _ _ => -1) kf (own_kt kf bb)), .unset, .unset, .unset] [(.long (0 : Int64)), (.long (0 : Int64))] _
        rw [show pls0 = (0 : Int64) from by rw [hpls0, if_pos hc39]] at kt
        exact kt
      · refine XS.ifNo X38.here hx rfl (hb hby at_320) rfl ((if0 _ _).trans (feq hc39).1) ?_
        show own_S p e below T38 m 323 #[iv xk, iv xa, iv xb, iv xc, rv a2, iv fr, iv to, iv oo, iv (own_bi bv), iv (own_bi bw), iv ss, rv a16, iv (own_K b0 b1 b2 kf), iv (own_K b0 b1 b2 (own_kt kf bb)), iv (own_K b0 b1 b2 (own_ko kf bb)), iv ei, own_lv (0 : Int64), .second, iv (-1 : Int32), iv (-1 : Int32), iv bls0, iv sos0, iv (own_pr (own_K b0 b1 b2) (fun _ => -1) (fun _ _ => -1) kf (own_kt kf bb)), .unset, .unset, .unset] [(.long (0 : Int64))] _
        refine XS.lconst X38.here hx rfl (hb hby at_323) ?_
        show own_S p e below T38 m 324 #[iv xk, iv xa, iv xb, iv xc, rv a2, iv fr, iv to, iv oo, iv (own_bi bv), iv (own_bi bw), iv ss, rv a16, iv (own_K b0 b1 b2 kf), iv (own_K b0 b1 b2 (own_kt kf bb)), iv (own_K b0 b1 b2 (own_ko kf bb)), iv ei, own_lv (0 : Int64), .second, iv (-1 : Int32), iv (-1 : Int32), iv bls0, iv sos0, iv (own_pr (own_K b0 b1 b2) (fun _ => -1) (fun _ _ => -1) kf (own_kt kf bb)), .unset, .unset, .unset] [(.long (1 : Int64)), (.long (0 : Int64))] _
        refine XS.goto X38.here hx rfl (pc0 := 324) (pc' := 328) rfl (hb hby at_324) (by decide) (by decide) ?_
        show own_S p e below T38 m 328 #[iv xk, iv xa, iv xb, iv xc, rv a2, iv fr, iv to, iv oo, iv (own_bi bv), iv (own_bi bw), iv ss, rv a16, iv (own_K b0 b1 b2 kf), iv (own_K b0 b1 b2 (own_kt kf bb)), iv (own_K b0 b1 b2 (own_ko kf bb)), iv ei, own_lv (0 : Int64), .second, iv (-1 : Int32), iv (-1 : Int32), iv bls0, iv sos0, iv (own_pr (own_K b0 b1 b2) (fun _ => -1) (fun _ _ => -1) kf (own_kt kf bb)), .unset, .unset, .unset] [(.long (1 : Int64)), (.long (0 : Int64))] _
        rw [show pls0 = (1 : Int64) from by rw [hpls0, if_neg hc39]] at kt
        exact kt
    refine own_st sg40 ?_
    obtain ⟨ecs0, hecs0⟩ : ∃ z : Int64, z = ((0 : Int64) + pls0) := ⟨_, rfl⟩
    obtain ⟨efts0, hefts0⟩ : ∃ z : Int32, z = (if sos0 = (0 : Int32) then (-1 : Int32) else (own_bi bv)) := ⟨_, rfl⟩
    have sg42 : own_V p e below T38 (mkF m 343 #[iv xk, iv xa, iv xb, iv xc, rv a2, iv fr, iv to, iv oo, iv (own_bi bv), iv (own_bi bw), iv ss, rv a16, iv (own_K b0 b1 b2 kf), iv (own_K b0 b1 b2 (own_kt kf bb)), iv (own_K b0 b1 b2 (own_ko kf bb)), iv ei, own_lv (0 : Int64), .second, iv (-1 : Int32), iv (-1 : Int32), iv bls0, iv sos0, iv (own_pr (own_K b0 b1 b2) (fun _ => -1) (fun _ _ => -1) kf (own_kt kf bb)), own_lv ecs0, .second, .unset] [(.int efts0)]) (mkF m 328 #[iv xk, iv xa, iv xb, iv xc, rv a2, iv fr, iv to, iv oo, iv (own_bi bv), iv (own_bi bw), iv ss, rv a16, iv (own_K b0 b1 b2 kf), iv (own_K b0 b1 b2 (own_kt kf bb)), iv (own_K b0 b1 b2 (own_ko kf bb)), iv ei, own_lv (0 : Int64), .second, iv (-1 : Int32), iv (-1 : Int32), iv bls0, iv sos0, iv (own_pr (own_K b0 b1 b2) (fun _ => -1) (fun _ _ => -1) kf (own_kt kf bb)), .unset, .unset, .unset] [(.long pls0), (.long (0 : Int64))]) := by
      intro t kt
      refine XS.ladd X38.here hx rfl (hb hby at_328) rfl ?_
      show own_S p e below T38 m 329 #[iv xk, iv xa, iv xb, iv xc, rv a2, iv fr, iv to, iv oo, iv (own_bi bv), iv (own_bi bw), iv ss, rv a16, iv (own_K b0 b1 b2 kf), iv (own_K b0 b1 b2 (own_kt kf bb)), iv (own_K b0 b1 b2 (own_ko kf bb)), iv ei, own_lv (0 : Int64), .second, iv (-1 : Int32), iv (-1 : Int32), iv bls0, iv sos0, iv (own_pr (own_K b0 b1 b2) (fun _ => -1) (fun _ _ => -1) kf (own_kt kf bb)), .unset, .unset, .unset] [(.long ((0 : Int64) + pls0))] _
      refine XS.lstore X38.here hx rfl (hb hby at_329) rfl (l' := #[iv xk, iv xa, iv xb, iv xc, rv a2, iv fr, iv to, iv oo, iv (own_bi bv), iv (own_bi bw), iv ss, rv a16, iv (own_K b0 b1 b2 kf), iv (own_K b0 b1 b2 (own_kt kf bb)), iv (own_K b0 b1 b2 (own_ko kf bb)), iv ei, own_lv (0 : Int64), .second, iv (-1 : Int32), iv (-1 : Int32), iv bls0, iv sos0, iv (own_pr (own_K b0 b1 b2) (fun _ => -1) (fun _ _ => -1) kf (own_kt kf bb)), own_lv ((0 : Int64) + pls0), .second, .unset]) rfl ?_
      show own_S p e below T38 m 331 #[iv xk, iv xa, iv xb, iv xc, rv a2, iv fr, iv to, iv oo, iv (own_bi bv), iv (own_bi bw), iv ss, rv a16, iv (own_K b0 b1 b2 kf), iv (own_K b0 b1 b2 (own_kt kf bb)), iv (own_K b0 b1 b2 (own_ko kf bb)), iv ei, own_lv (0 : Int64), .second, iv (-1 : Int32), iv (-1 : Int32), iv bls0, iv sos0, iv (own_pr (own_K b0 b1 b2) (fun _ => -1) (fun _ _ => -1) kf (own_kt kf bb)), own_lv ((0 : Int64) + pls0), .second, .unset] [] _
      refine XS.iload X38.here hx rfl (hb hby at_331) rfl ?_
      show own_S p e below T38 m 333 #[iv xk, iv xa, iv xb, iv xc, rv a2, iv fr, iv to, iv oo, iv (own_bi bv), iv (own_bi bw), iv ss, rv a16, iv (own_K b0 b1 b2 kf), iv (own_K b0 b1 b2 (own_kt kf bb)), iv (own_K b0 b1 b2 (own_ko kf bb)), iv ei, own_lv (0 : Int64), .second, iv (-1 : Int32), iv (-1 : Int32), iv bls0, iv sos0, iv (own_pr (own_K b0 b1 b2) (fun _ => -1) (fun _ _ => -1) kf (own_kt kf bb)), own_lv ((0 : Int64) + pls0), .second, .unset] [(.int sos0)] _
      by_cases hc41 : sos0 = (0 : Int32)
      · refine XS.ifYes X38.here hx rfl (pc0 := 333) (pc' := 341) rfl (hb hby at_333) rfl ((if0 _ _).trans (teq hc41).1) (by decide) (by decide) ?_
        show own_S p e below T38 m 341 #[iv xk, iv xa, iv xb, iv xc, rv a2, iv fr, iv to, iv oo, iv (own_bi bv), iv (own_bi bw), iv ss, rv a16, iv (own_K b0 b1 b2 kf), iv (own_K b0 b1 b2 (own_kt kf bb)), iv (own_K b0 b1 b2 (own_ko kf bb)), iv ei, own_lv (0 : Int64), .second, iv (-1 : Int32), iv (-1 : Int32), iv bls0, iv sos0, iv (own_pr (own_K b0 b1 b2) (fun _ => -1) (fun _ _ => -1) kf (own_kt kf bb)), own_lv ((0 : Int64) + pls0), .second, .unset] [] _
        refine XS.iload X38.here hx rfl (hb hby at_341) rfl ?_
        show own_S p e below T38 m 343 #[iv xk, iv xa, iv xb, iv xc, rv a2, iv fr, iv to, iv oo, iv (own_bi bv), iv (own_bi bw), iv ss, rv a16, iv (own_K b0 b1 b2 kf), iv (own_K b0 b1 b2 (own_kt kf bb)), iv (own_K b0 b1 b2 (own_ko kf bb)), iv ei, own_lv (0 : Int64), .second, iv (-1 : Int32), iv (-1 : Int32), iv bls0, iv sos0, iv (own_pr (own_K b0 b1 b2) (fun _ => -1) (fun _ _ => -1) kf (own_kt kf bb)), own_lv ((0 : Int64) + pls0), .second, .unset] [(.int (-1 : Int32))] _
        rw [hecs0] at kt
        rw [show efts0 = (-1 : Int32) from by rw [hefts0, if_pos hc41]] at kt
        exact kt
      · refine XS.ifNo X38.here hx rfl (hb hby at_333) rfl ((if0 _ _).trans (feq hc41).1) ?_
        show own_S p e below T38 m 336 #[iv xk, iv xa, iv xb, iv xc, rv a2, iv fr, iv to, iv oo, iv (own_bi bv), iv (own_bi bw), iv ss, rv a16, iv (own_K b0 b1 b2 kf), iv (own_K b0 b1 b2 (own_kt kf bb)), iv (own_K b0 b1 b2 (own_ko kf bb)), iv ei, own_lv (0 : Int64), .second, iv (-1 : Int32), iv (-1 : Int32), iv bls0, iv sos0, iv (own_pr (own_K b0 b1 b2) (fun _ => -1) (fun _ _ => -1) kf (own_kt kf bb)), own_lv ((0 : Int64) + pls0), .second, .unset] [] _
        refine XS.iload X38.here hx rfl (hb hby at_336) rfl ?_
        show own_S p e below T38 m 338 #[iv xk, iv xa, iv xb, iv xc, rv a2, iv fr, iv to, iv oo, iv (own_bi bv), iv (own_bi bw), iv ss, rv a16, iv (own_K b0 b1 b2 kf), iv (own_K b0 b1 b2 (own_kt kf bb)), iv (own_K b0 b1 b2 (own_ko kf bb)), iv ei, own_lv (0 : Int64), .second, iv (-1 : Int32), iv (-1 : Int32), iv bls0, iv sos0, iv (own_pr (own_K b0 b1 b2) (fun _ => -1) (fun _ _ => -1) kf (own_kt kf bb)), own_lv ((0 : Int64) + pls0), .second, .unset] [(.int (own_bi bv))] _
        refine XS.goto X38.here hx rfl (pc0 := 338) (pc' := 343) rfl (hb hby at_338) (by decide) (by decide) ?_
        show own_S p e below T38 m 343 #[iv xk, iv xa, iv xb, iv xc, rv a2, iv fr, iv to, iv oo, iv (own_bi bv), iv (own_bi bw), iv ss, rv a16, iv (own_K b0 b1 b2 kf), iv (own_K b0 b1 b2 (own_kt kf bb)), iv (own_K b0 b1 b2 (own_ko kf bb)), iv ei, own_lv (0 : Int64), .second, iv (-1 : Int32), iv (-1 : Int32), iv bls0, iv sos0, iv (own_pr (own_K b0 b1 b2) (fun _ => -1) (fun _ _ => -1) kf (own_kt kf bb)), own_lv ((0 : Int64) + pls0), .second, .unset] [(.int (own_bi bv))] _
        rw [hecs0] at kt
        rw [show efts0 = (own_bi bv) from by rw [hefts0, if_neg hc41]] at kt
        exact kt
    refine own_st sg42 ?_
    obtain ⟨nbs0, hnbs0⟩ : ∃ z : Int32, z = (if bls0 = (0 : Int32) then (1 : Int32) else (0 : Int32)) := ⟨_, rfl⟩
    have sg44 : own_V p e below T38 (mkF m 357 #[iv xk, iv xa, iv xb, iv xc, rv a2, iv fr, iv to, iv oo, iv (own_bi bv), iv (own_bi bw), iv ss, rv a16, iv (own_K b0 b1 b2 kf), iv (own_K b0 b1 b2 (own_kt kf bb)), iv (own_K b0 b1 b2 (own_ko kf bb)), iv ei, own_lv (0 : Int64), .second, iv (-1 : Int32), iv (-1 : Int32), iv bls0, iv sos0, iv (own_pr (own_K b0 b1 b2) (fun _ => -1) (fun _ _ => -1) kf (own_kt kf bb)), own_lv ecs0, .second, iv efts0] [(.int nbs0), (.int (own_pr (own_K b0 b1 b2) (fun _ => -1) (fun _ _ => -1) kf (own_kt kf bb)))]) (mkF m 343 #[iv xk, iv xa, iv xb, iv xc, rv a2, iv fr, iv to, iv oo, iv (own_bi bv), iv (own_bi bw), iv ss, rv a16, iv (own_K b0 b1 b2 kf), iv (own_K b0 b1 b2 (own_kt kf bb)), iv (own_K b0 b1 b2 (own_ko kf bb)), iv ei, own_lv (0 : Int64), .second, iv (-1 : Int32), iv (-1 : Int32), iv bls0, iv sos0, iv (own_pr (own_K b0 b1 b2) (fun _ => -1) (fun _ _ => -1) kf (own_kt kf bb)), own_lv ecs0, .second, .unset] [(.int efts0)]) := by
      intro t kt
      refine XS.istore X38.here hx rfl (hb hby at_343) rfl (l' := #[iv xk, iv xa, iv xb, iv xc, rv a2, iv fr, iv to, iv oo, iv (own_bi bv), iv (own_bi bw), iv ss, rv a16, iv (own_K b0 b1 b2 kf), iv (own_K b0 b1 b2 (own_kt kf bb)), iv (own_K b0 b1 b2 (own_ko kf bb)), iv ei, own_lv (0 : Int64), .second, iv (-1 : Int32), iv (-1 : Int32), iv bls0, iv sos0, iv (own_pr (own_K b0 b1 b2) (fun _ => -1) (fun _ _ => -1) kf (own_kt kf bb)), own_lv ecs0, .second, iv efts0]) rfl ?_
      show own_S p e below T38 m 345 #[iv xk, iv xa, iv xb, iv xc, rv a2, iv fr, iv to, iv oo, iv (own_bi bv), iv (own_bi bw), iv ss, rv a16, iv (own_K b0 b1 b2 kf), iv (own_K b0 b1 b2 (own_kt kf bb)), iv (own_K b0 b1 b2 (own_ko kf bb)), iv ei, own_lv (0 : Int64), .second, iv (-1 : Int32), iv (-1 : Int32), iv bls0, iv sos0, iv (own_pr (own_K b0 b1 b2) (fun _ => -1) (fun _ _ => -1) kf (own_kt kf bb)), own_lv ecs0, .second, iv efts0] [] _
      refine XS.iload X38.here hx rfl (hb hby at_345) rfl ?_
      show own_S p e below T38 m 347 #[iv xk, iv xa, iv xb, iv xc, rv a2, iv fr, iv to, iv oo, iv (own_bi bv), iv (own_bi bw), iv ss, rv a16, iv (own_K b0 b1 b2 kf), iv (own_K b0 b1 b2 (own_kt kf bb)), iv (own_K b0 b1 b2 (own_ko kf bb)), iv ei, own_lv (0 : Int64), .second, iv (-1 : Int32), iv (-1 : Int32), iv bls0, iv sos0, iv (own_pr (own_K b0 b1 b2) (fun _ => -1) (fun _ _ => -1) kf (own_kt kf bb)), own_lv ecs0, .second, iv efts0] [(.int (own_pr (own_K b0 b1 b2) (fun _ => -1) (fun _ _ => -1) kf (own_kt kf bb)))] _
      refine XS.iload X38.here hx rfl (hb hby at_347) rfl ?_
      show own_S p e below T38 m 349 #[iv xk, iv xa, iv xb, iv xc, rv a2, iv fr, iv to, iv oo, iv (own_bi bv), iv (own_bi bw), iv ss, rv a16, iv (own_K b0 b1 b2 kf), iv (own_K b0 b1 b2 (own_kt kf bb)), iv (own_K b0 b1 b2 (own_ko kf bb)), iv ei, own_lv (0 : Int64), .second, iv (-1 : Int32), iv (-1 : Int32), iv bls0, iv sos0, iv (own_pr (own_K b0 b1 b2) (fun _ => -1) (fun _ _ => -1) kf (own_kt kf bb)), own_lv ecs0, .second, iv efts0] [(.int bls0), (.int (own_pr (own_K b0 b1 b2) (fun _ => -1) (fun _ _ => -1) kf (own_kt kf bb)))] _
      by_cases hc43 : bls0 = (0 : Int32)
      · refine XS.ifNo X38.here hx rfl (hb hby at_349) rfl ((if0 _ _).trans (teq hc43).2) ?_
        show own_S p e below T38 m 352 #[iv xk, iv xa, iv xb, iv xc, rv a2, iv fr, iv to, iv oo, iv (own_bi bv), iv (own_bi bw), iv ss, rv a16, iv (own_K b0 b1 b2 kf), iv (own_K b0 b1 b2 (own_kt kf bb)), iv (own_K b0 b1 b2 (own_ko kf bb)), iv ei, own_lv (0 : Int64), .second, iv (-1 : Int32), iv (-1 : Int32), iv bls0, iv sos0, iv (own_pr (own_K b0 b1 b2) (fun _ => -1) (fun _ _ => -1) kf (own_kt kf bb)), own_lv ecs0, .second, iv efts0] [(.int (own_pr (own_K b0 b1 b2) (fun _ => -1) (fun _ _ => -1) kf (own_kt kf bb)))] _
        refine XS.iconst X38.here hx rfl (hb hby at_352) ?_
        show own_S p e below T38 m 353 #[iv xk, iv xa, iv xb, iv xc, rv a2, iv fr, iv to, iv oo, iv (own_bi bv), iv (own_bi bw), iv ss, rv a16, iv (own_K b0 b1 b2 kf), iv (own_K b0 b1 b2 (own_kt kf bb)), iv (own_K b0 b1 b2 (own_ko kf bb)), iv ei, own_lv (0 : Int64), .second, iv (-1 : Int32), iv (-1 : Int32), iv bls0, iv sos0, iv (own_pr (own_K b0 b1 b2) (fun _ => -1) (fun _ _ => -1) kf (own_kt kf bb)), own_lv ecs0, .second, iv efts0] [(.int (1 : Int32)), (.int (own_pr (own_K b0 b1 b2) (fun _ => -1) (fun _ _ => -1) kf (own_kt kf bb)))] _
        refine XS.goto X38.here hx rfl (pc0 := 353) (pc' := 357) rfl (hb hby at_353) (by decide) (by decide) ?_
        show own_S p e below T38 m 357 #[iv xk, iv xa, iv xb, iv xc, rv a2, iv fr, iv to, iv oo, iv (own_bi bv), iv (own_bi bw), iv ss, rv a16, iv (own_K b0 b1 b2 kf), iv (own_K b0 b1 b2 (own_kt kf bb)), iv (own_K b0 b1 b2 (own_ko kf bb)), iv ei, own_lv (0 : Int64), .second, iv (-1 : Int32), iv (-1 : Int32), iv bls0, iv sos0, iv (own_pr (own_K b0 b1 b2) (fun _ => -1) (fun _ _ => -1) kf (own_kt kf bb)), own_lv ecs0, .second, iv efts0] [(.int (1 : Int32)), (.int (own_pr (own_K b0 b1 b2) (fun _ => -1) (fun _ _ => -1) kf (own_kt kf bb)))] _
        rw [show nbs0 = (1 : Int32) from by rw [hnbs0, if_pos hc43]] at kt
        exact kt
      · refine XS.ifYes X38.here hx rfl (pc0 := 349) (pc' := 356) rfl (hb hby at_349) rfl ((if0 _ _).trans (feq hc43).2) (by decide) (by decide) ?_
        show own_S p e below T38 m 356 #[iv xk, iv xa, iv xb, iv xc, rv a2, iv fr, iv to, iv oo, iv (own_bi bv), iv (own_bi bw), iv ss, rv a16, iv (own_K b0 b1 b2 kf), iv (own_K b0 b1 b2 (own_kt kf bb)), iv (own_K b0 b1 b2 (own_ko kf bb)), iv ei, own_lv (0 : Int64), .second, iv (-1 : Int32), iv (-1 : Int32), iv bls0, iv sos0, iv (own_pr (own_K b0 b1 b2) (fun _ => -1) (fun _ _ => -1) kf (own_kt kf bb)), own_lv ecs0, .second, iv efts0] [(.int (own_pr (own_K b0 b1 b2) (fun _ => -1) (fun _ _ => -1) kf (own_kt kf bb)))] _
        refine XS.iconst X38.here hx rfl (hb hby at_356) ?_
        show own_S p e below T38 m 357 #[iv xk, iv xa, iv xb, iv xc, rv a2, iv fr, iv to, iv oo, iv (own_bi bv), iv (own_bi bw), iv ss, rv a16, iv (own_K b0 b1 b2 kf), iv (own_K b0 b1 b2 (own_kt kf bb)), iv (own_K b0 b1 b2 (own_ko kf bb)), iv ei, own_lv (0 : Int64), .second, iv (-1 : Int32), iv (-1 : Int32), iv bls0, iv sos0, iv (own_pr (own_K b0 b1 b2) (fun _ => -1) (fun _ _ => -1) kf (own_kt kf bb)), own_lv ecs0, .second, iv efts0] [(.int (0 : Int32)), (.int (own_pr (own_K b0 b1 b2) (fun _ => -1) (fun _ _ => -1) kf (own_kt kf bb)))] _
        rw [show nbs0 = (0 : Int32) from by rw [hnbs0, if_neg hc43]] at kt
        exact kt
    refine own_st sg44 ?_
    have FINs0 := own_fins0 b0 b1 b2 ⟨kf, hf3⟩ bb bv bw
    have hd_ei : ei = own_f_ei b0 b1 b2 kf bb bv bw := by subst hei; rfl
    have hd_bls0 : bls0 = own_f_bls0 b0 b1 b2 kf bb bv bw := by subst hbls0 hei; rfl
    have hd_sos0 : sos0 = own_f_sos0 b0 b1 b2 kf bb bv bw := by subst hsos0 hbls0 hei; rfl
    have hd_pls0 : pls0 = own_f_pls0 b0 b1 b2 kf bb bv bw := by subst hpls0 hsos0 hbls0 hei; rfl
    have hd_ecs0 : ecs0 = own_f_ecs0 b0 b1 b2 kf bb bv bw := by subst hecs0 hpls0 hsos0 hbls0 hei; rfl
    have hd_efts0 : efts0 = own_f_efts0 b0 b1 b2 kf bb bv bw := by subst hefts0 hecs0 hpls0 hsos0 hbls0 hei; rfl
    have hd_nbs0 : nbs0 = own_f_nbs0 b0 b1 b2 kf bb bv bw := by subst hnbs0 hefts0 hecs0 hpls0 hsos0 hbls0 hei; rfl
    have hc45 : (own_pr (own_K b0 b1 b2) (fun _ => -1) (fun _ _ => -1) kf (own_kt kf bb)) = nbs0 := by rw [hd_nbs0]; exact FINs0.1
    have sg46 : own_V p e below T38 (mkF m 360 #[iv xk, iv xa, iv xb, iv xc, rv a2, iv fr, iv to, iv oo, iv (own_bi bv), iv (own_bi bw), iv ss, rv a16, iv (own_K b0 b1 b2 kf), iv (own_K b0 b1 b2 (own_kt kf bb)), iv (own_K b0 b1 b2 (own_ko kf bb)), iv ei, own_lv (0 : Int64), .second, iv (-1 : Int32), iv (-1 : Int32), iv bls0, iv sos0, iv (own_pr (own_K b0 b1 b2) (fun _ => -1) (fun _ _ => -1) kf (own_kt kf bb)), own_lv ecs0, .second, iv efts0] []) (mkF m 357 #[iv xk, iv xa, iv xb, iv xc, rv a2, iv fr, iv to, iv oo, iv (own_bi bv), iv (own_bi bw), iv ss, rv a16, iv (own_K b0 b1 b2 kf), iv (own_K b0 b1 b2 (own_kt kf bb)), iv (own_K b0 b1 b2 (own_ko kf bb)), iv ei, own_lv (0 : Int64), .second, iv (-1 : Int32), iv (-1 : Int32), iv bls0, iv sos0, iv (own_pr (own_K b0 b1 b2) (fun _ => -1) (fun _ _ => -1) kf (own_kt kf bb)), own_lv ecs0, .second, iv efts0] [(.int nbs0), (.int (own_pr (own_K b0 b1 b2) (fun _ => -1) (fun _ _ => -1) kf (own_kt kf bb)))]) := by
      intro t kt
      refine XS.icmpNo X38.here hx rfl (hb hby at_357) rfl (teq hc45).2 ?_
      exact kt
    refine own_st sg46 ?_
    obtain ⟨v47, hv47⟩ : ∃ z : Int32, z = (own_pr (own_K b0 b1 b2) (fun _ => -1) (fun _ _ => -1) kf (own_kt kf bb)) := ⟨_, rfl⟩
    have sg48 : own_V p e below T38 (mkF m 362 #[iv xk, iv xa, iv xb, iv xc, rv a2, iv fr, iv to, iv oo, iv (own_bi bv), iv (own_bi bw), iv ss, rv a16, iv (own_K b0 b1 b2 kf), iv (own_K b0 b1 b2 (own_kt kf bb)), iv (own_K b0 b1 b2 (own_ko kf bb)), iv ei, own_lv (0 : Int64), .second, iv (-1 : Int32), iv (-1 : Int32), iv bls0, iv sos0, iv v47, own_lv ecs0, .second, iv efts0] [(.ref a16)]) (mkF m 360 #[iv xk, iv xa, iv xb, iv xc, rv a2, iv fr, iv to, iv oo, iv (own_bi bv), iv (own_bi bw), iv ss, rv a16, iv (own_K b0 b1 b2 kf), iv (own_K b0 b1 b2 (own_kt kf bb)), iv (own_K b0 b1 b2 (own_ko kf bb)), iv ei, own_lv (0 : Int64), .second, iv (-1 : Int32), iv (-1 : Int32), iv bls0, iv sos0, iv (own_pr (own_K b0 b1 b2) (fun _ => -1) (fun _ _ => -1) kf (own_kt kf bb)), own_lv ecs0, .second, iv efts0] []) := by
      intro t kt
      refine XS.aload X38.here hx rfl (hb hby at_360) rfl rfl ?_
      show own_S p e below T38 m 362 #[iv xk, iv xa, iv xb, iv xc, rv a2, iv fr, iv to, iv oo, iv (own_bi bv), iv (own_bi bw), iv ss, rv a16, iv (own_K b0 b1 b2 kf), iv (own_K b0 b1 b2 (own_kt kf bb)), iv (own_K b0 b1 b2 (own_ko kf bb)), iv ei, own_lv (0 : Int64), .second, iv (-1 : Int32), iv (-1 : Int32), iv bls0, iv sos0, iv (own_pr (own_K b0 b1 b2) (fun _ => -1) (fun _ _ => -1) kf (own_kt kf bb)), own_lv ecs0, .second, iv efts0] [(.ref a16)] _
      rw [hv47] at kt
      exact kt
    refine own_st sg48 ?_
    obtain ⟨_, T49, L49, X49, hQ49, st49⟩ := own_callV (y := (⟨"com/example/kingsround/kingsround/engine/Deliveries", "count", "()J"⟩ : MethodName)) (y0 := (⟨"com/example/kingsround/kingsround/engine/Deliveries", "count", "()J"⟩ : MethodName)) (a := a16) (C := "com/example/kingsround/kingsround/engine/Deliveries") X38 hx hZ hown HD38.1 (hw _ (List.mem_of_getElem? (i := 82) rfl)) (hw _ (List.mem_of_getElem? (i := 83) rfl)) (hw _ (List.mem_of_getElem? (i := 85) rfl)) (notFace_of_selects (args := #[]) (mvT hZ (hw _ (List.mem_of_getElem? (i := 85) rfl)))) (hw _ (List.mem_of_getElem? (i := 84) rfl)) (hw _ (List.mem_of_getElem? (i := 4) rfl)) (hw _ (List.mem_of_getElem? (i := 86) rfl)) (by decide) (own_rmcnt l Z a0 hw a16  ib kp ta ob q r (own_K b0 b1 b2) (fun _ => -1) (own_pO (own_K b0 b1 b2) (fun _ => -1) (fun _ => 0) (fun _ _ => -1) kf (own_kt kf bb)) (own_pR (own_K b0 b1 b2) (fun _ => -1) (fun _ _ => -1) kf (own_kt kf bb) (own_bi bv)) (own_pc (own_K b0 b1 b2) (fun _ => -1) (fun _ _ => -1) kf (own_kt kf bb) 0)  T38.heap n0 Z38 HA HD38 ) rfl (g := (mkF m 362 #[iv xk, iv xa, iv xb, iv xc, rv a2, iv fr, iv to, iv oo, iv (own_bi bv), iv (own_bi bw), iv ss, rv a16, iv (own_K b0 b1 b2 kf), iv (own_K b0 b1 b2 (own_kt kf bb)), iv (own_K b0 b1 b2 (own_ko kf bb)), iv ei, own_lv (0 : Int64), .second, iv (-1 : Int32), iv (-1 : Int32), iv bls0, iv sos0, iv v47, own_lv ecs0, .second, iv efts0] [(.ref a16)])) rfl (by rw [hml]; rfl) (argsL := []) (rest := []) (lenOf own_pd8 rfl) rfl (W := 0) (by show 2 * 0 + _ ≤ _; exact Nat.le_of_eq rfl) (hb hby at_362) (by decide) (by decide) (by decide) (by decide)
    obtain ⟨rfl, Nq49, e49⟩ := hQ49
    refine own_st st49 ?_
    have N49 := Fr.app N38 Nq49
    show own_Go p e below _ T49 (mkF m 365 #[iv xk, iv xa, iv xb, iv xc, rv a2, iv fr, iv to, iv oo, iv (own_bi bv), iv (own_bi bw), iv ss, rv a16, iv (own_K b0 b1 b2 kf), iv (own_K b0 b1 b2 (own_kt kf bb)), iv (own_K b0 b1 b2 (own_ko kf bb)), iv ei, own_lv (0 : Int64), .second, iv (-1 : Int32), iv (-1 : Int32), iv bls0, iv sos0, iv v47, own_lv ecs0, .second, iv efts0] [(.long (own_pc (own_K b0 b1 b2) (fun _ => -1) (fun _ _ => -1) kf (own_kt kf bb) 0))])
    have sg50 : own_V p e below T49 (mkF m 368 #[iv xk, iv xa, iv xb, iv xc, rv a2, iv fr, iv to, iv oo, iv (own_bi bv), iv (own_bi bw), iv ss, rv a16, iv (own_K b0 b1 b2 kf), iv (own_K b0 b1 b2 (own_kt kf bb)), iv (own_K b0 b1 b2 (own_ko kf bb)), iv ei, own_lv (0 : Int64), .second, iv (-1 : Int32), iv (-1 : Int32), iv bls0, iv sos0, iv v47, own_lv ecs0, .second, iv efts0] [(.int (lcmpW (own_pc (own_K b0 b1 b2) (fun _ => -1) (fun _ _ => -1) kf (own_kt kf bb) 0) ecs0))]) (mkF m 365 #[iv xk, iv xa, iv xb, iv xc, rv a2, iv fr, iv to, iv oo, iv (own_bi bv), iv (own_bi bw), iv ss, rv a16, iv (own_K b0 b1 b2 kf), iv (own_K b0 b1 b2 (own_kt kf bb)), iv (own_K b0 b1 b2 (own_ko kf bb)), iv ei, own_lv (0 : Int64), .second, iv (-1 : Int32), iv (-1 : Int32), iv bls0, iv sos0, iv v47, own_lv ecs0, .second, iv efts0] [(.long (own_pc (own_K b0 b1 b2) (fun _ => -1) (fun _ _ => -1) kf (own_kt kf bb) 0))]) := by
      intro t kt
      refine XS.lload X49.here hx rfl (hb hby at_365) rfl ?_
      show own_S p e below T49 m 367 #[iv xk, iv xa, iv xb, iv xc, rv a2, iv fr, iv to, iv oo, iv (own_bi bv), iv (own_bi bw), iv ss, rv a16, iv (own_K b0 b1 b2 kf), iv (own_K b0 b1 b2 (own_kt kf bb)), iv (own_K b0 b1 b2 (own_ko kf bb)), iv ei, own_lv (0 : Int64), .second, iv (-1 : Int32), iv (-1 : Int32), iv bls0, iv sos0, iv v47, own_lv ecs0, .second, iv efts0] [(.long ecs0), (.long (own_pc (own_K b0 b1 b2) (fun _ => -1) (fun _ _ => -1) kf (own_kt kf bb) 0))] _
      refine XS.lcmp X49.here hx rfl (hb hby at_367) rfl ?_
      show own_S p e below T49 m 368 #[iv xk, iv xa, iv xb, iv xc, rv a2, iv fr, iv to, iv oo, iv (own_bi bv), iv (own_bi bw), iv ss, rv a16, iv (own_K b0 b1 b2 kf), iv (own_K b0 b1 b2 (own_kt kf bb)), iv (own_K b0 b1 b2 (own_ko kf bb)), iv ei, own_lv (0 : Int64), .second, iv (-1 : Int32), iv (-1 : Int32), iv bls0, iv sos0, iv v47, own_lv ecs0, .second, iv efts0] [(.int (lcmpW (own_pc (own_K b0 b1 b2) (fun _ => -1) (fun _ _ => -1) kf (own_kt kf bb) 0) ecs0))] _
      exact kt
    refine own_st sg50 ?_
    have hc51 : (own_pc (own_K b0 b1 b2) (fun _ => -1) (fun _ _ => -1) kf (own_kt kf bb) 0) = ecs0 := by rw [hd_ecs0]; exact FINs0.2.1
    have sg52 : own_V p e below T49 (mkF m 371 #[iv xk, iv xa, iv xb, iv xc, rv a2, iv fr, iv to, iv oo, iv (own_bi bv), iv (own_bi bw), iv ss, rv a16, iv (own_K b0 b1 b2 kf), iv (own_K b0 b1 b2 (own_kt kf bb)), iv (own_K b0 b1 b2 (own_ko kf bb)), iv ei, own_lv (0 : Int64), .second, iv (-1 : Int32), iv (-1 : Int32), iv bls0, iv sos0, iv v47, own_lv ecs0, .second, iv efts0] []) (mkF m 368 #[iv xk, iv xa, iv xb, iv xc, rv a2, iv fr, iv to, iv oo, iv (own_bi bv), iv (own_bi bw), iv ss, rv a16, iv (own_K b0 b1 b2 kf), iv (own_K b0 b1 b2 (own_kt kf bb)), iv (own_K b0 b1 b2 (own_ko kf bb)), iv ei, own_lv (0 : Int64), .second, iv (-1 : Int32), iv (-1 : Int32), iv bls0, iv sos0, iv v47, own_lv ecs0, .second, iv efts0] [(.int (lcmpW (own_pc (own_K b0 b1 b2) (fun _ => -1) (fun _ _ => -1) kf (own_kt kf bb) 0) ecs0))]) := by
      intro t kt
      refine XS.ifNo X49.here hx rfl (hb hby at_368) rfl (own_teqL hc51).2 ?_
      exact kt
    refine own_st sg52 ?_
    have sg53 : own_V p e below T49 (mkF m 377 #[iv xk, iv xa, iv xb, iv xc, rv a2, iv fr, iv to, iv oo, iv (own_bi bv), iv (own_bi bw), iv ss, rv a16, iv (own_K b0 b1 b2 kf), iv (own_K b0 b1 b2 (own_kt kf bb)), iv (own_K b0 b1 b2 (own_ko kf bb)), iv ei, own_lv (0 : Int64), .second, iv (-1 : Int32), iv (-1 : Int32), iv bls0, iv sos0, iv v47, own_lv ecs0, .second, iv efts0] [(.int to), (.int fr), (.ref a16)]) (mkF m 371 #[iv xk, iv xa, iv xb, iv xc, rv a2, iv fr, iv to, iv oo, iv (own_bi bv), iv (own_bi bw), iv ss, rv a16, iv (own_K b0 b1 b2 kf), iv (own_K b0 b1 b2 (own_kt kf bb)), iv (own_K b0 b1 b2 (own_ko kf bb)), iv ei, own_lv (0 : Int64), .second, iv (-1 : Int32), iv (-1 : Int32), iv bls0, iv sos0, iv v47, own_lv ecs0, .second, iv efts0] []) := by
      intro t kt
      refine XS.aload X49.here hx rfl (hb hby at_371) rfl rfl ?_
      show own_S p e below T49 m 373 #[iv xk, iv xa, iv xb, iv xc, rv a2, iv fr, iv to, iv oo, iv (own_bi bv), iv (own_bi bw), iv ss, rv a16, iv (own_K b0 b1 b2 kf), iv (own_K b0 b1 b2 (own_kt kf bb)), iv (own_K b0 b1 b2 (own_ko kf bb)), iv ei, own_lv (0 : Int64), .second, iv (-1 : Int32), iv (-1 : Int32), iv bls0, iv sos0, iv v47, own_lv ecs0, .second, iv efts0] [(.ref a16)] _
      refine XS.iload X49.here hx rfl (hb hby at_373) rfl ?_
      show own_S p e below T49 m 375 #[iv xk, iv xa, iv xb, iv xc, rv a2, iv fr, iv to, iv oo, iv (own_bi bv), iv (own_bi bw), iv ss, rv a16, iv (own_K b0 b1 b2 kf), iv (own_K b0 b1 b2 (own_kt kf bb)), iv (own_K b0 b1 b2 (own_ko kf bb)), iv ei, own_lv (0 : Int64), .second, iv (-1 : Int32), iv (-1 : Int32), iv bls0, iv sos0, iv v47, own_lv ecs0, .second, iv efts0] [(.int fr), (.ref a16)] _
      refine XS.iload X49.here hx rfl (hb hby at_375) rfl ?_
      show own_S p e below T49 m 377 #[iv xk, iv xa, iv xb, iv xc, rv a2, iv fr, iv to, iv oo, iv (own_bi bv), iv (own_bi bw), iv ss, rv a16, iv (own_K b0 b1 b2 kf), iv (own_K b0 b1 b2 (own_kt kf bb)), iv (own_K b0 b1 b2 (own_ko kf bb)), iv ei, own_lv (0 : Int64), .second, iv (-1 : Int32), iv (-1 : Int32), iv bls0, iv sos0, iv v47, own_lv ecs0, .second, iv efts0] [(.int to), (.int fr), (.ref a16)] _
      exact kt
    refine own_st sg53 ?_
    obtain ⟨_, T54, L54, X54, hQ54, st54⟩ := own_callV (y := (⟨"com/example/kingsround/kingsround/engine/Deliveries", "value", "(II)I"⟩ : MethodName)) (y0 := (⟨"com/example/kingsround/kingsround/engine/Deliveries", "value", "(II)I"⟩ : MethodName)) (a := a16) (C := "com/example/kingsround/kingsround/engine/Deliveries") X49 hx hZ hown HD38.1 (hw _ (List.mem_of_getElem? (i := 89) rfl)) (hw _ (List.mem_of_getElem? (i := 90) rfl)) (hw _ (List.mem_of_getElem? (i := 92) rfl)) (notFace_of_selects (args := #[]) (mvT hZ (hw _ (List.mem_of_getElem? (i := 92) rfl)))) (hw _ (List.mem_of_getElem? (i := 91) rfl)) (hw _ (List.mem_of_getElem? (i := 4) rfl)) (hw _ (List.mem_of_getElem? (i := 93) rfl)) (by decide) (own_rmval l Z a0 hw a16 fr to ib kp ta ob q r (own_K b0 b1 b2) (fun _ => -1) (own_pO (own_K b0 b1 b2) (fun _ => -1) (fun _ => 0) (fun _ _ => -1) kf (own_kt kf bb)) (own_pR (own_K b0 b1 b2) (fun _ => -1) (fun _ _ => -1) kf (own_kt kf bb) (own_bi bv)) (own_pc (own_K b0 b1 b2) (fun _ => -1) (fun _ _ => -1) kf (own_kt kf bb) 0) kf (own_kt kf bb) T38.heap n0 Z38 HA HD38 hkf hkt hf3 ht3) e49 (g := (mkF m 377 #[iv xk, iv xa, iv xb, iv xc, rv a2, iv fr, iv to, iv oo, iv (own_bi bv), iv (own_bi bw), iv ss, rv a16, iv (own_K b0 b1 b2 kf), iv (own_K b0 b1 b2 (own_kt kf bb)), iv (own_K b0 b1 b2 (own_ko kf bb)), iv ei, own_lv (0 : Int64), .second, iv (-1 : Int32), iv (-1 : Int32), iv bls0, iv sos0, iv v47, own_lv ecs0, .second, iv efts0] [(.int to), (.int fr), (.ref a16)])) rfl (by rw [hml]; rfl) (argsL := [(.int fr), (.int to)]) (rest := []) (lenOf own_pd9 rfl) rfl (W := 0) (by show 2 * 0 + _ ≤ _; exact Nat.le_of_eq rfl) (hb hby at_377) (by decide) (by decide) (by decide) (by decide)
    obtain ⟨rfl, Nq54, e54⟩ := hQ54
    refine own_st st54 ?_
    have N54 := Fr.app N49 Nq54
    show own_Go p e below _ T54 (mkF m 380 #[iv xk, iv xa, iv xb, iv xc, rv a2, iv fr, iv to, iv oo, iv (own_bi bv), iv (own_bi bw), iv ss, rv a16, iv (own_K b0 b1 b2 kf), iv (own_K b0 b1 b2 (own_kt kf bb)), iv (own_K b0 b1 b2 (own_ko kf bb)), iv ei, own_lv (0 : Int64), .second, iv (-1 : Int32), iv (-1 : Int32), iv bls0, iv sos0, iv v47, own_lv ecs0, .second, iv efts0] [(.int (own_val (fun _ => -1) (own_pR (own_K b0 b1 b2) (fun _ => -1) (fun _ _ => -1) kf (own_kt kf bb) (own_bi bv)) kf (own_kt kf bb)))])
    have sg55 : own_V p e below T54 (mkF m 382 #[iv xk, iv xa, iv xb, iv xc, rv a2, iv fr, iv to, iv oo, iv (own_bi bv), iv (own_bi bw), iv ss, rv a16, iv (own_K b0 b1 b2 kf), iv (own_K b0 b1 b2 (own_kt kf bb)), iv (own_K b0 b1 b2 (own_ko kf bb)), iv ei, own_lv (0 : Int64), .second, iv (-1 : Int32), iv (-1 : Int32), iv bls0, iv sos0, iv v47, own_lv ecs0, .second, iv efts0] [(.int efts0), (.int (own_val (fun _ => -1) (own_pR (own_K b0 b1 b2) (fun _ => -1) (fun _ _ => -1) kf (own_kt kf bb) (own_bi bv)) kf (own_kt kf bb)))]) (mkF m 380 #[iv xk, iv xa, iv xb, iv xc, rv a2, iv fr, iv to, iv oo, iv (own_bi bv), iv (own_bi bw), iv ss, rv a16, iv (own_K b0 b1 b2 kf), iv (own_K b0 b1 b2 (own_kt kf bb)), iv (own_K b0 b1 b2 (own_ko kf bb)), iv ei, own_lv (0 : Int64), .second, iv (-1 : Int32), iv (-1 : Int32), iv bls0, iv sos0, iv v47, own_lv ecs0, .second, iv efts0] [(.int (own_val (fun _ => -1) (own_pR (own_K b0 b1 b2) (fun _ => -1) (fun _ _ => -1) kf (own_kt kf bb) (own_bi bv)) kf (own_kt kf bb)))]) := by
      intro t kt
      refine XS.iload X54.here hx rfl (hb hby at_380) rfl ?_
      show own_S p e below T54 m 382 #[iv xk, iv xa, iv xb, iv xc, rv a2, iv fr, iv to, iv oo, iv (own_bi bv), iv (own_bi bw), iv ss, rv a16, iv (own_K b0 b1 b2 kf), iv (own_K b0 b1 b2 (own_kt kf bb)), iv (own_K b0 b1 b2 (own_ko kf bb)), iv ei, own_lv (0 : Int64), .second, iv (-1 : Int32), iv (-1 : Int32), iv bls0, iv sos0, iv v47, own_lv ecs0, .second, iv efts0] [(.int efts0), (.int (own_val (fun _ => -1) (own_pR (own_K b0 b1 b2) (fun _ => -1) (fun _ _ => -1) kf (own_kt kf bb) (own_bi bv)) kf (own_kt kf bb)))] _
      exact kt
    refine own_st sg55 ?_
    have hc56 : (own_val (fun _ => -1) (own_pR (own_K b0 b1 b2) (fun _ => -1) (fun _ _ => -1) kf (own_kt kf bb) (own_bi bv)) kf (own_kt kf bb)) = efts0 := by rw [hd_efts0]; exact FINs0.2.2.1
    have sg57 : own_V p e below T54 (mkF m 385 #[iv xk, iv xa, iv xb, iv xc, rv a2, iv fr, iv to, iv oo, iv (own_bi bv), iv (own_bi bw), iv ss, rv a16, iv (own_K b0 b1 b2 kf), iv (own_K b0 b1 b2 (own_kt kf bb)), iv (own_K b0 b1 b2 (own_ko kf bb)), iv ei, own_lv (0 : Int64), .second, iv (-1 : Int32), iv (-1 : Int32), iv bls0, iv sos0, iv v47, own_lv ecs0, .second, iv efts0] []) (mkF m 382 #[iv xk, iv xa, iv xb, iv xc, rv a2, iv fr, iv to, iv oo, iv (own_bi bv), iv (own_bi bw), iv ss, rv a16, iv (own_K b0 b1 b2 kf), iv (own_K b0 b1 b2 (own_kt kf bb)), iv (own_K b0 b1 b2 (own_ko kf bb)), iv ei, own_lv (0 : Int64), .second, iv (-1 : Int32), iv (-1 : Int32), iv bls0, iv sos0, iv v47, own_lv ecs0, .second, iv efts0] [(.int efts0), (.int (own_val (fun _ => -1) (own_pR (own_K b0 b1 b2) (fun _ => -1) (fun _ _ => -1) kf (own_kt kf bb) (own_bi bv)) kf (own_kt kf bb)))]) := by
      intro t kt
      refine XS.icmpNo X54.here hx rfl (hb hby at_382) rfl (teq hc56).2 ?_
      exact kt
    refine own_st sg57 ?_
    have sg58 : own_V p e below T54 (mkF m 391 #[iv xk, iv xa, iv xb, iv xc, rv a2, iv fr, iv to, iv oo, iv (own_bi bv), iv (own_bi bw), iv ss, rv a16, iv (own_K b0 b1 b2 kf), iv (own_K b0 b1 b2 (own_kt kf bb)), iv (own_K b0 b1 b2 (own_ko kf bb)), iv ei, own_lv (0 : Int64), .second, iv (-1 : Int32), iv (-1 : Int32), iv bls0, iv sos0, iv v47, own_lv ecs0, .second, iv efts0] [(.int oo), (.int fr), (.ref a16)]) (mkF m 385 #[iv xk, iv xa, iv xb, iv xc, rv a2, iv fr, iv to, iv oo, iv (own_bi bv), iv (own_bi bw), iv ss, rv a16, iv (own_K b0 b1 b2 kf), iv (own_K b0 b1 b2 (own_kt kf bb)), iv (own_K b0 b1 b2 (own_ko kf bb)), iv ei, own_lv (0 : Int64), .second, iv (-1 : Int32), iv (-1 : Int32), iv bls0, iv sos0, iv v47, own_lv ecs0, .second, iv efts0] []) := by
      intro t kt
      refine XS.aload X54.here hx rfl (hb hby at_385) rfl rfl ?_
      show own_S p e below T54 m 387 #[iv xk, iv xa, iv xb, iv xc, rv a2, iv fr, iv to, iv oo, iv (own_bi bv), iv (own_bi bw), iv ss, rv a16, iv (own_K b0 b1 b2 kf), iv (own_K b0 b1 b2 (own_kt kf bb)), iv (own_K b0 b1 b2 (own_ko kf bb)), iv ei, own_lv (0 : Int64), .second, iv (-1 : Int32), iv (-1 : Int32), iv bls0, iv sos0, iv v47, own_lv ecs0, .second, iv efts0] [(.ref a16)] _
      refine XS.iload X54.here hx rfl (hb hby at_387) rfl ?_
      show own_S p e below T54 m 389 #[iv xk, iv xa, iv xb, iv xc, rv a2, iv fr, iv to, iv oo, iv (own_bi bv), iv (own_bi bw), iv ss, rv a16, iv (own_K b0 b1 b2 kf), iv (own_K b0 b1 b2 (own_kt kf bb)), iv (own_K b0 b1 b2 (own_ko kf bb)), iv ei, own_lv (0 : Int64), .second, iv (-1 : Int32), iv (-1 : Int32), iv bls0, iv sos0, iv v47, own_lv ecs0, .second, iv efts0] [(.int fr), (.ref a16)] _
      refine XS.iload X54.here hx rfl (hb hby at_389) rfl ?_
      show own_S p e below T54 m 391 #[iv xk, iv xa, iv xb, iv xc, rv a2, iv fr, iv to, iv oo, iv (own_bi bv), iv (own_bi bw), iv ss, rv a16, iv (own_K b0 b1 b2 kf), iv (own_K b0 b1 b2 (own_kt kf bb)), iv (own_K b0 b1 b2 (own_ko kf bb)), iv ei, own_lv (0 : Int64), .second, iv (-1 : Int32), iv (-1 : Int32), iv bls0, iv sos0, iv v47, own_lv ecs0, .second, iv efts0] [(.int oo), (.int fr), (.ref a16)] _
      exact kt
    refine own_st sg58 ?_
    obtain ⟨_, T59, L59, X59, hQ59, st59⟩ := own_callV (y := (⟨"com/example/kingsround/kingsround/engine/Deliveries", "value", "(II)I"⟩ : MethodName)) (y0 := (⟨"com/example/kingsround/kingsround/engine/Deliveries", "value", "(II)I"⟩ : MethodName)) (a := a16) (C := "com/example/kingsround/kingsround/engine/Deliveries") X54 hx hZ hown HD38.1 (hw _ (List.mem_of_getElem? (i := 89) rfl)) (hw _ (List.mem_of_getElem? (i := 90) rfl)) (hw _ (List.mem_of_getElem? (i := 92) rfl)) (notFace_of_selects (args := #[]) (mvT hZ (hw _ (List.mem_of_getElem? (i := 92) rfl)))) (hw _ (List.mem_of_getElem? (i := 91) rfl)) (hw _ (List.mem_of_getElem? (i := 4) rfl)) (hw _ (List.mem_of_getElem? (i := 93) rfl)) (by decide) (own_rmval l Z a0 hw a16 fr oo ib kp ta ob q r (own_K b0 b1 b2) (fun _ => -1) (own_pO (own_K b0 b1 b2) (fun _ => -1) (fun _ => 0) (fun _ _ => -1) kf (own_kt kf bb)) (own_pR (own_K b0 b1 b2) (fun _ => -1) (fun _ _ => -1) kf (own_kt kf bb) (own_bi bv)) (own_pc (own_K b0 b1 b2) (fun _ => -1) (fun _ _ => -1) kf (own_kt kf bb) 0) kf (own_ko kf bb) T38.heap n0 Z38 HA HD38 hkf hko hf3 ho3) e54 (g := (mkF m 391 #[iv xk, iv xa, iv xb, iv xc, rv a2, iv fr, iv to, iv oo, iv (own_bi bv), iv (own_bi bw), iv ss, rv a16, iv (own_K b0 b1 b2 kf), iv (own_K b0 b1 b2 (own_kt kf bb)), iv (own_K b0 b1 b2 (own_ko kf bb)), iv ei, own_lv (0 : Int64), .second, iv (-1 : Int32), iv (-1 : Int32), iv bls0, iv sos0, iv v47, own_lv ecs0, .second, iv efts0] [(.int oo), (.int fr), (.ref a16)])) rfl (by rw [hml]; rfl) (argsL := [(.int fr), (.int oo)]) (rest := []) (lenOf own_pd9 rfl) rfl (W := 0) (by show 2 * 0 + _ ≤ _; exact Nat.le_of_eq rfl) (hb hby at_391) (by decide) (by decide) (by decide) (by decide)
    obtain ⟨rfl, Nq59, e59⟩ := hQ59
    refine own_st st59 ?_
    have N59 := Fr.app N54 Nq59
    show own_Go p e below _ T59 (mkF m 394 #[iv xk, iv xa, iv xb, iv xc, rv a2, iv fr, iv to, iv oo, iv (own_bi bv), iv (own_bi bw), iv ss, rv a16, iv (own_K b0 b1 b2 kf), iv (own_K b0 b1 b2 (own_kt kf bb)), iv (own_K b0 b1 b2 (own_ko kf bb)), iv ei, own_lv (0 : Int64), .second, iv (-1 : Int32), iv (-1 : Int32), iv bls0, iv sos0, iv v47, own_lv ecs0, .second, iv efts0] [(.int (own_val (fun _ => -1) (own_pR (own_K b0 b1 b2) (fun _ => -1) (fun _ _ => -1) kf (own_kt kf bb) (own_bi bv)) kf (own_ko kf bb)))])
    have sg60 : own_V p e below T59 (mkF m 396 #[iv xk, iv xa, iv xb, iv xc, rv a2, iv fr, iv to, iv oo, iv (own_bi bv), iv (own_bi bw), iv ss, rv a16, iv (own_K b0 b1 b2 kf), iv (own_K b0 b1 b2 (own_kt kf bb)), iv (own_K b0 b1 b2 (own_ko kf bb)), iv ei, own_lv (0 : Int64), .second, iv (-1 : Int32), iv (-1 : Int32), iv bls0, iv sos0, iv v47, own_lv ecs0, .second, iv efts0] [(.int (-1 : Int32)), (.int (own_val (fun _ => -1) (own_pR (own_K b0 b1 b2) (fun _ => -1) (fun _ _ => -1) kf (own_kt kf bb) (own_bi bv)) kf (own_ko kf bb)))]) (mkF m 394 #[iv xk, iv xa, iv xb, iv xc, rv a2, iv fr, iv to, iv oo, iv (own_bi bv), iv (own_bi bw), iv ss, rv a16, iv (own_K b0 b1 b2 kf), iv (own_K b0 b1 b2 (own_kt kf bb)), iv (own_K b0 b1 b2 (own_ko kf bb)), iv ei, own_lv (0 : Int64), .second, iv (-1 : Int32), iv (-1 : Int32), iv bls0, iv sos0, iv v47, own_lv ecs0, .second, iv efts0] [(.int (own_val (fun _ => -1) (own_pR (own_K b0 b1 b2) (fun _ => -1) (fun _ _ => -1) kf (own_kt kf bb) (own_bi bv)) kf (own_ko kf bb)))]) := by
      intro t kt
      refine XS.iload X59.here hx rfl (hb hby at_394) rfl ?_
      show own_S p e below T59 m 396 #[iv xk, iv xa, iv xb, iv xc, rv a2, iv fr, iv to, iv oo, iv (own_bi bv), iv (own_bi bw), iv ss, rv a16, iv (own_K b0 b1 b2 kf), iv (own_K b0 b1 b2 (own_kt kf bb)), iv (own_K b0 b1 b2 (own_ko kf bb)), iv ei, own_lv (0 : Int64), .second, iv (-1 : Int32), iv (-1 : Int32), iv bls0, iv sos0, iv v47, own_lv ecs0, .second, iv efts0] [(.int (-1 : Int32)), (.int (own_val (fun _ => -1) (own_pR (own_K b0 b1 b2) (fun _ => -1) (fun _ _ => -1) kf (own_kt kf bb) (own_bi bv)) kf (own_ko kf bb)))] _
      exact kt
    refine own_st sg60 ?_
    have hc61 : (own_val (fun _ => -1) (own_pR (own_K b0 b1 b2) (fun _ => -1) (fun _ _ => -1) kf (own_kt kf bb) (own_bi bv)) kf (own_ko kf bb)) = (-1 : Int32) := FINs0.2.2.2.1
    have sg62 : own_V p e below T59 (mkF m 399 #[iv xk, iv xa, iv xb, iv xc, rv a2, iv fr, iv to, iv oo, iv (own_bi bv), iv (own_bi bw), iv ss, rv a16, iv (own_K b0 b1 b2 kf), iv (own_K b0 b1 b2 (own_kt kf bb)), iv (own_K b0 b1 b2 (own_ko kf bb)), iv ei, own_lv (0 : Int64), .second, iv (-1 : Int32), iv (-1 : Int32), iv bls0, iv sos0, iv v47, own_lv ecs0, .second, iv efts0] []) (mkF m 396 #[iv xk, iv xa, iv xb, iv xc, rv a2, iv fr, iv to, iv oo, iv (own_bi bv), iv (own_bi bw), iv ss, rv a16, iv (own_K b0 b1 b2 kf), iv (own_K b0 b1 b2 (own_kt kf bb)), iv (own_K b0 b1 b2 (own_ko kf bb)), iv ei, own_lv (0 : Int64), .second, iv (-1 : Int32), iv (-1 : Int32), iv bls0, iv sos0, iv v47, own_lv ecs0, .second, iv efts0] [(.int (-1 : Int32)), (.int (own_val (fun _ => -1) (own_pR (own_K b0 b1 b2) (fun _ => -1) (fun _ _ => -1) kf (own_kt kf bb) (own_bi bv)) kf (own_ko kf bb)))]) := by
      intro t kt
      refine XS.icmpNo X59.here hx rfl (hb hby at_396) rfl (teq hc61).2 ?_
      exact kt
    refine own_st sg62 ?_
    have sg63 : own_V p e below T59 (mkF m 405 #[iv xk, iv xa, iv xb, iv xc, rv a2, iv fr, iv to, iv oo, iv (own_bi bv), iv (own_bi bw), iv ss, rv a16, iv (own_K b0 b1 b2 kf), iv (own_K b0 b1 b2 (own_kt kf bb)), iv (own_K b0 b1 b2 (own_ko kf bb)), iv ei, own_lv (0 : Int64), .second, iv (-1 : Int32), iv (-1 : Int32), iv bls0, iv sos0, iv v47, own_lv ecs0, .second, iv efts0] [(.int fr), (.int to), (.ref a16)]) (mkF m 399 #[iv xk, iv xa, iv xb, iv xc, rv a2, iv fr, iv to, iv oo, iv (own_bi bv), iv (own_bi bw), iv ss, rv a16, iv (own_K b0 b1 b2 kf), iv (own_K b0 b1 b2 (own_kt kf bb)), iv (own_K b0 b1 b2 (own_ko kf bb)), iv ei, own_lv (0 : Int64), .second, iv (-1 : Int32), iv (-1 : Int32), iv bls0, iv sos0, iv v47, own_lv ecs0, .second, iv efts0] []) := by
      intro t kt
      refine XS.aload X59.here hx rfl (hb hby at_399) rfl rfl ?_
      show own_S p e below T59 m 401 #[iv xk, iv xa, iv xb, iv xc, rv a2, iv fr, iv to, iv oo, iv (own_bi bv), iv (own_bi bw), iv ss, rv a16, iv (own_K b0 b1 b2 kf), iv (own_K b0 b1 b2 (own_kt kf bb)), iv (own_K b0 b1 b2 (own_ko kf bb)), iv ei, own_lv (0 : Int64), .second, iv (-1 : Int32), iv (-1 : Int32), iv bls0, iv sos0, iv v47, own_lv ecs0, .second, iv efts0] [(.ref a16)] _
      refine XS.iload X59.here hx rfl (hb hby at_401) rfl ?_
      show own_S p e below T59 m 403 #[iv xk, iv xa, iv xb, iv xc, rv a2, iv fr, iv to, iv oo, iv (own_bi bv), iv (own_bi bw), iv ss, rv a16, iv (own_K b0 b1 b2 kf), iv (own_K b0 b1 b2 (own_kt kf bb)), iv (own_K b0 b1 b2 (own_ko kf bb)), iv ei, own_lv (0 : Int64), .second, iv (-1 : Int32), iv (-1 : Int32), iv bls0, iv sos0, iv v47, own_lv ecs0, .second, iv efts0] [(.int to), (.ref a16)] _
      refine XS.iload X59.here hx rfl (hb hby at_403) rfl ?_
      show own_S p e below T59 m 405 #[iv xk, iv xa, iv xb, iv xc, rv a2, iv fr, iv to, iv oo, iv (own_bi bv), iv (own_bi bw), iv ss, rv a16, iv (own_K b0 b1 b2 kf), iv (own_K b0 b1 b2 (own_kt kf bb)), iv (own_K b0 b1 b2 (own_ko kf bb)), iv ei, own_lv (0 : Int64), .second, iv (-1 : Int32), iv (-1 : Int32), iv bls0, iv sos0, iv v47, own_lv ecs0, .second, iv efts0] [(.int fr), (.int to), (.ref a16)] _
      exact kt
    refine own_st sg63 ?_
    obtain ⟨_, T64, L64, X64, hQ64, st64⟩ := own_callV (y := (⟨"com/example/kingsround/kingsround/engine/Deliveries", "value", "(II)I"⟩ : MethodName)) (y0 := (⟨"com/example/kingsround/kingsround/engine/Deliveries", "value", "(II)I"⟩ : MethodName)) (a := a16) (C := "com/example/kingsround/kingsround/engine/Deliveries") X59 hx hZ hown HD38.1 (hw _ (List.mem_of_getElem? (i := 89) rfl)) (hw _ (List.mem_of_getElem? (i := 90) rfl)) (hw _ (List.mem_of_getElem? (i := 92) rfl)) (notFace_of_selects (args := #[]) (mvT hZ (hw _ (List.mem_of_getElem? (i := 92) rfl)))) (hw _ (List.mem_of_getElem? (i := 91) rfl)) (hw _ (List.mem_of_getElem? (i := 4) rfl)) (hw _ (List.mem_of_getElem? (i := 93) rfl)) (by decide) (own_rmval l Z a0 hw a16 to fr ib kp ta ob q r (own_K b0 b1 b2) (fun _ => -1) (own_pO (own_K b0 b1 b2) (fun _ => -1) (fun _ => 0) (fun _ _ => -1) kf (own_kt kf bb)) (own_pR (own_K b0 b1 b2) (fun _ => -1) (fun _ _ => -1) kf (own_kt kf bb) (own_bi bv)) (own_pc (own_K b0 b1 b2) (fun _ => -1) (fun _ _ => -1) kf (own_kt kf bb) 0) (own_kt kf bb) kf T38.heap n0 Z38 HA HD38 hkt hkf ht3 hf3) e59 (g := (mkF m 405 #[iv xk, iv xa, iv xb, iv xc, rv a2, iv fr, iv to, iv oo, iv (own_bi bv), iv (own_bi bw), iv ss, rv a16, iv (own_K b0 b1 b2 kf), iv (own_K b0 b1 b2 (own_kt kf bb)), iv (own_K b0 b1 b2 (own_ko kf bb)), iv ei, own_lv (0 : Int64), .second, iv (-1 : Int32), iv (-1 : Int32), iv bls0, iv sos0, iv v47, own_lv ecs0, .second, iv efts0] [(.int fr), (.int to), (.ref a16)])) rfl (by rw [hml]; rfl) (argsL := [(.int to), (.int fr)]) (rest := []) (lenOf own_pd9 rfl) rfl (W := 0) (by show 2 * 0 + _ ≤ _; exact Nat.le_of_eq rfl) (hb hby at_405) (by decide) (by decide) (by decide) (by decide)
    obtain ⟨rfl, Nq64, e64⟩ := hQ64
    refine own_st st64 ?_
    have N64 := Fr.app N59 Nq64
    show own_Go p e below _ T64 (mkF m 408 #[iv xk, iv xa, iv xb, iv xc, rv a2, iv fr, iv to, iv oo, iv (own_bi bv), iv (own_bi bw), iv ss, rv a16, iv (own_K b0 b1 b2 kf), iv (own_K b0 b1 b2 (own_kt kf bb)), iv (own_K b0 b1 b2 (own_ko kf bb)), iv ei, own_lv (0 : Int64), .second, iv (-1 : Int32), iv (-1 : Int32), iv bls0, iv sos0, iv v47, own_lv ecs0, .second, iv efts0] [(.int (own_val (fun _ => -1) (own_pR (own_K b0 b1 b2) (fun _ => -1) (fun _ _ => -1) kf (own_kt kf bb) (own_bi bv)) (own_kt kf bb) kf))])
    have sg65 : own_V p e below T64 (mkF m 409 #[iv xk, iv xa, iv xb, iv xc, rv a2, iv fr, iv to, iv oo, iv (own_bi bv), iv (own_bi bw), iv ss, rv a16, iv (own_K b0 b1 b2 kf), iv (own_K b0 b1 b2 (own_kt kf bb)), iv (own_K b0 b1 b2 (own_ko kf bb)), iv ei, own_lv (0 : Int64), .second, iv (-1 : Int32), iv (-1 : Int32), iv bls0, iv sos0, iv v47, own_lv ecs0, .second, iv efts0] [(.int (-1 : Int32)), (.int (own_val (fun _ => -1) (own_pR (own_K b0 b1 b2) (fun _ => -1) (fun _ _ => -1) kf (own_kt kf bb) (own_bi bv)) (own_kt kf bb) kf))]) (mkF m 408 #[iv xk, iv xa, iv xb, iv xc, rv a2, iv fr, iv to, iv oo, iv (own_bi bv), iv (own_bi bw), iv ss, rv a16, iv (own_K b0 b1 b2 kf), iv (own_K b0 b1 b2 (own_kt kf bb)), iv (own_K b0 b1 b2 (own_ko kf bb)), iv ei, own_lv (0 : Int64), .second, iv (-1 : Int32), iv (-1 : Int32), iv bls0, iv sos0, iv v47, own_lv ecs0, .second, iv efts0] [(.int (own_val (fun _ => -1) (own_pR (own_K b0 b1 b2) (fun _ => -1) (fun _ _ => -1) kf (own_kt kf bb) (own_bi bv)) (own_kt kf bb) kf))]) := by
      intro t kt
      refine XS.iconst X64.here hx rfl (hb hby at_408) ?_
      show own_S p e below T64 m 409 #[iv xk, iv xa, iv xb, iv xc, rv a2, iv fr, iv to, iv oo, iv (own_bi bv), iv (own_bi bw), iv ss, rv a16, iv (own_K b0 b1 b2 kf), iv (own_K b0 b1 b2 (own_kt kf bb)), iv (own_K b0 b1 b2 (own_ko kf bb)), iv ei, own_lv (0 : Int64), .second, iv (-1 : Int32), iv (-1 : Int32), iv bls0, iv sos0, iv v47, own_lv ecs0, .second, iv efts0] [(.int (-1 : Int32)), (.int (own_val (fun _ => -1) (own_pR (own_K b0 b1 b2) (fun _ => -1) (fun _ _ => -1) kf (own_kt kf bb) (own_bi bv)) (own_kt kf bb) kf))] _
      exact kt
    refine own_st sg65 ?_
    have hc66 : (own_val (fun _ => -1) (own_pR (own_K b0 b1 b2) (fun _ => -1) (fun _ _ => -1) kf (own_kt kf bb) (own_bi bv)) (own_kt kf bb) kf) = (-1 : Int32) := FINs0.2.2.2.2.1
    have sg67 : own_V p e below T64 (mkF m 412 #[iv xk, iv xa, iv xb, iv xc, rv a2, iv fr, iv to, iv oo, iv (own_bi bv), iv (own_bi bw), iv ss, rv a16, iv (own_K b0 b1 b2 kf), iv (own_K b0 b1 b2 (own_kt kf bb)), iv (own_K b0 b1 b2 (own_ko kf bb)), iv ei, own_lv (0 : Int64), .second, iv (-1 : Int32), iv (-1 : Int32), iv bls0, iv sos0, iv v47, own_lv ecs0, .second, iv efts0] []) (mkF m 409 #[iv xk, iv xa, iv xb, iv xc, rv a2, iv fr, iv to, iv oo, iv (own_bi bv), iv (own_bi bw), iv ss, rv a16, iv (own_K b0 b1 b2 kf), iv (own_K b0 b1 b2 (own_kt kf bb)), iv (own_K b0 b1 b2 (own_ko kf bb)), iv ei, own_lv (0 : Int64), .second, iv (-1 : Int32), iv (-1 : Int32), iv bls0, iv sos0, iv v47, own_lv ecs0, .second, iv efts0] [(.int (-1 : Int32)), (.int (own_val (fun _ => -1) (own_pR (own_K b0 b1 b2) (fun _ => -1) (fun _ _ => -1) kf (own_kt kf bb) (own_bi bv)) (own_kt kf bb) kf))]) := by
      intro t kt
      refine XS.icmpNo X64.here hx rfl (hb hby at_409) rfl (teq hc66).2 ?_
      exact kt
    refine own_st sg67 ?_
    have sg68 : own_V p e below T64 (mkF m 417 #[iv xk, iv xa, iv xb, iv xc, rv a2, iv fr, iv to, iv oo, iv (own_bi bv), iv (own_bi bw), iv ss, rv a16, iv (own_K b0 b1 b2 kf), iv (own_K b0 b1 b2 (own_kt kf bb)), iv (own_K b0 b1 b2 (own_ko kf bb)), iv ei, own_lv (0 : Int64), .second, iv (-1 : Int32), iv (-1 : Int32), iv bls0, iv sos0, iv v47, own_lv ecs0, .second, iv efts0] [(.int (1 : Int32))]) (mkF m 412 #[iv xk, iv xa, iv xb, iv xc, rv a2, iv fr, iv to, iv oo, iv (own_bi bv), iv (own_bi bw), iv ss, rv a16, iv (own_K b0 b1 b2 kf), iv (own_K b0 b1 b2 (own_kt kf bb)), iv (own_K b0 b1 b2 (own_ko kf bb)), iv ei, own_lv (0 : Int64), .second, iv (-1 : Int32), iv (-1 : Int32), iv bls0, iv sos0, iv v47, own_lv ecs0, .second, iv efts0] []) := by
      intro t kt
      refine XS.iconst X64.here hx rfl (hb hby at_412) ?_
      show own_S p e below T64 m 413 #[iv xk, iv xa, iv xb, iv xc, rv a2, iv fr, iv to, iv oo, iv (own_bi bv), iv (own_bi bw), iv ss, rv a16, iv (own_K b0 b1 b2 kf), iv (own_K b0 b1 b2 (own_kt kf bb)), iv (own_K b0 b1 b2 (own_ko kf bb)), iv ei, own_lv (0 : Int64), .second, iv (-1 : Int32), iv (-1 : Int32), iv bls0, iv sos0, iv v47, own_lv ecs0, .second, iv efts0] [(.int (1 : Int32))] _
      refine XS.goto X64.here hx rfl (pc0 := 413) (pc' := 417) rfl (hb hby at_413) (by decide) (by decide) ?_
      show own_S p e below T64 m 417 #[iv xk, iv xa, iv xb, iv xc, rv a2, iv fr, iv to, iv oo, iv (own_bi bv), iv (own_bi bw), iv ss, rv a16, iv (own_K b0 b1 b2 kf), iv (own_K b0 b1 b2 (own_kt kf bb)), iv (own_K b0 b1 b2 (own_ko kf bb)), iv ei, own_lv (0 : Int64), .second, iv (-1 : Int32), iv (-1 : Int32), iv bls0, iv sos0, iv v47, own_lv ecs0, .second, iv efts0] [(.int (1 : Int32))] _
      exact kt
    refine own_st sg68 ?_
    exact own_retZ X64 hx Bd.notSynchronized Bd.returns (hb hby at_417) (by decide) (by decide) (by decide) e64 ⟨rfl, N64⟩
  · skip
    have sg69 : own_V p e below T18 (mkF m 171 #[iv xk, iv xa, iv xb, iv xc, rv a2, iv fr, iv to, iv oo, iv (own_bi bv), iv (own_bi bw), iv ss, rv a16, iv (own_K b0 b1 b2 kf), iv (own_K b0 b1 b2 (own_kt kf bb)), iv (own_K b0 b1 b2 (own_ko kf bb)), iv ei, own_lv (0 : Int64), .second, iv (-1 : Int32), iv (-1 : Int32), .unset, .unset, .unset, .unset, .unset, .unset] [(.int (1 : Int32)), (.int ss)]) (mkF m 168 #[iv xk, iv xa, iv xb, iv xc, rv a2, iv fr, iv to, iv oo, iv (own_bi bv), iv (own_bi bw), iv ss, rv a16, iv (own_K b0 b1 b2 kf), iv (own_K b0 b1 b2 (own_kt kf bb)), iv (own_K b0 b1 b2 (own_ko kf bb)), iv ei, own_lv (0 : Int64), .second, iv (-1 : Int32), iv (-1 : Int32), .unset, .unset, .unset, .unset, .unset, .unset] []) := by
      intro t kt
      refine XS.iload X18.here hx rfl (hb hby at_168) rfl ?_
      show own_S p e below T18 m 170 #[iv xk, iv xa, iv xb, iv xc, rv a2, iv fr, iv to, iv oo, iv (own_bi bv), iv (own_bi bw), iv ss, rv a16, iv (own_K b0 b1 b2 kf), iv (own_K b0 b1 b2 (own_kt kf bb)), iv (own_K b0 b1 b2 (own_ko kf bb)), iv ei, own_lv (0 : Int64), .second, iv (-1 : Int32), iv (-1 : Int32), .unset, .unset, .unset, .unset, .unset, .unset] [(.int ss)] _
      refine XS.iconst X18.here hx rfl (hb hby at_170) ?_
      show own_S p e below T18 m 171 #[iv xk, iv xa, iv xb, iv xc, rv a2, iv fr, iv to, iv oo, iv (own_bi bv), iv (own_bi bw), iv ss, rv a16, iv (own_K b0 b1 b2 kf), iv (own_K b0 b1 b2 (own_kt kf bb)), iv (own_K b0 b1 b2 (own_ko kf bb)), iv ei, own_lv (0 : Int64), .second, iv (-1 : Int32), iv (-1 : Int32), .unset, .unset, .unset, .unset, .unset, .unset] [(.int (1 : Int32)), (.int ss)] _
      exact kt
    refine own_st sg69 ?_
    have hc70 : ss = (1 : Int32) := by rw [hs4]
    have sg71 : own_V p e below T18 (mkF m 174 #[iv xk, iv xa, iv xb, iv xc, rv a2, iv fr, iv to, iv oo, iv (own_bi bv), iv (own_bi bw), iv ss, rv a16, iv (own_K b0 b1 b2 kf), iv (own_K b0 b1 b2 (own_kt kf bb)), iv (own_K b0 b1 b2 (own_ko kf bb)), iv ei, own_lv (0 : Int64), .second, iv (-1 : Int32), iv (-1 : Int32), .unset, .unset, .unset, .unset, .unset, .unset] []) (mkF m 171 #[iv xk, iv xa, iv xb, iv xc, rv a2, iv fr, iv to, iv oo, iv (own_bi bv), iv (own_bi bw), iv ss, rv a16, iv (own_K b0 b1 b2 kf), iv (own_K b0 b1 b2 (own_kt kf bb)), iv (own_K b0 b1 b2 (own_ko kf bb)), iv ei, own_lv (0 : Int64), .second, iv (-1 : Int32), iv (-1 : Int32), .unset, .unset, .unset, .unset, .unset, .unset] [(.int (1 : Int32)), (.int ss)]) := by
      intro t kt
      refine XS.icmpNo X18.here hx rfl (hb hby at_171) rfl (teq hc70).2 ?_
      exact kt
    refine own_st sg71 ?_
    have sg72 : own_V p e below T18 (mkF m 182 #[iv xk, iv xa, iv xb, iv xc, rv a2, iv fr, iv to, iv oo, iv (own_bi bv), iv (own_bi bw), iv ss, rv a16, iv (own_K b0 b1 b2 kf), iv (own_K b0 b1 b2 (own_kt kf bb)), iv (own_K b0 b1 b2 (own_ko kf bb)), iv ei, own_lv (0 : Int64), .second, iv (-1 : Int32), iv (-1 : Int32), .unset, .unset, .unset, .unset, .unset, .unset] [(.int (own_bi bw)), (.int to), (.int fr), (.ref a16)]) (mkF m 174 #[iv xk, iv xa, iv xb, iv xc, rv a2, iv fr, iv to, iv oo, iv (own_bi bv), iv (own_bi bw), iv ss, rv a16, iv (own_K b0 b1 b2 kf), iv (own_K b0 b1 b2 (own_kt kf bb)), iv (own_K b0 b1 b2 (own_ko kf bb)), iv ei, own_lv (0 : Int64), .second, iv (-1 : Int32), iv (-1 : Int32), .unset, .unset, .unset, .unset, .unset, .unset] []) := by
      intro t kt
      refine XS.aload X18.here hx rfl (hb hby at_174) rfl rfl ?_
      show own_S p e below T18 m 176 #[iv xk, iv xa, iv xb, iv xc, rv a2, iv fr, iv to, iv oo, iv (own_bi bv), iv (own_bi bw), iv ss, rv a16, iv (own_K b0 b1 b2 kf), iv (own_K b0 b1 b2 (own_kt kf bb)), iv (own_K b0 b1 b2 (own_ko kf bb)), iv ei, own_lv (0 : Int64), .second, iv (-1 : Int32), iv (-1 : Int32), .unset, .unset, .unset, .unset, .unset, .unset] [(.ref a16)] _
      refine XS.iload X18.here hx rfl (hb hby at_176) rfl ?_
      show own_S p e below T18 m 178 #[iv xk, iv xa, iv xb, iv xc, rv a2, iv fr, iv to, iv oo, iv (own_bi bv), iv (own_bi bw), iv ss, rv a16, iv (own_K b0 b1 b2 kf), iv (own_K b0 b1 b2 (own_kt kf bb)), iv (own_K b0 b1 b2 (own_ko kf bb)), iv ei, own_lv (0 : Int64), .second, iv (-1 : Int32), iv (-1 : Int32), .unset, .unset, .unset, .unset, .unset, .unset] [(.int fr), (.ref a16)] _
      refine XS.iload X18.here hx rfl (hb hby at_178) rfl ?_
      show own_S p e below T18 m 180 #[iv xk, iv xa, iv xb, iv xc, rv a2, iv fr, iv to, iv oo, iv (own_bi bv), iv (own_bi bw), iv ss, rv a16, iv (own_K b0 b1 b2 kf), iv (own_K b0 b1 b2 (own_kt kf bb)), iv (own_K b0 b1 b2 (own_ko kf bb)), iv ei, own_lv (0 : Int64), .second, iv (-1 : Int32), iv (-1 : Int32), .unset, .unset, .unset, .unset, .unset, .unset] [(.int to), (.int fr), (.ref a16)] _
      refine XS.iload X18.here hx rfl (hb hby at_180) rfl ?_
      show own_S p e below T18 m 182 #[iv xk, iv xa, iv xb, iv xc, rv a2, iv fr, iv to, iv oo, iv (own_bi bv), iv (own_bi bw), iv ss, rv a16, iv (own_K b0 b1 b2 kf), iv (own_K b0 b1 b2 (own_kt kf bb)), iv (own_K b0 b1 b2 (own_ko kf bb)), iv ei, own_lv (0 : Int64), .second, iv (-1 : Int32), iv (-1 : Int32), .unset, .unset, .unset, .unset, .unset, .unset] [(.int (own_bi bw)), (.int to), (.int fr), (.ref a16)] _
      exact kt
    refine own_st sg72 ?_
    obtain ⟨_, T73, L73, X73, hQ73, st73⟩ := own_callV (y := (⟨"com/example/kingsround/kingsround/engine/Deliveries", "put", "(III)Z"⟩ : MethodName)) (y0 := (⟨"com/example/kingsround/kingsround/engine/Deliveries", "put", "(III)Z"⟩ : MethodName)) (a := a16) (C := "com/example/kingsround/kingsround/engine/Deliveries") X18 hx hZ hown HD.1 (hw _ (List.mem_of_getElem? (i := 77) rfl)) (hw _ (List.mem_of_getElem? (i := 78) rfl)) (hw _ (List.mem_of_getElem? (i := 80) rfl)) (notFace_of_selects (args := #[]) (mvT hZ (hw _ (List.mem_of_getElem? (i := 80) rfl)))) (hw _ (List.mem_of_getElem? (i := 79) rfl)) (hw _ (List.mem_of_getElem? (i := 4) rfl)) (hw _ (List.mem_of_getElem? (i := 81) rfl)) (by decide) (own_rmput l Z a0 hw a16 fr to (own_bi bw) ib kp ta ob q r (own_K b0 b1 b2) (fun _ => -1) (fun _ => 0) (fun _ _ => -1) 0 kf (own_kt kf bb) T18.heap n0 Z18 HA HD hkf hkt hf3 ht3) rfl (g := (mkF m 182 #[iv xk, iv xa, iv xb, iv xc, rv a2, iv fr, iv to, iv oo, iv (own_bi bv), iv (own_bi bw), iv ss, rv a16, iv (own_K b0 b1 b2 kf), iv (own_K b0 b1 b2 (own_kt kf bb)), iv (own_K b0 b1 b2 (own_ko kf bb)), iv ei, own_lv (0 : Int64), .second, iv (-1 : Int32), iv (-1 : Int32), .unset, .unset, .unset, .unset, .unset, .unset] [(.int (own_bi bw)), (.int to), (.int fr), (.ref a16)])) rfl (by rw [hml]; rfl) (argsL := [(.int fr), (.int to), (.int (own_bi bw))]) (rest := []) (lenOf own_pd7 rfl) rfl (W := 0) (by show 2 * 0 + _ ≤ _; exact Nat.le_of_eq rfl) (hb hby at_182) (by decide) (by decide) (by decide) (by decide)
    obtain ⟨rfl, Nq73, Sz73, HD73⟩ := hQ73
    refine own_st st73 ?_
    have Z73 : n0 ≤ T73.heap.size := Nat.le_trans Z18 Sz73
    have N73 := Fr.app N18 Nq73
    show own_Go p e below _ T73 (mkF m 185 #[iv xk, iv xa, iv xb, iv xc, rv a2, iv fr, iv to, iv oo, iv (own_bi bv), iv (own_bi bw), iv ss, rv a16, iv (own_K b0 b1 b2 kf), iv (own_K b0 b1 b2 (own_kt kf bb)), iv (own_K b0 b1 b2 (own_ko kf bb)), iv ei, own_lv (0 : Int64), .second, iv (-1 : Int32), iv (-1 : Int32), .unset, .unset, .unset, .unset, .unset, .unset] [(.int (own_pr (own_K b0 b1 b2) (fun _ => -1) (fun _ _ => -1) kf (own_kt kf bb)))])
    obtain ⟨pre1, hpre1⟩ : ∃ z : Int64, z = (if ei = (0 : Int32) then (0 : Int64) else (1 : Int64)) := ⟨_, rfl⟩
    obtain ⟨pft1, hpft1⟩ : ∃ z : Int32, z = (if ei = (0 : Int32) then (-1 : Int32) else (own_bi bw)) := ⟨_, rfl⟩
    have sg75 : own_V p e below T73 (mkF m 273 #[iv xk, iv xa, iv xb, iv xc, rv a2, iv fr, iv to, iv oo, iv (own_bi bv), iv (own_bi bw), iv ss, rv a16, iv (own_K b0 b1 b2 kf), iv (own_K b0 b1 b2 (own_kt kf bb)), iv (own_K b0 b1 b2 (own_ko kf bb)), iv ei, own_lv pre1, .second, iv pft1, iv (-1 : Int32), .unset, .unset, .unset, .unset, .unset, .unset] []) (mkF m 185 #[iv xk, iv xa, iv xb, iv xc, rv a2, iv fr, iv to, iv oo, iv (own_bi bv), iv (own_bi bw), iv ss, rv a16, iv (own_K b0 b1 b2 kf), iv (own_K b0 b1 b2 (own_kt kf bb)), iv (own_K b0 b1 b2 (own_ko kf bb)), iv ei, own_lv (0 : Int64), .second, iv (-1 : Int32), iv (-1 : Int32), .unset, .unset, .unset, .unset, .unset, .unset] [(.int (own_pr (own_K b0 b1 b2) (fun _ => -1) (fun _ _ => -1) kf (own_kt kf bb)))]) := by
      intro t kt
      refine XS.pop X73.here hx rfl (hb hby at_185) rfl rfl ?_
      show own_S p e below T73 m 186 #[iv xk, iv xa, iv xb, iv xc, rv a2, iv fr, iv to, iv oo, iv (own_bi bv), iv (own_bi bw), iv ss, rv a16, iv (own_K b0 b1 b2 kf), iv (own_K b0 b1 b2 (own_kt kf bb)), iv (own_K b0 b1 b2 (own_ko kf bb)), iv ei, own_lv (0 : Int64), .second, iv (-1 : Int32), iv (-1 : Int32), .unset, .unset, .unset, .unset, .unset, .unset] [] _
      refine XS.iload X73.here hx rfl (hb hby at_186) rfl ?_
      show own_S p e below T73 m 188 #[iv xk, iv xa, iv xb, iv xc, rv a2, iv fr, iv to, iv oo, iv (own_bi bv), iv (own_bi bw), iv ss, rv a16, iv (own_K b0 b1 b2 kf), iv (own_K b0 b1 b2 (own_kt kf bb)), iv (own_K b0 b1 b2 (own_ko kf bb)), iv ei, own_lv (0 : Int64), .second, iv (-1 : Int32), iv (-1 : Int32), .unset, .unset, .unset, .unset, .unset, .unset] [(.int ei)] _
      by_cases hc74 : ei = (0 : Int32)
      · refine XS.ifYes X73.here hx rfl (pc0 := 188) (pc' := 273) rfl (hb hby at_188) rfl ((if0 _ _).trans (teq hc74).1) (by decide) (by decide) ?_
        show own_S p e below T73 m 273 #[iv xk, iv xa, iv xb, iv xc, rv a2, iv fr, iv to, iv oo, iv (own_bi bv), iv (own_bi bw), iv ss, rv a16, iv (own_K b0 b1 b2 kf), iv (own_K b0 b1 b2 (own_kt kf bb)), iv (own_K b0 b1 b2 (own_ko kf bb)), iv ei, own_lv (0 : Int64), .second, iv (-1 : Int32), iv (-1 : Int32), .unset, .unset, .unset, .unset, .unset, .unset] [] _
        rw [show pre1 = (0 : Int64) from by rw [hpre1, if_pos hc74]] at kt
        rw [show pft1 = (-1 : Int32) from by rw [hpft1, if_pos hc74]] at kt
        exact kt
      · refine XS.ifNo X73.here hx rfl (hb hby at_188) rfl ((if0 _ _).trans (feq hc74).1) ?_
        show own_S p e below T73 m 191 #[iv xk, iv xa, iv xb, iv xc, rv a2, iv fr, iv to, iv oo, iv (own_bi bv), iv (own_bi bw), iv ss, rv a16, iv (own_K b0 b1 b2 kf), iv (own_K b0 b1 b2 (own_kt kf bb)), iv (own_K b0 b1 b2 (own_ko kf bb)), iv ei, own_lv (0 : Int64), .second, iv (-1 : Int32), iv (-1 : Int32), .unset, .unset, .unset, .unset, .unset, .unset] [] _
        refine XS.lconst X73.here hx rfl (hb hby at_191) ?_
        show own_S p e below T73 m 192 #[iv xk, iv xa, iv xb, iv xc, rv a2, iv fr, iv to, iv oo, iv (own_bi bv), iv (own_bi bw), iv ss, rv a16, iv (own_K b0 b1 b2 kf), iv (own_K b0 b1 b2 (own_kt kf bb)), iv (own_K b0 b1 b2 (own_ko kf bb)), iv ei, own_lv (0 : Int64), .second, iv (-1 : Int32), iv (-1 : Int32), .unset, .unset, .unset, .unset, .unset, .unset] [(.long (1 : Int64))] _
        refine XS.lstore X73.here hx rfl (hb hby at_192) rfl (l' := #[iv xk, iv xa, iv xb, iv xc, rv a2, iv fr, iv to, iv oo, iv (own_bi bv), iv (own_bi bw), iv ss, rv a16, iv (own_K b0 b1 b2 kf), iv (own_K b0 b1 b2 (own_kt kf bb)), iv (own_K b0 b1 b2 (own_ko kf bb)), iv ei, own_lv (1 : Int64), .second, iv (-1 : Int32), iv (-1 : Int32), .unset, .unset, .unset, .unset, .unset, .unset]) rfl ?_
        show own_S p e below T73 m 194 #[iv xk, iv xa, iv xb, iv xc, rv a2, iv fr, iv to, iv oo, iv (own_bi bv), iv (own_bi bw), iv ss, rv a16, iv (own_K b0 b1 b2 kf), iv (own_K b0 b1 b2 (own_kt kf bb)), iv (own_K b0 b1 b2 (own_ko kf bb)), iv ei, own_lv (1 : Int64), .second, iv (-1 : Int32), iv (-1 : Int32), .unset, .unset, .unset, .unset, .unset, .unset] [] _
        refine XS.iload X73.here hx rfl (hb hby at_194) rfl ?_
        show own_S p e below T73 m 196 #[iv xk, iv xa, iv xb, iv xc, rv a2, iv fr, iv to, iv oo, iv (own_bi bv), iv (own_bi bw), iv ss, rv a16, iv (own_K b0 b1 b2 kf), iv (own_K b0 b1 b2 (own_kt kf bb)), iv (own_K b0 b1 b2 (own_ko kf bb)), iv ei, own_lv (1 : Int64), .second, iv (-1 : Int32), iv (-1 : Int32), .unset, .unset, .unset, .unset, .unset, .unset] [(.int (own_bi bw))] _
        refine XS.istore X73.here hx rfl (hb hby at_196) rfl (l' := #[iv xk, iv xa, iv xb, iv xc, rv a2, iv fr, iv to, iv oo, iv (own_bi bv), iv (own_bi bw), iv ss, rv a16, iv (own_K b0 b1 b2 kf), iv (own_K b0 b1 b2 (own_kt kf bb)), iv (own_K b0 b1 b2 (own_ko kf bb)), iv ei, own_lv (1 : Int64), .second, iv (own_bi bw), iv (-1 : Int32), .unset, .unset, .unset, .unset, .unset, .unset]) rfl ?_
        show own_S p e below T73 m 198 #[iv xk, iv xa, iv xb, iv xc, rv a2, iv fr, iv to, iv oo, iv (own_bi bv), iv (own_bi bw), iv ss, rv a16, iv (own_K b0 b1 b2 kf), iv (own_K b0 b1 b2 (own_kt kf bb)), iv (own_K b0 b1 b2 (own_ko kf bb)), iv ei, own_lv (1 : Int64), .second, iv (own_bi bw), iv (-1 : Int32), .unset, .unset, .unset, .unset, .unset, .unset] [] _
        refine XS.goto X73.here hx rfl (pc0 := 198) (pc' := 273) rfl (hb hby at_198) (by decide) (by decide) ?_
        show own_S p e below T73 m 273 #[iv xk, iv xa, iv xb, iv xc, rv a2, iv fr, iv to, iv oo, iv (own_bi bv), iv (own_bi bw), iv ss, rv a16, iv (own_K b0 b1 b2 kf), iv (own_K b0 b1 b2 (own_kt kf bb)), iv (own_K b0 b1 b2 (own_ko kf bb)), iv ei, own_lv (1 : Int64), .second, iv (own_bi bw), iv (-1 : Int32), .unset, .unset, .unset, .unset, .unset, .unset] [] _
        rw [show pre1 = (1 : Int64) from by rw [hpre1, if_neg hc74]] at kt
        rw [show pft1 = (own_bi bw) from by rw [hpft1, if_neg hc74]] at kt
        exact kt
    refine own_st sg75 ?_
    obtain ⟨bls1, hbls1⟩ : ∃ z : Int32, z = (if pft1 = (-1 : Int32) then (0 : Int32) else (1 : Int32)) := ⟨_, rfl⟩
    have sg77 : own_V p e below T73 (mkF m 284 #[iv xk, iv xa, iv xb, iv xc, rv a2, iv fr, iv to, iv oo, iv (own_bi bv), iv (own_bi bw), iv ss, rv a16, iv (own_K b0 b1 b2 kf), iv (own_K b0 b1 b2 (own_kt kf bb)), iv (own_K b0 b1 b2 (own_ko kf bb)), iv ei, own_lv pre1, .second, iv pft1, iv (-1 : Int32), .unset, .unset, .unset, .unset, .unset, .unset] [(.int bls1)]) (mkF m 273 #[iv xk, iv xa, iv xb, iv xc, rv a2, iv fr, iv to, iv oo, iv (own_bi bv), iv (own_bi bw), iv ss, rv a16, iv (own_K b0 b1 b2 kf), iv (own_K b0 b1 b2 (own_kt kf bb)), iv (own_K b0 b1 b2 (own_ko kf bb)), iv ei, own_lv pre1, .second, iv pft1, iv (-1 : Int32), .unset, .unset, .unset, .unset, .unset, .unset] []) := by
      intro t kt
      refine XS.iload X73.here hx rfl (hb hby at_273) rfl ?_
      show own_S p e below T73 m 275 #[iv xk, iv xa, iv xb, iv xc, rv a2, iv fr, iv to, iv oo, iv (own_bi bv), iv (own_bi bw), iv ss, rv a16, iv (own_K b0 b1 b2 kf), iv (own_K b0 b1 b2 (own_kt kf bb)), iv (own_K b0 b1 b2 (own_ko kf bb)), iv ei, own_lv pre1, .second, iv pft1, iv (-1 : Int32), .unset, .unset, .unset, .unset, .unset, .unset] [(.int pft1)] _
      refine XS.iconst X73.here hx rfl (hb hby at_275) ?_
      show own_S p e below T73 m 276 #[iv xk, iv xa, iv xb, iv xc, rv a2, iv fr, iv to, iv oo, iv (own_bi bv), iv (own_bi bw), iv ss, rv a16, iv (own_K b0 b1 b2 kf), iv (own_K b0 b1 b2 (own_kt kf bb)), iv (own_K b0 b1 b2 (own_ko kf bb)), iv ei, own_lv pre1, .second, iv pft1, iv (-1 : Int32), .unset, .unset, .unset, .unset, .unset, .unset] [(.int (-1 : Int32)), (.int pft1)] _
      by_cases hc76 : pft1 = (-1 : Int32)
      · refine XS.icmpYes X73.here hx rfl (pc0 := 276) (pc' := 283) rfl (hb hby at_276) rfl (teq hc76).1 (by decide) (by decide) ?_
        show own_S p e below T73 m 283 #[iv xk, iv xa, iv xb, iv xc, rv a2, iv fr, iv to, iv oo, iv (own_bi bv), iv (own_bi bw), iv ss, rv a16, iv (own_K b0 b1 b2 kf), iv (own_K b0 b1 b2 (own_kt kf bb)), iv (own_K b0 b1 b2 (own_ko kf bb)), iv ei, own_lv pre1, .second, iv pft1, iv (-1 : Int32), .unset, .unset, .unset, .unset, .unset, .unset] [] _
        refine XS.iconst X73.here hx rfl (hb hby at_283) ?_
        show own_S p e below T73 m 284 #[iv xk, iv xa, iv xb, iv xc, rv a2, iv fr, iv to, iv oo, iv (own_bi bv), iv (own_bi bw), iv ss, rv a16, iv (own_K b0 b1 b2 kf), iv (own_K b0 b1 b2 (own_kt kf bb)), iv (own_K b0 b1 b2 (own_ko kf bb)), iv ei, own_lv pre1, .second, iv pft1, iv (-1 : Int32), .unset, .unset, .unset, .unset, .unset, .unset] [(.int (0 : Int32))] _
        rw [show bls1 = (0 : Int32) from by rw [hbls1, if_pos hc76]] at kt
        exact kt
      · refine XS.icmpNo X73.here hx rfl (hb hby at_276) rfl (feq hc76).1 ?_
        show own_S p e below T73 m 279 #[iv xk, iv xa, iv xb, iv xc, rv a2, iv fr, iv to, iv oo, iv (own_bi bv), iv (own_bi bw), iv ss, rv a16, iv (own_K b0 b1 b2 kf), iv (own_K b0 b1 b2 (own_kt kf bb)), iv (own_K b0 b1 b2 (own_ko kf bb)), iv ei, own_lv pre1, .second, iv pft1, iv (-1 : Int32), .unset, .unset, .unset, .unset, .unset, .unset] [] _
        refine XS.iconst X73.here hx rfl (hb hby at_279) ?_
        show own_S p e below T73 m 280 #[iv xk, iv xa, iv xb, iv xc, rv a2, iv fr, iv to, iv oo, iv (own_bi bv), iv (own_bi bw), iv ss, rv a16, iv (own_K b0 b1 b2 kf), iv (own_K b0 b1 b2 (own_kt kf bb)), iv (own_K b0 b1 b2 (own_ko kf bb)), iv ei, own_lv pre1, .second, iv pft1, iv (-1 : Int32), .unset, .unset, .unset, .unset, .unset, .unset] [(.int (1 : Int32))] _
        refine XS.goto X73.here hx rfl (pc0 := 280) (pc' := 284) rfl (hb hby at_280) (by decide) (by decide) ?_
        show own_S p e below T73 m 284 #[iv xk, iv xa, iv xb, iv xc, rv a2, iv fr, iv to, iv oo, iv (own_bi bv), iv (own_bi bw), iv ss, rv a16, iv (own_K b0 b1 b2 kf), iv (own_K b0 b1 b2 (own_kt kf bb)), iv (own_K b0 b1 b2 (own_ko kf bb)), iv ei, own_lv pre1, .second, iv pft1, iv (-1 : Int32), .unset, .unset, .unset, .unset, .unset, .unset] [(.int (1 : Int32))] _
        rw [show bls1 = (1 : Int32) from by rw [hbls1, if_neg hc76]] at kt
        exact kt
    refine own_st sg77 ?_
    obtain ⟨sos1, hsos1⟩ : ∃ z : Int32, z = (if ei = (0 : Int32) then (0 : Int32) else (if bls1 = (0 : Int32) then (1 : Int32) else (0 : Int32))) := ⟨_, rfl⟩
    have sg80 : own_V p e below T73 (mkF m 301 #[iv xk, iv xa, iv xb, iv xc, rv a2, iv fr, iv to, iv oo, iv (own_bi bv), iv (own_bi bw), iv ss, rv a16, iv (own_K b0 b1 b2 kf), iv (own_K b0 b1 b2 (own_kt kf bb)), iv (own_K b0 b1 b2 (own_ko kf bb)), iv ei, own_lv pre1, .second, iv pft1, iv (-1 : Int32), iv bls1, .unset, .unset, .unset, .unset, .unset] [(.int sos1)]) (mkF m 284 #[iv xk, iv xa, iv xb, iv xc, rv a2, iv fr, iv to, iv oo, iv (own_bi bv), iv (own_bi bw), iv ss, rv a16, iv (own_K b0 b1 b2 kf), iv (own_K b0 b1 b2 (own_kt kf bb)), iv (own_K b0 b1 b2 (own_ko kf bb)), iv ei, own_lv pre1, .second, iv pft1, iv (-1 : Int32), .unset, .unset, .unset, .unset, .unset, .unset] [(.int bls1)]) := by
      intro t kt
      refine XS.istore X73.here hx rfl (hb hby at_284) rfl (l' := #[iv xk, iv xa, iv xb, iv xc, rv a2, iv fr, iv to, iv oo, iv (own_bi bv), iv (own_bi bw), iv ss, rv a16, iv (own_K b0 b1 b2 kf), iv (own_K b0 b1 b2 (own_kt kf bb)), iv (own_K b0 b1 b2 (own_ko kf bb)), iv ei, own_lv pre1, .second, iv pft1, iv (-1 : Int32), iv bls1, .unset, .unset, .unset, .unset, .unset]) rfl ?_
      show own_S p e below T73 m 286 #[iv xk, iv xa, iv xb, iv xc, rv a2, iv fr, iv to, iv oo, iv (own_bi bv), iv (own_bi bw), iv ss, rv a16, iv (own_K b0 b1 b2 kf), iv (own_K b0 b1 b2 (own_kt kf bb)), iv (own_K b0 b1 b2 (own_ko kf bb)), iv ei, own_lv pre1, .second, iv pft1, iv (-1 : Int32), iv bls1, .unset, .unset, .unset, .unset, .unset] [] _
      refine XS.iload X73.here hx rfl (hb hby at_286) rfl ?_
      show own_S p e below T73 m 288 #[iv xk, iv xa, iv xb, iv xc, rv a2, iv fr, iv to, iv oo, iv (own_bi bv), iv (own_bi bw), iv ss, rv a16, iv (own_K b0 b1 b2 kf), iv (own_K b0 b1 b2 (own_kt kf bb)), iv (own_K b0 b1 b2 (own_ko kf bb)), iv ei, own_lv pre1, .second, iv pft1, iv (-1 : Int32), iv bls1, .unset, .unset, .unset, .unset, .unset] [(.int ei)] _
      by_cases hc78 : ei = (0 : Int32)
      · refine XS.ifYes X73.here hx rfl (pc0 := 288) (pc' := 300) rfl (hb hby at_288) rfl ((if0 _ _).trans (teq hc78).1) (by decide) (by decide) ?_
        show own_S p e below T73 m 300 #[iv xk, iv xa, iv xb, iv xc, rv a2, iv fr, iv to, iv oo, iv (own_bi bv), iv (own_bi bw), iv ss, rv a16, iv (own_K b0 b1 b2 kf), iv (own_K b0 b1 b2 (own_kt kf bb)), iv (own_K b0 b1 b2 (own_ko kf bb)), iv ei, own_lv pre1, .second, iv pft1, iv (-1 : Int32), iv bls1, .unset, .unset, .unset, .unset, .unset] [] _
        refine XS.iconst X73.here hx rfl (hb hby at_300) ?_
        show own_S p e below T73 m 301 #[iv xk, iv xa, iv xb, iv xc, rv a2, iv fr, iv to, iv oo, iv (own_bi bv), iv (own_bi bw), iv ss, rv a16, iv (own_K b0 b1 b2 kf), iv (own_K b0 b1 b2 (own_kt kf bb)), iv (own_K b0 b1 b2 (own_ko kf bb)), iv ei, own_lv pre1, .second, iv pft1, iv (-1 : Int32), iv bls1, .unset, .unset, .unset, .unset, .unset] [(.int (0 : Int32))] _
        rw [show sos1 = (0 : Int32) from by rw [hsos1, if_pos hc78]] at kt
        exact kt
      · refine XS.ifNo X73.here hx rfl (hb hby at_288) rfl ((if0 _ _).trans (feq hc78).1) ?_
        show own_S p e below T73 m 291 #[iv xk, iv xa, iv xb, iv xc, rv a2, iv fr, iv to, iv oo, iv (own_bi bv), iv (own_bi bw), iv ss, rv a16, iv (own_K b0 b1 b2 kf), iv (own_K b0 b1 b2 (own_kt kf bb)), iv (own_K b0 b1 b2 (own_ko kf bb)), iv ei, own_lv pre1, .second, iv pft1, iv (-1 : Int32), iv bls1, .unset, .unset, .unset, .unset, .unset] [] _
        refine XS.iload X73.here hx rfl (hb hby at_291) rfl ?_
        show own_S p e below T73 m 293 #[iv xk, iv xa, iv xb, iv xc, rv a2, iv fr, iv to, iv oo, iv (own_bi bv), iv (own_bi bw), iv ss, rv a16, iv (own_K b0 b1 b2 kf), iv (own_K b0 b1 b2 (own_kt kf bb)), iv (own_K b0 b1 b2 (own_ko kf bb)), iv ei, own_lv pre1, .second, iv pft1, iv (-1 : Int32), iv bls1, .unset, .unset, .unset, .unset, .unset] [(.int bls1)] _
        by_cases hc79 : bls1 = (0 : Int32)
        · refine XS.ifNo X73.here hx rfl (hb hby at_293) rfl ((if0 _ _).trans (teq hc79).2) ?_
          show own_S p e below T73 m 296 #[iv xk, iv xa, iv xb, iv xc, rv a2, iv fr, iv to, iv oo, iv (own_bi bv), iv (own_bi bw), iv ss, rv a16, iv (own_K b0 b1 b2 kf), iv (own_K b0 b1 b2 (own_kt kf bb)), iv (own_K b0 b1 b2 (own_ko kf bb)), iv ei, own_lv pre1, .second, iv pft1, iv (-1 : Int32), iv bls1, .unset, .unset, .unset, .unset, .unset] [] _
          refine XS.iconst X73.here hx rfl (hb hby at_296) ?_
          show own_S p e below T73 m 297 #[iv xk, iv xa, iv xb, iv xc, rv a2, iv fr, iv to, iv oo, iv (own_bi bv), iv (own_bi bw), iv ss, rv a16, iv (own_K b0 b1 b2 kf), iv (own_K b0 b1 b2 (own_kt kf bb)), iv (own_K b0 b1 b2 (own_ko kf bb)), iv ei, own_lv pre1, .second, iv pft1, iv (-1 : Int32), iv bls1, .unset, .unset, .unset, .unset, .unset] [(.int (1 : Int32))] _
          refine XS.goto X73.here hx rfl (pc0 := 297) (pc' := 301) rfl (hb hby at_297) (by decide) (by decide) ?_
          show own_S p e below T73 m 301 #[iv xk, iv xa, iv xb, iv xc, rv a2, iv fr, iv to, iv oo, iv (own_bi bv), iv (own_bi bw), iv ss, rv a16, iv (own_K b0 b1 b2 kf), iv (own_K b0 b1 b2 (own_kt kf bb)), iv (own_K b0 b1 b2 (own_ko kf bb)), iv ei, own_lv pre1, .second, iv pft1, iv (-1 : Int32), iv bls1, .unset, .unset, .unset, .unset, .unset] [(.int (1 : Int32))] _
          rw [show sos1 = (1 : Int32) from by rw [hsos1, if_neg hc78, if_pos hc79]] at kt
          exact kt
        · refine XS.ifYes X73.here hx rfl (pc0 := 293) (pc' := 300) rfl (hb hby at_293) rfl ((if0 _ _).trans (feq hc79).2) (by decide) (by decide) ?_
          show own_S p e below T73 m 300 #[iv xk, iv xa, iv xb, iv xc, rv a2, iv fr, iv to, iv oo, iv (own_bi bv), iv (own_bi bw), iv ss, rv a16, iv (own_K b0 b1 b2 kf), iv (own_K b0 b1 b2 (own_kt kf bb)), iv (own_K b0 b1 b2 (own_ko kf bb)), iv ei, own_lv pre1, .second, iv pft1, iv (-1 : Int32), iv bls1, .unset, .unset, .unset, .unset, .unset] [] _
          refine XS.iconst X73.here hx rfl (hb hby at_300) ?_
          show own_S p e below T73 m 301 #[iv xk, iv xa, iv xb, iv xc, rv a2, iv fr, iv to, iv oo, iv (own_bi bv), iv (own_bi bw), iv ss, rv a16, iv (own_K b0 b1 b2 kf), iv (own_K b0 b1 b2 (own_kt kf bb)), iv (own_K b0 b1 b2 (own_ko kf bb)), iv ei, own_lv pre1, .second, iv pft1, iv (-1 : Int32), iv bls1, .unset, .unset, .unset, .unset, .unset] [(.int (0 : Int32))] _
          rw [show sos1 = (0 : Int32) from by rw [hsos1, if_neg hc78, if_neg hc79]] at kt
          exact kt
    refine own_st sg80 ?_
    have sg81 : own_V p e below T73 (mkF m 311 #[iv xk, iv xa, iv xb, iv xc, rv a2, iv fr, iv to, iv oo, iv (own_bi bv), iv (own_bi bw), iv ss, rv a16, iv (own_K b0 b1 b2 kf), iv (own_K b0 b1 b2 (own_kt kf bb)), iv (own_K b0 b1 b2 (own_ko kf bb)), iv ei, own_lv pre1, .second, iv pft1, iv (-1 : Int32), iv bls1, iv sos1, .unset, .unset, .unset, .unset] [(.int (own_bi bv)), (.int to), (.int fr), (.ref a16)]) (mkF m 301 #[iv xk, iv xa, iv xb, iv xc, rv a2, iv fr, iv to, iv oo, iv (own_bi bv), iv (own_bi bw), iv ss, rv a16, iv (own_K b0 b1 b2 kf), iv (own_K b0 b1 b2 (own_kt kf bb)), iv (own_K b0 b1 b2 (own_ko kf bb)), iv ei, own_lv pre1, .second, iv pft1, iv (-1 : Int32), iv bls1, .unset, .unset, .unset, .unset, .unset] [(.int sos1)]) := by
      intro t kt
      refine XS.istore X73.here hx rfl (hb hby at_301) rfl (l' := #[iv xk, iv xa, iv xb, iv xc, rv a2, iv fr, iv to, iv oo, iv (own_bi bv), iv (own_bi bw), iv ss, rv a16, iv (own_K b0 b1 b2 kf), iv (own_K b0 b1 b2 (own_kt kf bb)), iv (own_K b0 b1 b2 (own_ko kf bb)), iv ei, own_lv pre1, .second, iv pft1, iv (-1 : Int32), iv bls1, iv sos1, .unset, .unset, .unset, .unset]) rfl ?_
      show own_S p e below T73 m 303 #[iv xk, iv xa, iv xb, iv xc, rv a2, iv fr, iv to, iv oo, iv (own_bi bv), iv (own_bi bw), iv ss, rv a16, iv (own_K b0 b1 b2 kf), iv (own_K b0 b1 b2 (own_kt kf bb)), iv (own_K b0 b1 b2 (own_ko kf bb)), iv ei, own_lv pre1, .second, iv pft1, iv (-1 : Int32), iv bls1, iv sos1, .unset, .unset, .unset, .unset] [] _
      refine XS.aload X73.here hx rfl (hb hby at_303) rfl rfl ?_
      show own_S p e below T73 m 305 #[iv xk, iv xa, iv xb, iv xc, rv a2, iv fr, iv to, iv oo, iv (own_bi bv), iv (own_bi bw), iv ss, rv a16, iv (own_K b0 b1 b2 kf), iv (own_K b0 b1 b2 (own_kt kf bb)), iv (own_K b0 b1 b2 (own_ko kf bb)), iv ei, own_lv pre1, .second, iv pft1, iv (-1 : Int32), iv bls1, iv sos1, .unset, .unset, .unset, .unset] [(.ref a16)] _
      refine XS.iload X73.here hx rfl (hb hby at_305) rfl ?_
      show own_S p e below T73 m 307 #[iv xk, iv xa, iv xb, iv xc, rv a2, iv fr, iv to, iv oo, iv (own_bi bv), iv (own_bi bw), iv ss, rv a16, iv (own_K b0 b1 b2 kf), iv (own_K b0 b1 b2 (own_kt kf bb)), iv (own_K b0 b1 b2 (own_ko kf bb)), iv ei, own_lv pre1, .second, iv pft1, iv (-1 : Int32), iv bls1, iv sos1, .unset, .unset, .unset, .unset] [(.int fr), (.ref a16)] _
      refine XS.iload X73.here hx rfl (hb hby at_307) rfl ?_
      show own_S p e below T73 m 309 #[iv xk, iv xa, iv xb, iv xc, rv a2, iv fr, iv to, iv oo, iv (own_bi bv), iv (own_bi bw), iv ss, rv a16, iv (own_K b0 b1 b2 kf), iv (own_K b0 b1 b2 (own_kt kf bb)), iv (own_K b0 b1 b2 (own_ko kf bb)), iv ei, own_lv pre1, .second, iv pft1, iv (-1 : Int32), iv bls1, iv sos1, .unset, .unset, .unset, .unset] [(.int to), (.int fr), (.ref a16)] _
      refine XS.iload X73.here hx rfl (hb hby at_309) rfl ?_
      show own_S p e below T73 m 311 #[iv xk, iv xa, iv xb, iv xc, rv a2, iv fr, iv to, iv oo, iv (own_bi bv), iv (own_bi bw), iv ss, rv a16, iv (own_K b0 b1 b2 kf), iv (own_K b0 b1 b2 (own_kt kf bb)), iv (own_K b0 b1 b2 (own_ko kf bb)), iv ei, own_lv pre1, .second, iv pft1, iv (-1 : Int32), iv bls1, iv sos1, .unset, .unset, .unset, .unset] [(.int (own_bi bv)), (.int to), (.int fr), (.ref a16)] _
      exact kt
    refine own_st sg81 ?_
    obtain ⟨_, T82, L82, X82, hQ82, st82⟩ := own_callV (y := (⟨"com/example/kingsround/kingsround/engine/Deliveries", "put", "(III)Z"⟩ : MethodName)) (y0 := (⟨"com/example/kingsround/kingsround/engine/Deliveries", "put", "(III)Z"⟩ : MethodName)) (a := a16) (C := "com/example/kingsround/kingsround/engine/Deliveries") X73 hx hZ hown HD73.1 (hw _ (List.mem_of_getElem? (i := 77) rfl)) (hw _ (List.mem_of_getElem? (i := 78) rfl)) (hw _ (List.mem_of_getElem? (i := 80) rfl)) (notFace_of_selects (args := #[]) (mvT hZ (hw _ (List.mem_of_getElem? (i := 80) rfl)))) (hw _ (List.mem_of_getElem? (i := 79) rfl)) (hw _ (List.mem_of_getElem? (i := 4) rfl)) (hw _ (List.mem_of_getElem? (i := 81) rfl)) (by decide) (own_rmput l Z a0 hw a16 fr to (own_bi bv) ib kp ta ob q r (own_K b0 b1 b2) (fun _ => -1) (own_pO (own_K b0 b1 b2) (fun _ => -1) (fun _ => 0) (fun _ _ => -1) kf (own_kt kf bb)) (own_pR (own_K b0 b1 b2) (fun _ => -1) (fun _ _ => -1) kf (own_kt kf bb) (own_bi bw)) (own_pc (own_K b0 b1 b2) (fun _ => -1) (fun _ _ => -1) kf (own_kt kf bb) 0) kf (own_kt kf bb) T73.heap n0 Z73 HA HD73 hkf hkt hf3 ht3) rfl (g := (mkF m 311 #[iv xk, iv xa, iv xb, iv xc, rv a2, iv fr, iv to, iv oo, iv (own_bi bv), iv (own_bi bw), iv ss, rv a16, iv (own_K b0 b1 b2 kf), iv (own_K b0 b1 b2 (own_kt kf bb)), iv (own_K b0 b1 b2 (own_ko kf bb)), iv ei, own_lv pre1, .second, iv pft1, iv (-1 : Int32), iv bls1, iv sos1, .unset, .unset, .unset, .unset] [(.int (own_bi bv)), (.int to), (.int fr), (.ref a16)])) rfl (by rw [hml]; rfl) (argsL := [(.int fr), (.int to), (.int (own_bi bv))]) (rest := []) (lenOf own_pd7 rfl) rfl (W := 0) (by show 2 * 0 + _ ≤ _; exact Nat.le_of_eq rfl) (hb hby at_311) (by decide) (by decide) (by decide) (by decide)
    obtain ⟨rfl, Nq82, Sz82, HD82⟩ := hQ82
    refine own_st st82 ?_
    have Z82 : n0 ≤ T82.heap.size := Nat.le_trans Z73 Sz82
    have N82 := Fr.app N73 Nq82
    show own_Go p e below _ T82 (mkF m 314 #[iv xk, iv xa, iv xb, iv xc, rv a2, iv fr, iv to, iv oo, iv (own_bi bv), iv (own_bi bw), iv ss, rv a16, iv (own_K b0 b1 b2 kf), iv (own_K b0 b1 b2 (own_kt kf bb)), iv (own_K b0 b1 b2 (own_ko kf bb)), iv ei, own_lv pre1, .second, iv pft1, iv (-1 : Int32), iv bls1, iv sos1, .unset, .unset, .unset, .unset] [(.int (own_pr (own_K b0 b1 b2) (fun _ => -1) (own_pR (own_K b0 b1 b2) (fun _ => -1) (fun _ _ => -1) kf (own_kt kf bb) (own_bi bw)) kf (own_kt kf bb)))])
    obtain ⟨pls1, hpls1⟩ : ∃ z : Int64, z = (if sos1 = (0 : Int32) then (0 : Int64) else (1 : Int64)) := ⟨_, rfl⟩
    have sg84 : own_V p e below T82 (mkF m 328 #[iv xk, iv xa, iv xb, iv xc, rv a2, iv fr, iv to, iv oo, iv (own_bi bv), iv (own_bi bw), iv ss, rv a16, iv (own_K b0 b1 b2 kf), iv (own_K b0 b1 b2 (own_kt kf bb)), iv (own_K b0 b1 b2 (own_ko kf bb)), iv ei, own_lv pre1, .second, iv pft1, iv (-1 : Int32), iv bls1, iv sos1, iv (own_pr (own_K b0 b1 b2) (fun _ => -1) (own_pR (own_K b0 b1 b2) (fun _ => -1) (fun _ _ => -1) kf (own_kt kf bb) (own_bi bw)) kf (own_kt kf bb)), .unset, .unset, .unset] [(.long pls1), (.long pre1)]) (mkF m 314 #[iv xk, iv xa, iv xb, iv xc, rv a2, iv fr, iv to, iv oo, iv (own_bi bv), iv (own_bi bw), iv ss, rv a16, iv (own_K b0 b1 b2 kf), iv (own_K b0 b1 b2 (own_kt kf bb)), iv (own_K b0 b1 b2 (own_ko kf bb)), iv ei, own_lv pre1, .second, iv pft1, iv (-1 : Int32), iv bls1, iv sos1, .unset, .unset, .unset, .unset] [(.int (own_pr (own_K b0 b1 b2) (fun _ => -1) (own_pR (own_K b0 b1 b2) (fun _ => -1) (fun _ _ => -1) kf (own_kt kf bb) (own_bi bw)) kf (own_kt kf bb)))]) := by
      intro t kt
      refine XS.istore X82.here hx rfl (hb hby at_314) rfl (l' := #[iv xk, iv xa, iv xb, iv xc, rv a2, iv fr, iv to, iv oo, iv (own_bi bv), iv (own_bi bw), iv ss, rv a16, iv (own_K b0 b1 b2 kf), iv (own_K b0 b1 b2 (own_kt kf bb)), iv (own_K b0 b1 b2 (own_ko kf bb)), iv ei, own_lv pre1, .second, iv pft1, iv (-1 : Int32), iv bls1, iv sos1, iv (own_pr (own_K b0 b1 b2) (fun _ => -1) (own_pR (own_K b0 b1 b2) (fun _ => -1) (fun _ _ => -1) kf (own_kt kf bb) (own_bi bw)) kf (own_kt kf bb)), .unset, .unset, .unset]) rfl ?_
      show own_S p e below T82 m 316 #[iv xk, iv xa, iv xb, iv xc, rv a2, iv fr, iv to, iv oo, iv (own_bi bv), iv (own_bi bw), iv ss, rv a16, iv (own_K b0 b1 b2 kf), iv (own_K b0 b1 b2 (own_kt kf bb)), iv (own_K b0 b1 b2 (own_ko kf bb)), iv ei, own_lv pre1, .second, iv pft1, iv (-1 : Int32), iv bls1, iv sos1, iv (own_pr (own_K b0 b1 b2) (fun _ => -1) (own_pR (own_K b0 b1 b2) (fun _ => -1) (fun _ _ => -1) kf (own_kt kf bb) (own_bi bw)) kf (own_kt kf bb)), .unset, .unset, .unset] [] _
      refine XS.lload X82.here hx rfl (hb hby at_316) rfl ?_
      show own_S p e below T82 m 318 #[iv xk, iv xa, iv xb, iv xc, rv a2, iv fr, iv to, iv oo, iv (own_bi bv), iv (own_bi bw), iv ss, rv a16, iv (own_K b0 b1 b2 kf), iv (own_K b0 b1 b2 (own_kt kf bb)), iv (own_K b0 b1 b2 (own_ko kf bb)), iv ei, own_lv pre1, .second, iv pft1, iv (-1 : Int32), iv bls1, iv sos1, iv (own_pr (own_K b0 b1 b2) (fun _ => -1) (own_pR (own_K b0 b1 b2) (fun _ => -1) (fun _ _ => -1) kf (own_kt kf bb) (own_bi bw)) kf (own_kt kf bb)), .unset, .unset, .unset] [(.long pre1)] _
      refine XS.iload X82.here hx rfl (hb hby at_318) rfl ?_
      show own_S p e below T82 m 320 #[iv xk, iv xa, iv xb, iv xc, rv a2, iv fr, iv to, iv oo, iv (own_bi bv), iv (own_bi bw), iv ss, rv a16, iv (own_K b0 b1 b2 kf), iv (own_K b0 b1 b2 (own_kt kf bb)), iv (own_K b0 b1 b2 (own_ko kf bb)), iv ei, own_lv pre1, .second, iv pft1, iv (-1 : Int32), iv bls1, iv sos1, iv (own_pr (own_K b0 b1 b2) (fun _ => -1) (own_pR (own_K b0 b1 b2) (fun _ => -1) (fun _ _ => -1) kf (own_kt kf bb) (own_bi bw)) kf (own_kt kf bb)), .unset, .unset, .unset] [(.int sos1), (.long pre1)] _
      by_cases hc83 : sos1 = (0 : Int32)
      · refine XS.ifYes X82.here hx rfl (pc0 := 320) (pc' := 327) rfl (hb hby at_320) rfl ((if0 _ _).trans (teq hc83).1) (by decide) (by decide) ?_
        show own_S p e below T82 m 327 #[iv xk, iv xa, iv xb, iv xc, rv a2, iv fr, iv to, iv oo, iv (own_bi bv), iv (own_bi bw), iv ss, rv a16, iv (own_K b0 b1 b2 kf), iv (own_K b0 b1 b2 (own_kt kf bb)), iv (own_K b0 b1 b2 (own_ko kf bb)), iv ei, own_lv pre1, .second, iv pft1, iv (-1 : Int32), iv bls1, iv sos1, iv (own_pr (own_K b0 b1 b2) (fun _ => -1) (own_pR (own_K b0 b1 b2) (fun _ => -1) (fun _ _ => -1) kf (own_kt kf bb) (own_bi bw)) kf (own_kt kf bb)), .unset, .unset, .unset] [(.long pre1)] _
        refine XS.lconst X82.here hx rfl (hb hby at_327) ?_
        show own_S p e below T82 m 328 #[iv xk, iv xa, iv xb, iv xc, rv a2, iv fr, iv to, iv oo, iv (own_bi bv), iv (own_bi bw), iv ss, rv a16, iv (own_K b0 b1 b2 kf), iv (own_K b0 b1 b2 (own_kt kf bb)), iv (own_K b0 b1 b2 (own_ko kf bb)), iv ei, own_lv pre1, .second, iv pft1, iv (-1 : Int32), iv bls1, iv sos1, iv (own_pr (own_K b0 b1 b2) (fun _ => -1) (own_pR (own_K b0 b1 b2) (fun _ => -1) (fun _ _ => -1) kf (own_kt kf bb) (own_bi bw)) kf (own_kt kf bb)), .unset, .unset, .unset] [(.long (0 : Int64)), (.long pre1)] _
        rw [show pls1 = (0 : Int64) from by rw [hpls1, if_pos hc83]] at kt
        exact kt
      · refine XS.ifNo X82.here hx rfl (hb hby at_320) rfl ((if0 _ _).trans (feq hc83).1) ?_
        show own_S p e below T82 m 323 #[iv xk, iv xa, iv xb, iv xc, rv a2, iv fr, iv to, iv oo, iv (own_bi bv), iv (own_bi bw), iv ss, rv a16, iv (own_K b0 b1 b2 kf), iv (own_K b0 b1 b2 (own_kt kf bb)), iv (own_K b0 b1 b2 (own_ko kf bb)), iv ei, own_lv pre1, .second, iv pft1, iv (-1 : Int32), iv bls1, iv sos1, iv (own_pr (own_K b0 b1 b2) (fun _ => -1) (own_pR (own_K b0 b1 b2) (fun _ => -1) (fun _ _ => -1) kf (own_kt kf bb) (own_bi bw)) kf (own_kt kf bb)), .unset, .unset, .unset] [(.long pre1)] _
        refine XS.lconst X82.here hx rfl (hb hby at_323) ?_
        show own_S p e below T82 m 324 #[iv xk, iv xa, iv xb, iv xc, rv a2, iv fr, iv to, iv oo, iv (own_bi bv), iv (own_bi bw), iv ss, rv a16, iv (own_K b0 b1 b2 kf), iv (own_K b0 b1 b2 (own_kt kf bb)), iv (own_K b0 b1 b2 (own_ko kf bb)), iv ei, own_lv pre1, .second, iv pft1, iv (-1 : Int32), iv bls1, iv sos1, iv (own_pr (own_K b0 b1 b2) (fun _ => -1) (own_pR (own_K b0 b1 b2) (fun _ => -1) (fun _ _ => -1) kf (own_kt kf bb) (own_bi bw)) kf (own_kt kf bb)), .unset, .unset, .unset] [(.long (1 : Int64)), (.long pre1)] _
        refine XS.goto X82.here hx rfl (pc0 := 324) (pc' := 328) rfl (hb hby at_324) (by decide) (by decide) ?_
        show own_S p e below T82 m 328 #[iv xk, iv xa, iv xb, iv xc, rv a2, iv fr, iv to, iv oo, iv (own_bi bv), iv (own_bi bw), iv ss, rv a16, iv (own_K b0 b1 b2 kf), iv (own_K b0 b1 b2 (own_kt kf bb)), iv (own_K b0 b1 b2 (own_ko kf bb)), iv ei, own_lv pre1, .second, iv pft1, iv (-1 : Int32), iv bls1, iv sos1, iv (own_pr (own_K b0 b1 b2) (fun _ => -1) (own_pR (own_K b0 b1 b2) (fun _ => -1) (fun _ _ => -1) kf (own_kt kf bb) (own_bi bw)) kf (own_kt kf bb)), .unset, .unset, .unset] [(.long (1 : Int64)), (.long pre1)] _
        rw [show pls1 = (1 : Int64) from by rw [hpls1, if_neg hc83]] at kt
        exact kt
    refine own_st sg84 ?_
    obtain ⟨ecs1, hecs1⟩ : ∃ z : Int64, z = (pre1 + pls1) := ⟨_, rfl⟩
    obtain ⟨efts1, hefts1⟩ : ∃ z : Int32, z = (if sos1 = (0 : Int32) then pft1 else (own_bi bv)) := ⟨_, rfl⟩
    have sg86 : own_V p e below T82 (mkF m 343 #[iv xk, iv xa, iv xb, iv xc, rv a2, iv fr, iv to, iv oo, iv (own_bi bv), iv (own_bi bw), iv ss, rv a16, iv (own_K b0 b1 b2 kf), iv (own_K b0 b1 b2 (own_kt kf bb)), iv (own_K b0 b1 b2 (own_ko kf bb)), iv ei, own_lv pre1, .second, iv pft1, iv (-1 : Int32), iv bls1, iv sos1, iv (own_pr (own_K b0 b1 b2) (fun _ => -1) (own_pR (own_K b0 b1 b2) (fun _ => -1) (fun _ _ => -1) kf (own_kt kf bb) (own_bi bw)) kf (own_kt kf bb)), own_lv ecs1, .second, .unset] [(.int efts1)]) (mkF m 328 #[iv xk, iv xa, iv xb, iv xc, rv a2, iv fr, iv to, iv oo, iv (own_bi bv), iv (own_bi bw), iv ss, rv a16, iv (own_K b0 b1 b2 kf), iv (own_K b0 b1 b2 (own_kt kf bb)), iv (own_K b0 b1 b2 (own_ko kf bb)), iv ei, own_lv pre1, .second, iv pft1, iv (-1 : Int32), iv bls1, iv sos1, iv (own_pr (own_K b0 b1 b2) (fun _ => -1) (own_pR (own_K b0 b1 b2) (fun _ => -1) (fun _ _ => -1) kf (own_kt kf bb) (own_bi bw)) kf (own_kt kf bb)), .unset, .unset, .unset] [(.long pls1), (.long pre1)]) := by
      intro t kt
      refine XS.ladd X82.here hx rfl (hb hby at_328) rfl ?_
      show own_S p e below T82 m 329 #[iv xk, iv xa, iv xb, iv xc, rv a2, iv fr, iv to, iv oo, iv (own_bi bv), iv (own_bi bw), iv ss, rv a16, iv (own_K b0 b1 b2 kf), iv (own_K b0 b1 b2 (own_kt kf bb)), iv (own_K b0 b1 b2 (own_ko kf bb)), iv ei, own_lv pre1, .second, iv pft1, iv (-1 : Int32), iv bls1, iv sos1, iv (own_pr (own_K b0 b1 b2) (fun _ => -1) (own_pR (own_K b0 b1 b2) (fun _ => -1) (fun _ _ => -1) kf (own_kt kf bb) (own_bi bw)) kf (own_kt kf bb)), .unset, .unset, .unset] [(.long (pre1 + pls1))] _
      refine XS.lstore X82.here hx rfl (hb hby at_329) rfl (l' := #[iv xk, iv xa, iv xb, iv xc, rv a2, iv fr, iv to, iv oo, iv (own_bi bv), iv (own_bi bw), iv ss, rv a16, iv (own_K b0 b1 b2 kf), iv (own_K b0 b1 b2 (own_kt kf bb)), iv (own_K b0 b1 b2 (own_ko kf bb)), iv ei, own_lv pre1, .second, iv pft1, iv (-1 : Int32), iv bls1, iv sos1, iv (own_pr (own_K b0 b1 b2) (fun _ => -1) (own_pR (own_K b0 b1 b2) (fun _ => -1) (fun _ _ => -1) kf (own_kt kf bb) (own_bi bw)) kf (own_kt kf bb)), own_lv (pre1 + pls1), .second, .unset]) rfl ?_
      show own_S p e below T82 m 331 #[iv xk, iv xa, iv xb, iv xc, rv a2, iv fr, iv to, iv oo, iv (own_bi bv), iv (own_bi bw), iv ss, rv a16, iv (own_K b0 b1 b2 kf), iv (own_K b0 b1 b2 (own_kt kf bb)), iv (own_K b0 b1 b2 (own_ko kf bb)), iv ei, own_lv pre1, .second, iv pft1, iv (-1 : Int32), iv bls1, iv sos1, iv (own_pr (own_K b0 b1 b2) (fun _ => -1) (own_pR (own_K b0 b1 b2) (fun _ => -1) (fun _ _ => -1) kf (own_kt kf bb) (own_bi bw)) kf (own_kt kf bb)), own_lv (pre1 + pls1), .second, .unset] [] _
      refine XS.iload X82.here hx rfl (hb hby at_331) rfl ?_
      show own_S p e below T82 m 333 #[iv xk, iv xa, iv xb, iv xc, rv a2, iv fr, iv to, iv oo, iv (own_bi bv), iv (own_bi bw), iv ss, rv a16, iv (own_K b0 b1 b2 kf), iv (own_K b0 b1 b2 (own_kt kf bb)), iv (own_K b0 b1 b2 (own_ko kf bb)), iv ei, own_lv pre1, .second, iv pft1, iv (-1 : Int32), iv bls1, iv sos1, iv (own_pr (own_K b0 b1 b2) (fun _ => -1) (own_pR (own_K b0 b1 b2) (fun _ => -1) (fun _ _ => -1) kf (own_kt kf bb) (own_bi bw)) kf (own_kt kf bb)), own_lv (pre1 + pls1), .second, .unset] [(.int sos1)] _
      by_cases hc85 : sos1 = (0 : Int32)
      · refine XS.ifYes X82.here hx rfl (pc0 := 333) (pc' := 341) rfl (hb hby at_333) rfl ((if0 _ _).trans (teq hc85).1) (by decide) (by decide) ?_
        show own_S p e below T82 m 341 #[iv xk, iv xa, iv xb, iv xc, rv a2, iv fr, iv to, iv oo, iv (own_bi bv), iv (own_bi bw), iv ss, rv a16, iv (own_K b0 b1 b2 kf), iv (own_K b0 b1 b2 (own_kt kf bb)), iv (own_K b0 b1 b2 (own_ko kf bb)), iv ei, own_lv pre1, .second, iv pft1, iv (-1 : Int32), iv bls1, iv sos1, iv (own_pr (own_K b0 b1 b2) (fun _ => -1) (own_pR (own_K b0 b1 b2) (fun _ => -1) (fun _ _ => -1) kf (own_kt kf bb) (own_bi bw)) kf (own_kt kf bb)), own_lv (pre1 + pls1), .second, .unset] [] _
        refine XS.iload X82.here hx rfl (hb hby at_341) rfl ?_
        show own_S p e below T82 m 343 #[iv xk, iv xa, iv xb, iv xc, rv a2, iv fr, iv to, iv oo, iv (own_bi bv), iv (own_bi bw), iv ss, rv a16, iv (own_K b0 b1 b2 kf), iv (own_K b0 b1 b2 (own_kt kf bb)), iv (own_K b0 b1 b2 (own_ko kf bb)), iv ei, own_lv pre1, .second, iv pft1, iv (-1 : Int32), iv bls1, iv sos1, iv (own_pr (own_K b0 b1 b2) (fun _ => -1) (own_pR (own_K b0 b1 b2) (fun _ => -1) (fun _ _ => -1) kf (own_kt kf bb) (own_bi bw)) kf (own_kt kf bb)), own_lv (pre1 + pls1), .second, .unset] [(.int pft1)] _
        rw [hecs1] at kt
        rw [show efts1 = pft1 from by rw [hefts1, if_pos hc85]] at kt
        exact kt
      · refine XS.ifNo X82.here hx rfl (hb hby at_333) rfl ((if0 _ _).trans (feq hc85).1) ?_
        show own_S p e below T82 m 336 #[iv xk, iv xa, iv xb, iv xc, rv a2, iv fr, iv to, iv oo, iv (own_bi bv), iv (own_bi bw), iv ss, rv a16, iv (own_K b0 b1 b2 kf), iv (own_K b0 b1 b2 (own_kt kf bb)), iv (own_K b0 b1 b2 (own_ko kf bb)), iv ei, own_lv pre1, .second, iv pft1, iv (-1 : Int32), iv bls1, iv sos1, iv (own_pr (own_K b0 b1 b2) (fun _ => -1) (own_pR (own_K b0 b1 b2) (fun _ => -1) (fun _ _ => -1) kf (own_kt kf bb) (own_bi bw)) kf (own_kt kf bb)), own_lv (pre1 + pls1), .second, .unset] [] _
        refine XS.iload X82.here hx rfl (hb hby at_336) rfl ?_
        show own_S p e below T82 m 338 #[iv xk, iv xa, iv xb, iv xc, rv a2, iv fr, iv to, iv oo, iv (own_bi bv), iv (own_bi bw), iv ss, rv a16, iv (own_K b0 b1 b2 kf), iv (own_K b0 b1 b2 (own_kt kf bb)), iv (own_K b0 b1 b2 (own_ko kf bb)), iv ei, own_lv pre1, .second, iv pft1, iv (-1 : Int32), iv bls1, iv sos1, iv (own_pr (own_K b0 b1 b2) (fun _ => -1) (own_pR (own_K b0 b1 b2) (fun _ => -1) (fun _ _ => -1) kf (own_kt kf bb) (own_bi bw)) kf (own_kt kf bb)), own_lv (pre1 + pls1), .second, .unset] [(.int (own_bi bv))] _
        refine XS.goto X82.here hx rfl (pc0 := 338) (pc' := 343) rfl (hb hby at_338) (by decide) (by decide) ?_
        show own_S p e below T82 m 343 #[iv xk, iv xa, iv xb, iv xc, rv a2, iv fr, iv to, iv oo, iv (own_bi bv), iv (own_bi bw), iv ss, rv a16, iv (own_K b0 b1 b2 kf), iv (own_K b0 b1 b2 (own_kt kf bb)), iv (own_K b0 b1 b2 (own_ko kf bb)), iv ei, own_lv pre1, .second, iv pft1, iv (-1 : Int32), iv bls1, iv sos1, iv (own_pr (own_K b0 b1 b2) (fun _ => -1) (own_pR (own_K b0 b1 b2) (fun _ => -1) (fun _ _ => -1) kf (own_kt kf bb) (own_bi bw)) kf (own_kt kf bb)), own_lv (pre1 + pls1), .second, .unset] [(.int (own_bi bv))] _
        rw [hecs1] at kt
        rw [show efts1 = (own_bi bv) from by rw [hefts1, if_neg hc85]] at kt
        exact kt
    refine own_st sg86 ?_
    obtain ⟨nbs1, hnbs1⟩ : ∃ z : Int32, z = (if bls1 = (0 : Int32) then (1 : Int32) else (0 : Int32)) := ⟨_, rfl⟩
    have sg88 : own_V p e below T82 (mkF m 357 #[iv xk, iv xa, iv xb, iv xc, rv a2, iv fr, iv to, iv oo, iv (own_bi bv), iv (own_bi bw), iv ss, rv a16, iv (own_K b0 b1 b2 kf), iv (own_K b0 b1 b2 (own_kt kf bb)), iv (own_K b0 b1 b2 (own_ko kf bb)), iv ei, own_lv pre1, .second, iv pft1, iv (-1 : Int32), iv bls1, iv sos1, iv (own_pr (own_K b0 b1 b2) (fun _ => -1) (own_pR (own_K b0 b1 b2) (fun _ => -1) (fun _ _ => -1) kf (own_kt kf bb) (own_bi bw)) kf (own_kt kf bb)), own_lv ecs1, .second, iv efts1] [(.int nbs1), (.int (own_pr (own_K b0 b1 b2) (fun _ => -1) (own_pR (own_K b0 b1 b2) (fun _ => -1) (fun _ _ => -1) kf (own_kt kf bb) (own_bi bw)) kf (own_kt kf bb)))]) (mkF m 343 #[iv xk, iv xa, iv xb, iv xc, rv a2, iv fr, iv to, iv oo, iv (own_bi bv), iv (own_bi bw), iv ss, rv a16, iv (own_K b0 b1 b2 kf), iv (own_K b0 b1 b2 (own_kt kf bb)), iv (own_K b0 b1 b2 (own_ko kf bb)), iv ei, own_lv pre1, .second, iv pft1, iv (-1 : Int32), iv bls1, iv sos1, iv (own_pr (own_K b0 b1 b2) (fun _ => -1) (own_pR (own_K b0 b1 b2) (fun _ => -1) (fun _ _ => -1) kf (own_kt kf bb) (own_bi bw)) kf (own_kt kf bb)), own_lv ecs1, .second, .unset] [(.int efts1)]) := by
      intro t kt
      refine XS.istore X82.here hx rfl (hb hby at_343) rfl (l' := #[iv xk, iv xa, iv xb, iv xc, rv a2, iv fr, iv to, iv oo, iv (own_bi bv), iv (own_bi bw), iv ss, rv a16, iv (own_K b0 b1 b2 kf), iv (own_K b0 b1 b2 (own_kt kf bb)), iv (own_K b0 b1 b2 (own_ko kf bb)), iv ei, own_lv pre1, .second, iv pft1, iv (-1 : Int32), iv bls1, iv sos1, iv (own_pr (own_K b0 b1 b2) (fun _ => -1) (own_pR (own_K b0 b1 b2) (fun _ => -1) (fun _ _ => -1) kf (own_kt kf bb) (own_bi bw)) kf (own_kt kf bb)), own_lv ecs1, .second, iv efts1]) rfl ?_
      show own_S p e below T82 m 345 #[iv xk, iv xa, iv xb, iv xc, rv a2, iv fr, iv to, iv oo, iv (own_bi bv), iv (own_bi bw), iv ss, rv a16, iv (own_K b0 b1 b2 kf), iv (own_K b0 b1 b2 (own_kt kf bb)), iv (own_K b0 b1 b2 (own_ko kf bb)), iv ei, own_lv pre1, .second, iv pft1, iv (-1 : Int32), iv bls1, iv sos1, iv (own_pr (own_K b0 b1 b2) (fun _ => -1) (own_pR (own_K b0 b1 b2) (fun _ => -1) (fun _ _ => -1) kf (own_kt kf bb) (own_bi bw)) kf (own_kt kf bb)), own_lv ecs1, .second, iv efts1] [] _
      refine XS.iload X82.here hx rfl (hb hby at_345) rfl ?_
      show own_S p e below T82 m 347 #[iv xk, iv xa, iv xb, iv xc, rv a2, iv fr, iv to, iv oo, iv (own_bi bv), iv (own_bi bw), iv ss, rv a16, iv (own_K b0 b1 b2 kf), iv (own_K b0 b1 b2 (own_kt kf bb)), iv (own_K b0 b1 b2 (own_ko kf bb)), iv ei, own_lv pre1, .second, iv pft1, iv (-1 : Int32), iv bls1, iv sos1, iv (own_pr (own_K b0 b1 b2) (fun _ => -1) (own_pR (own_K b0 b1 b2) (fun _ => -1) (fun _ _ => -1) kf (own_kt kf bb) (own_bi bw)) kf (own_kt kf bb)), own_lv ecs1, .second, iv efts1] [(.int (own_pr (own_K b0 b1 b2) (fun _ => -1) (own_pR (own_K b0 b1 b2) (fun _ => -1) (fun _ _ => -1) kf (own_kt kf bb) (own_bi bw)) kf (own_kt kf bb)))] _
      refine XS.iload X82.here hx rfl (hb hby at_347) rfl ?_
      show own_S p e below T82 m 349 #[iv xk, iv xa, iv xb, iv xc, rv a2, iv fr, iv to, iv oo, iv (own_bi bv), iv (own_bi bw), iv ss, rv a16, iv (own_K b0 b1 b2 kf), iv (own_K b0 b1 b2 (own_kt kf bb)), iv (own_K b0 b1 b2 (own_ko kf bb)), iv ei, own_lv pre1, .second, iv pft1, iv (-1 : Int32), iv bls1, iv sos1, iv (own_pr (own_K b0 b1 b2) (fun _ => -1) (own_pR (own_K b0 b1 b2) (fun _ => -1) (fun _ _ => -1) kf (own_kt kf bb) (own_bi bw)) kf (own_kt kf bb)), own_lv ecs1, .second, iv efts1] [(.int bls1), (.int (own_pr (own_K b0 b1 b2) (fun _ => -1) (own_pR (own_K b0 b1 b2) (fun _ => -1) (fun _ _ => -1) kf (own_kt kf bb) (own_bi bw)) kf (own_kt kf bb)))] _
      by_cases hc87 : bls1 = (0 : Int32)
      · refine XS.ifNo X82.here hx rfl (hb hby at_349) rfl ((if0 _ _).trans (teq hc87).2) ?_
        show own_S p e below T82 m 352 #[iv xk, iv xa, iv xb, iv xc, rv a2, iv fr, iv to, iv oo, iv (own_bi bv), iv (own_bi bw), iv ss, rv a16, iv (own_K b0 b1 b2 kf), iv (own_K b0 b1 b2 (own_kt kf bb)), iv (own_K b0 b1 b2 (own_ko kf bb)), iv ei, own_lv pre1, .second, iv pft1, iv (-1 : Int32), iv bls1, iv sos1, iv (own_pr (own_K b0 b1 b2) (fun _ => -1) (own_pR (own_K b0 b1 b2) (fun _ => -1) (fun _ _ => -1) kf (own_kt kf bb) (own_bi bw)) kf (own_kt kf bb)), own_lv ecs1, .second, iv efts1] [(.int (own_pr (own_K b0 b1 b2) (fun _ => -1) (own_pR (own_K b0 b1 b2) (fun _ => -1) (fun _ _ => -1) kf (own_kt kf bb) (own_bi bw)) kf (own_kt kf bb)))] _
        refine XS.iconst X82.here hx rfl (hb hby at_352) ?_
        show own_S p e below T82 m 353 #[iv xk, iv xa, iv xb, iv xc, rv a2, iv fr, iv to, iv oo, iv (own_bi bv), iv (own_bi bw), iv ss, rv a16, iv (own_K b0 b1 b2 kf), iv (own_K b0 b1 b2 (own_kt kf bb)), iv (own_K b0 b1 b2 (own_ko kf bb)), iv ei, own_lv pre1, .second, iv pft1, iv (-1 : Int32), iv bls1, iv sos1, iv (own_pr (own_K b0 b1 b2) (fun _ => -1) (own_pR (own_K b0 b1 b2) (fun _ => -1) (fun _ _ => -1) kf (own_kt kf bb) (own_bi bw)) kf (own_kt kf bb)), own_lv ecs1, .second, iv efts1] [(.int (1 : Int32)), (.int (own_pr (own_K b0 b1 b2) (fun _ => -1) (own_pR (own_K b0 b1 b2) (fun _ => -1) (fun _ _ => -1) kf (own_kt kf bb) (own_bi bw)) kf (own_kt kf bb)))] _
        refine XS.goto X82.here hx rfl (pc0 := 353) (pc' := 357) rfl (hb hby at_353) (by decide) (by decide) ?_
        show own_S p e below T82 m 357 #[iv xk, iv xa, iv xb, iv xc, rv a2, iv fr, iv to, iv oo, iv (own_bi bv), iv (own_bi bw), iv ss, rv a16, iv (own_K b0 b1 b2 kf), iv (own_K b0 b1 b2 (own_kt kf bb)), iv (own_K b0 b1 b2 (own_ko kf bb)), iv ei, own_lv pre1, .second, iv pft1, iv (-1 : Int32), iv bls1, iv sos1, iv (own_pr (own_K b0 b1 b2) (fun _ => -1) (own_pR (own_K b0 b1 b2) (fun _ => -1) (fun _ _ => -1) kf (own_kt kf bb) (own_bi bw)) kf (own_kt kf bb)), own_lv ecs1, .second, iv efts1] [(.int (1 : Int32)), (.int (own_pr (own_K b0 b1 b2) (fun _ => -1) (own_pR (own_K b0 b1 b2) (fun _ => -1) (fun _ _ => -1) kf (own_kt kf bb) (own_bi bw)) kf (own_kt kf bb)))] _
        rw [show nbs1 = (1 : Int32) from by rw [hnbs1, if_pos hc87]] at kt
        exact kt
      · refine XS.ifYes X82.here hx rfl (pc0 := 349) (pc' := 356) rfl (hb hby at_349) rfl ((if0 _ _).trans (feq hc87).2) (by decide) (by decide) ?_
        show own_S p e below T82 m 356 #[iv xk, iv xa, iv xb, iv xc, rv a2, iv fr, iv to, iv oo, iv (own_bi bv), iv (own_bi bw), iv ss, rv a16, iv (own_K b0 b1 b2 kf), iv (own_K b0 b1 b2 (own_kt kf bb)), iv (own_K b0 b1 b2 (own_ko kf bb)), iv ei, own_lv pre1, .second, iv pft1, iv (-1 : Int32), iv bls1, iv sos1, iv (own_pr (own_K b0 b1 b2) (fun _ => -1) (own_pR (own_K b0 b1 b2) (fun _ => -1) (fun _ _ => -1) kf (own_kt kf bb) (own_bi bw)) kf (own_kt kf bb)), own_lv ecs1, .second, iv efts1] [(.int (own_pr (own_K b0 b1 b2) (fun _ => -1) (own_pR (own_K b0 b1 b2) (fun _ => -1) (fun _ _ => -1) kf (own_kt kf bb) (own_bi bw)) kf (own_kt kf bb)))] _
        refine XS.iconst X82.here hx rfl (hb hby at_356) ?_
        show own_S p e below T82 m 357 #[iv xk, iv xa, iv xb, iv xc, rv a2, iv fr, iv to, iv oo, iv (own_bi bv), iv (own_bi bw), iv ss, rv a16, iv (own_K b0 b1 b2 kf), iv (own_K b0 b1 b2 (own_kt kf bb)), iv (own_K b0 b1 b2 (own_ko kf bb)), iv ei, own_lv pre1, .second, iv pft1, iv (-1 : Int32), iv bls1, iv sos1, iv (own_pr (own_K b0 b1 b2) (fun _ => -1) (own_pR (own_K b0 b1 b2) (fun _ => -1) (fun _ _ => -1) kf (own_kt kf bb) (own_bi bw)) kf (own_kt kf bb)), own_lv ecs1, .second, iv efts1] [(.int (0 : Int32)), (.int (own_pr (own_K b0 b1 b2) (fun _ => -1) (own_pR (own_K b0 b1 b2) (fun _ => -1) (fun _ _ => -1) kf (own_kt kf bb) (own_bi bw)) kf (own_kt kf bb)))] _
        rw [show nbs1 = (0 : Int32) from by rw [hnbs1, if_neg hc87]] at kt
        exact kt
    refine own_st sg88 ?_
    have FINs1 := own_fins1 b0 b1 b2 ⟨kf, hf3⟩ bb bv bw
    have hd_ei : ei = own_f_ei b0 b1 b2 kf bb bv bw := by subst hei; rfl
    have hd_pre1 : pre1 = own_f_pre1 b0 b1 b2 kf bb bv bw := by subst hpre1 hei; rfl
    have hd_pft1 : pft1 = own_f_pft1 b0 b1 b2 kf bb bv bw := by subst hpft1 hpre1 hei; rfl
    have hd_bls1 : bls1 = own_f_bls1 b0 b1 b2 kf bb bv bw := by subst hbls1 hpft1 hpre1 hei; rfl
    have hd_sos1 : sos1 = own_f_sos1 b0 b1 b2 kf bb bv bw := by subst hsos1 hbls1 hpft1 hpre1 hei; rfl
    have hd_pls1 : pls1 = own_f_pls1 b0 b1 b2 kf bb bv bw := by subst hpls1 hsos1 hbls1 hpft1 hpre1 hei; rfl
    have hd_ecs1 : ecs1 = own_f_ecs1 b0 b1 b2 kf bb bv bw := by subst hecs1 hpls1 hsos1 hbls1 hpft1 hpre1 hei; rfl
    have hd_efts1 : efts1 = own_f_efts1 b0 b1 b2 kf bb bv bw := by subst hefts1 hecs1 hpls1 hsos1 hbls1 hpft1 hpre1 hei; rfl
    have hd_nbs1 : nbs1 = own_f_nbs1 b0 b1 b2 kf bb bv bw := by subst hnbs1 hefts1 hecs1 hpls1 hsos1 hbls1 hpft1 hpre1 hei; rfl
    have hc89 : (own_pr (own_K b0 b1 b2) (fun _ => -1) (own_pR (own_K b0 b1 b2) (fun _ => -1) (fun _ _ => -1) kf (own_kt kf bb) (own_bi bw)) kf (own_kt kf bb)) = nbs1 := by rw [hd_nbs1]; exact FINs1.1
    have sg90 : own_V p e below T82 (mkF m 360 #[iv xk, iv xa, iv xb, iv xc, rv a2, iv fr, iv to, iv oo, iv (own_bi bv), iv (own_bi bw), iv ss, rv a16, iv (own_K b0 b1 b2 kf), iv (own_K b0 b1 b2 (own_kt kf bb)), iv (own_K b0 b1 b2 (own_ko kf bb)), iv ei, own_lv pre1, .second, iv pft1, iv (-1 : Int32), iv bls1, iv sos1, iv (own_pr (own_K b0 b1 b2) (fun _ => -1) (own_pR (own_K b0 b1 b2) (fun _ => -1) (fun _ _ => -1) kf (own_kt kf bb) (own_bi bw)) kf (own_kt kf bb)), own_lv ecs1, .second, iv efts1] []) (mkF m 357 #[iv xk, iv xa, iv xb, iv xc, rv a2, iv fr, iv to, iv oo, iv (own_bi bv), iv (own_bi bw), iv ss, rv a16, iv (own_K b0 b1 b2 kf), iv (own_K b0 b1 b2 (own_kt kf bb)), iv (own_K b0 b1 b2 (own_ko kf bb)), iv ei, own_lv pre1, .second, iv pft1, iv (-1 : Int32), iv bls1, iv sos1, iv (own_pr (own_K b0 b1 b2) (fun _ => -1) (own_pR (own_K b0 b1 b2) (fun _ => -1) (fun _ _ => -1) kf (own_kt kf bb) (own_bi bw)) kf (own_kt kf bb)), own_lv ecs1, .second, iv efts1] [(.int nbs1), (.int (own_pr (own_K b0 b1 b2) (fun _ => -1) (own_pR (own_K b0 b1 b2) (fun _ => -1) (fun _ _ => -1) kf (own_kt kf bb) (own_bi bw)) kf (own_kt kf bb)))]) := by
      intro t kt
      refine XS.icmpNo X82.here hx rfl (hb hby at_357) rfl (teq hc89).2 ?_
      exact kt
    refine own_st sg90 ?_
    obtain ⟨v91, hv91⟩ : ∃ z : Int32, z = (own_pr (own_K b0 b1 b2) (fun _ => -1) (own_pR (own_K b0 b1 b2) (fun _ => -1) (fun _ _ => -1) kf (own_kt kf bb) (own_bi bw)) kf (own_kt kf bb)) := ⟨_, rfl⟩
    have sg92 : own_V p e below T82 (mkF m 362 #[iv xk, iv xa, iv xb, iv xc, rv a2, iv fr, iv to, iv oo, iv (own_bi bv), iv (own_bi bw), iv ss, rv a16, iv (own_K b0 b1 b2 kf), iv (own_K b0 b1 b2 (own_kt kf bb)), iv (own_K b0 b1 b2 (own_ko kf bb)), iv ei, own_lv pre1, .second, iv pft1, iv (-1 : Int32), iv bls1, iv sos1, iv v91, own_lv ecs1, .second, iv efts1] [(.ref a16)]) (mkF m 360 #[iv xk, iv xa, iv xb, iv xc, rv a2, iv fr, iv to, iv oo, iv (own_bi bv), iv (own_bi bw), iv ss, rv a16, iv (own_K b0 b1 b2 kf), iv (own_K b0 b1 b2 (own_kt kf bb)), iv (own_K b0 b1 b2 (own_ko kf bb)), iv ei, own_lv pre1, .second, iv pft1, iv (-1 : Int32), iv bls1, iv sos1, iv (own_pr (own_K b0 b1 b2) (fun _ => -1) (own_pR (own_K b0 b1 b2) (fun _ => -1) (fun _ _ => -1) kf (own_kt kf bb) (own_bi bw)) kf (own_kt kf bb)), own_lv ecs1, .second, iv efts1] []) := by
      intro t kt
      refine XS.aload X82.here hx rfl (hb hby at_360) rfl rfl ?_
      show own_S p e below T82 m 362 #[iv xk, iv xa, iv xb, iv xc, rv a2, iv fr, iv to, iv oo, iv (own_bi bv), iv (own_bi bw), iv ss, rv a16, iv (own_K b0 b1 b2 kf), iv (own_K b0 b1 b2 (own_kt kf bb)), iv (own_K b0 b1 b2 (own_ko kf bb)), iv ei, own_lv pre1, .second, iv pft1, iv (-1 : Int32), iv bls1, iv sos1, iv (own_pr (own_K b0 b1 b2) (fun _ => -1) (own_pR (own_K b0 b1 b2) (fun _ => -1) (fun _ _ => -1) kf (own_kt kf bb) (own_bi bw)) kf (own_kt kf bb)), own_lv ecs1, .second, iv efts1] [(.ref a16)] _
      rw [hv91] at kt
      exact kt
    refine own_st sg92 ?_
    obtain ⟨_, T93, L93, X93, hQ93, st93⟩ := own_callV (y := (⟨"com/example/kingsround/kingsround/engine/Deliveries", "count", "()J"⟩ : MethodName)) (y0 := (⟨"com/example/kingsround/kingsround/engine/Deliveries", "count", "()J"⟩ : MethodName)) (a := a16) (C := "com/example/kingsround/kingsround/engine/Deliveries") X82 hx hZ hown HD82.1 (hw _ (List.mem_of_getElem? (i := 82) rfl)) (hw _ (List.mem_of_getElem? (i := 83) rfl)) (hw _ (List.mem_of_getElem? (i := 85) rfl)) (notFace_of_selects (args := #[]) (mvT hZ (hw _ (List.mem_of_getElem? (i := 85) rfl)))) (hw _ (List.mem_of_getElem? (i := 84) rfl)) (hw _ (List.mem_of_getElem? (i := 4) rfl)) (hw _ (List.mem_of_getElem? (i := 86) rfl)) (by decide) (own_rmcnt l Z a0 hw a16  ib kp ta ob q r (own_K b0 b1 b2) (fun _ => -1) (own_pO (own_K b0 b1 b2) (fun _ => -1) (own_pO (own_K b0 b1 b2) (fun _ => -1) (fun _ => 0) (fun _ _ => -1) kf (own_kt kf bb)) (own_pR (own_K b0 b1 b2) (fun _ => -1) (fun _ _ => -1) kf (own_kt kf bb) (own_bi bw)) kf (own_kt kf bb)) (own_pR (own_K b0 b1 b2) (fun _ => -1) (own_pR (own_K b0 b1 b2) (fun _ => -1) (fun _ _ => -1) kf (own_kt kf bb) (own_bi bw)) kf (own_kt kf bb) (own_bi bv)) (own_pc (own_K b0 b1 b2) (fun _ => -1) (own_pR (own_K b0 b1 b2) (fun _ => -1) (fun _ _ => -1) kf (own_kt kf bb) (own_bi bw)) kf (own_kt kf bb) (own_pc (own_K b0 b1 b2) (fun _ => -1) (fun _ _ => -1) kf (own_kt kf bb) 0))  T82.heap n0 Z82 HA HD82 ) rfl (g := (mkF m 362 #[iv xk, iv xa, iv xb, iv xc, rv a2, iv fr, iv to, iv oo, iv (own_bi bv), iv (own_bi bw), iv ss, rv a16, iv (own_K b0 b1 b2 kf), iv (own_K b0 b1 b2 (own_kt kf bb)), iv (own_K b0 b1 b2 (own_ko kf bb)), iv ei, own_lv pre1, .second, iv pft1, iv (-1 : Int32), iv bls1, iv sos1, iv v91, own_lv ecs1, .second, iv efts1] [(.ref a16)])) rfl (by rw [hml]; rfl) (argsL := []) (rest := []) (lenOf own_pd8 rfl) rfl (W := 0) (by show 2 * 0 + _ ≤ _; exact Nat.le_of_eq rfl) (hb hby at_362) (by decide) (by decide) (by decide) (by decide)
    obtain ⟨rfl, Nq93, e93⟩ := hQ93
    refine own_st st93 ?_
    have N93 := Fr.app N82 Nq93
    show own_Go p e below _ T93 (mkF m 365 #[iv xk, iv xa, iv xb, iv xc, rv a2, iv fr, iv to, iv oo, iv (own_bi bv), iv (own_bi bw), iv ss, rv a16, iv (own_K b0 b1 b2 kf), iv (own_K b0 b1 b2 (own_kt kf bb)), iv (own_K b0 b1 b2 (own_ko kf bb)), iv ei, own_lv pre1, .second, iv pft1, iv (-1 : Int32), iv bls1, iv sos1, iv v91, own_lv ecs1, .second, iv efts1] [(.long (own_pc (own_K b0 b1 b2) (fun _ => -1) (own_pR (own_K b0 b1 b2) (fun _ => -1) (fun _ _ => -1) kf (own_kt kf bb) (own_bi bw)) kf (own_kt kf bb) (own_pc (own_K b0 b1 b2) (fun _ => -1) (fun _ _ => -1) kf (own_kt kf bb) 0)))])
    have sg94 : own_V p e below T93 (mkF m 368 #[iv xk, iv xa, iv xb, iv xc, rv a2, iv fr, iv to, iv oo, iv (own_bi bv), iv (own_bi bw), iv ss, rv a16, iv (own_K b0 b1 b2 kf), iv (own_K b0 b1 b2 (own_kt kf bb)), iv (own_K b0 b1 b2 (own_ko kf bb)), iv ei, own_lv pre1, .second, iv pft1, iv (-1 : Int32), iv bls1, iv sos1, iv v91, own_lv ecs1, .second, iv efts1] [(.int (lcmpW (own_pc (own_K b0 b1 b2) (fun _ => -1) (own_pR (own_K b0 b1 b2) (fun _ => -1) (fun _ _ => -1) kf (own_kt kf bb) (own_bi bw)) kf (own_kt kf bb) (own_pc (own_K b0 b1 b2) (fun _ => -1) (fun _ _ => -1) kf (own_kt kf bb) 0)) ecs1))]) (mkF m 365 #[iv xk, iv xa, iv xb, iv xc, rv a2, iv fr, iv to, iv oo, iv (own_bi bv), iv (own_bi bw), iv ss, rv a16, iv (own_K b0 b1 b2 kf), iv (own_K b0 b1 b2 (own_kt kf bb)), iv (own_K b0 b1 b2 (own_ko kf bb)), iv ei, own_lv pre1, .second, iv pft1, iv (-1 : Int32), iv bls1, iv sos1, iv v91, own_lv ecs1, .second, iv efts1] [(.long (own_pc (own_K b0 b1 b2) (fun _ => -1) (own_pR (own_K b0 b1 b2) (fun _ => -1) (fun _ _ => -1) kf (own_kt kf bb) (own_bi bw)) kf (own_kt kf bb) (own_pc (own_K b0 b1 b2) (fun _ => -1) (fun _ _ => -1) kf (own_kt kf bb) 0)))]) := by
      intro t kt
      refine XS.lload X93.here hx rfl (hb hby at_365) rfl ?_
      show own_S p e below T93 m 367 #[iv xk, iv xa, iv xb, iv xc, rv a2, iv fr, iv to, iv oo, iv (own_bi bv), iv (own_bi bw), iv ss, rv a16, iv (own_K b0 b1 b2 kf), iv (own_K b0 b1 b2 (own_kt kf bb)), iv (own_K b0 b1 b2 (own_ko kf bb)), iv ei, own_lv pre1, .second, iv pft1, iv (-1 : Int32), iv bls1, iv sos1, iv v91, own_lv ecs1, .second, iv efts1] [(.long ecs1), (.long (own_pc (own_K b0 b1 b2) (fun _ => -1) (own_pR (own_K b0 b1 b2) (fun _ => -1) (fun _ _ => -1) kf (own_kt kf bb) (own_bi bw)) kf (own_kt kf bb) (own_pc (own_K b0 b1 b2) (fun _ => -1) (fun _ _ => -1) kf (own_kt kf bb) 0)))] _
      refine XS.lcmp X93.here hx rfl (hb hby at_367) rfl ?_
      show own_S p e below T93 m 368 #[iv xk, iv xa, iv xb, iv xc, rv a2, iv fr, iv to, iv oo, iv (own_bi bv), iv (own_bi bw), iv ss, rv a16, iv (own_K b0 b1 b2 kf), iv (own_K b0 b1 b2 (own_kt kf bb)), iv (own_K b0 b1 b2 (own_ko kf bb)), iv ei, own_lv pre1, .second, iv pft1, iv (-1 : Int32), iv bls1, iv sos1, iv v91, own_lv ecs1, .second, iv efts1] [(.int (lcmpW (own_pc (own_K b0 b1 b2) (fun _ => -1) (own_pR (own_K b0 b1 b2) (fun _ => -1) (fun _ _ => -1) kf (own_kt kf bb) (own_bi bw)) kf (own_kt kf bb) (own_pc (own_K b0 b1 b2) (fun _ => -1) (fun _ _ => -1) kf (own_kt kf bb) 0)) ecs1))] _
      exact kt
    refine own_st sg94 ?_
    have hc95 : (own_pc (own_K b0 b1 b2) (fun _ => -1) (own_pR (own_K b0 b1 b2) (fun _ => -1) (fun _ _ => -1) kf (own_kt kf bb) (own_bi bw)) kf (own_kt kf bb) (own_pc (own_K b0 b1 b2) (fun _ => -1) (fun _ _ => -1) kf (own_kt kf bb) 0)) = ecs1 := by rw [hd_ecs1]; exact FINs1.2.1
    have sg96 : own_V p e below T93 (mkF m 371 #[iv xk, iv xa, iv xb, iv xc, rv a2, iv fr, iv to, iv oo, iv (own_bi bv), iv (own_bi bw), iv ss, rv a16, iv (own_K b0 b1 b2 kf), iv (own_K b0 b1 b2 (own_kt kf bb)), iv (own_K b0 b1 b2 (own_ko kf bb)), iv ei, own_lv pre1, .second, iv pft1, iv (-1 : Int32), iv bls1, iv sos1, iv v91, own_lv ecs1, .second, iv efts1] []) (mkF m 368 #[iv xk, iv xa, iv xb, iv xc, rv a2, iv fr, iv to, iv oo, iv (own_bi bv), iv (own_bi bw), iv ss, rv a16, iv (own_K b0 b1 b2 kf), iv (own_K b0 b1 b2 (own_kt kf bb)), iv (own_K b0 b1 b2 (own_ko kf bb)), iv ei, own_lv pre1, .second, iv pft1, iv (-1 : Int32), iv bls1, iv sos1, iv v91, own_lv ecs1, .second, iv efts1] [(.int (lcmpW (own_pc (own_K b0 b1 b2) (fun _ => -1) (own_pR (own_K b0 b1 b2) (fun _ => -1) (fun _ _ => -1) kf (own_kt kf bb) (own_bi bw)) kf (own_kt kf bb) (own_pc (own_K b0 b1 b2) (fun _ => -1) (fun _ _ => -1) kf (own_kt kf bb) 0)) ecs1))]) := by
      intro t kt
      refine XS.ifNo X93.here hx rfl (hb hby at_368) rfl (own_teqL hc95).2 ?_
      exact kt
    refine own_st sg96 ?_
    have sg97 : own_V p e below T93 (mkF m 377 #[iv xk, iv xa, iv xb, iv xc, rv a2, iv fr, iv to, iv oo, iv (own_bi bv), iv (own_bi bw), iv ss, rv a16, iv (own_K b0 b1 b2 kf), iv (own_K b0 b1 b2 (own_kt kf bb)), iv (own_K b0 b1 b2 (own_ko kf bb)), iv ei, own_lv pre1, .second, iv pft1, iv (-1 : Int32), iv bls1, iv sos1, iv v91, own_lv ecs1, .second, iv efts1] [(.int to), (.int fr), (.ref a16)]) (mkF m 371 #[iv xk, iv xa, iv xb, iv xc, rv a2, iv fr, iv to, iv oo, iv (own_bi bv), iv (own_bi bw), iv ss, rv a16, iv (own_K b0 b1 b2 kf), iv (own_K b0 b1 b2 (own_kt kf bb)), iv (own_K b0 b1 b2 (own_ko kf bb)), iv ei, own_lv pre1, .second, iv pft1, iv (-1 : Int32), iv bls1, iv sos1, iv v91, own_lv ecs1, .second, iv efts1] []) := by
      intro t kt
      refine XS.aload X93.here hx rfl (hb hby at_371) rfl rfl ?_
      show own_S p e below T93 m 373 #[iv xk, iv xa, iv xb, iv xc, rv a2, iv fr, iv to, iv oo, iv (own_bi bv), iv (own_bi bw), iv ss, rv a16, iv (own_K b0 b1 b2 kf), iv (own_K b0 b1 b2 (own_kt kf bb)), iv (own_K b0 b1 b2 (own_ko kf bb)), iv ei, own_lv pre1, .second, iv pft1, iv (-1 : Int32), iv bls1, iv sos1, iv v91, own_lv ecs1, .second, iv efts1] [(.ref a16)] _
      refine XS.iload X93.here hx rfl (hb hby at_373) rfl ?_
      show own_S p e below T93 m 375 #[iv xk, iv xa, iv xb, iv xc, rv a2, iv fr, iv to, iv oo, iv (own_bi bv), iv (own_bi bw), iv ss, rv a16, iv (own_K b0 b1 b2 kf), iv (own_K b0 b1 b2 (own_kt kf bb)), iv (own_K b0 b1 b2 (own_ko kf bb)), iv ei, own_lv pre1, .second, iv pft1, iv (-1 : Int32), iv bls1, iv sos1, iv v91, own_lv ecs1, .second, iv efts1] [(.int fr), (.ref a16)] _
      refine XS.iload X93.here hx rfl (hb hby at_375) rfl ?_
      show own_S p e below T93 m 377 #[iv xk, iv xa, iv xb, iv xc, rv a2, iv fr, iv to, iv oo, iv (own_bi bv), iv (own_bi bw), iv ss, rv a16, iv (own_K b0 b1 b2 kf), iv (own_K b0 b1 b2 (own_kt kf bb)), iv (own_K b0 b1 b2 (own_ko kf bb)), iv ei, own_lv pre1, .second, iv pft1, iv (-1 : Int32), iv bls1, iv sos1, iv v91, own_lv ecs1, .second, iv efts1] [(.int to), (.int fr), (.ref a16)] _
      exact kt
    refine own_st sg97 ?_
    obtain ⟨_, T98, L98, X98, hQ98, st98⟩ := own_callV (y := (⟨"com/example/kingsround/kingsround/engine/Deliveries", "value", "(II)I"⟩ : MethodName)) (y0 := (⟨"com/example/kingsround/kingsround/engine/Deliveries", "value", "(II)I"⟩ : MethodName)) (a := a16) (C := "com/example/kingsround/kingsround/engine/Deliveries") X93 hx hZ hown HD82.1 (hw _ (List.mem_of_getElem? (i := 89) rfl)) (hw _ (List.mem_of_getElem? (i := 90) rfl)) (hw _ (List.mem_of_getElem? (i := 92) rfl)) (notFace_of_selects (args := #[]) (mvT hZ (hw _ (List.mem_of_getElem? (i := 92) rfl)))) (hw _ (List.mem_of_getElem? (i := 91) rfl)) (hw _ (List.mem_of_getElem? (i := 4) rfl)) (hw _ (List.mem_of_getElem? (i := 93) rfl)) (by decide) (own_rmval l Z a0 hw a16 fr to ib kp ta ob q r (own_K b0 b1 b2) (fun _ => -1) (own_pO (own_K b0 b1 b2) (fun _ => -1) (own_pO (own_K b0 b1 b2) (fun _ => -1) (fun _ => 0) (fun _ _ => -1) kf (own_kt kf bb)) (own_pR (own_K b0 b1 b2) (fun _ => -1) (fun _ _ => -1) kf (own_kt kf bb) (own_bi bw)) kf (own_kt kf bb)) (own_pR (own_K b0 b1 b2) (fun _ => -1) (own_pR (own_K b0 b1 b2) (fun _ => -1) (fun _ _ => -1) kf (own_kt kf bb) (own_bi bw)) kf (own_kt kf bb) (own_bi bv)) (own_pc (own_K b0 b1 b2) (fun _ => -1) (own_pR (own_K b0 b1 b2) (fun _ => -1) (fun _ _ => -1) kf (own_kt kf bb) (own_bi bw)) kf (own_kt kf bb) (own_pc (own_K b0 b1 b2) (fun _ => -1) (fun _ _ => -1) kf (own_kt kf bb) 0)) kf (own_kt kf bb) T82.heap n0 Z82 HA HD82 hkf hkt hf3 ht3) e93 (g := (mkF m 377 #[iv xk, iv xa, iv xb, iv xc, rv a2, iv fr, iv to, iv oo, iv (own_bi bv), iv (own_bi bw), iv ss, rv a16, iv (own_K b0 b1 b2 kf), iv (own_K b0 b1 b2 (own_kt kf bb)), iv (own_K b0 b1 b2 (own_ko kf bb)), iv ei, own_lv pre1, .second, iv pft1, iv (-1 : Int32), iv bls1, iv sos1, iv v91, own_lv ecs1, .second, iv efts1] [(.int to), (.int fr), (.ref a16)])) rfl (by rw [hml]; rfl) (argsL := [(.int fr), (.int to)]) (rest := []) (lenOf own_pd9 rfl) rfl (W := 0) (by show 2 * 0 + _ ≤ _; exact Nat.le_of_eq rfl) (hb hby at_377) (by decide) (by decide) (by decide) (by decide)
    obtain ⟨rfl, Nq98, e98⟩ := hQ98
    refine own_st st98 ?_
    have N98 := Fr.app N93 Nq98
    show own_Go p e below _ T98 (mkF m 380 #[iv xk, iv xa, iv xb, iv xc, rv a2, iv fr, iv to, iv oo, iv (own_bi bv), iv (own_bi bw), iv ss, rv a16, iv (own_K b0 b1 b2 kf), iv (own_K b0 b1 b2 (own_kt kf bb)), iv (own_K b0 b1 b2 (own_ko kf bb)), iv ei, own_lv pre1, .second, iv pft1, iv (-1 : Int32), iv bls1, iv sos1, iv v91, own_lv ecs1, .second, iv efts1] [(.int (own_val (fun _ => -1) (own_pR (own_K b0 b1 b2) (fun _ => -1) (own_pR (own_K b0 b1 b2) (fun _ => -1) (fun _ _ => -1) kf (own_kt kf bb) (own_bi bw)) kf (own_kt kf bb) (own_bi bv)) kf (own_kt kf bb)))])
    have sg99 : own_V p e below T98 (mkF m 382 #[iv xk, iv xa, iv xb, iv xc, rv a2, iv fr, iv to, iv oo, iv (own_bi bv), iv (own_bi bw), iv ss, rv a16, iv (own_K b0 b1 b2 kf), iv (own_K b0 b1 b2 (own_kt kf bb)), iv (own_K b0 b1 b2 (own_ko kf bb)), iv ei, own_lv pre1, .second, iv pft1, iv (-1 : Int32), iv bls1, iv sos1, iv v91, own_lv ecs1, .second, iv efts1] [(.int efts1), (.int (own_val (fun _ => -1) (own_pR (own_K b0 b1 b2) (fun _ => -1) (own_pR (own_K b0 b1 b2) (fun _ => -1) (fun _ _ => -1) kf (own_kt kf bb) (own_bi bw)) kf (own_kt kf bb) (own_bi bv)) kf (own_kt kf bb)))]) (mkF m 380 #[iv xk, iv xa, iv xb, iv xc, rv a2, iv fr, iv to, iv oo, iv (own_bi bv), iv (own_bi bw), iv ss, rv a16, iv (own_K b0 b1 b2 kf), iv (own_K b0 b1 b2 (own_kt kf bb)), iv (own_K b0 b1 b2 (own_ko kf bb)), iv ei, own_lv pre1, .second, iv pft1, iv (-1 : Int32), iv bls1, iv sos1, iv v91, own_lv ecs1, .second, iv efts1] [(.int (own_val (fun _ => -1) (own_pR (own_K b0 b1 b2) (fun _ => -1) (own_pR (own_K b0 b1 b2) (fun _ => -1) (fun _ _ => -1) kf (own_kt kf bb) (own_bi bw)) kf (own_kt kf bb) (own_bi bv)) kf (own_kt kf bb)))]) := by
      intro t kt
      refine XS.iload X98.here hx rfl (hb hby at_380) rfl ?_
      show own_S p e below T98 m 382 #[iv xk, iv xa, iv xb, iv xc, rv a2, iv fr, iv to, iv oo, iv (own_bi bv), iv (own_bi bw), iv ss, rv a16, iv (own_K b0 b1 b2 kf), iv (own_K b0 b1 b2 (own_kt kf bb)), iv (own_K b0 b1 b2 (own_ko kf bb)), iv ei, own_lv pre1, .second, iv pft1, iv (-1 : Int32), iv bls1, iv sos1, iv v91, own_lv ecs1, .second, iv efts1] [(.int efts1), (.int (own_val (fun _ => -1) (own_pR (own_K b0 b1 b2) (fun _ => -1) (own_pR (own_K b0 b1 b2) (fun _ => -1) (fun _ _ => -1) kf (own_kt kf bb) (own_bi bw)) kf (own_kt kf bb) (own_bi bv)) kf (own_kt kf bb)))] _
      exact kt
    refine own_st sg99 ?_
    have hc100 : (own_val (fun _ => -1) (own_pR (own_K b0 b1 b2) (fun _ => -1) (own_pR (own_K b0 b1 b2) (fun _ => -1) (fun _ _ => -1) kf (own_kt kf bb) (own_bi bw)) kf (own_kt kf bb) (own_bi bv)) kf (own_kt kf bb)) = efts1 := by rw [hd_efts1]; exact FINs1.2.2.1
    have sg101 : own_V p e below T98 (mkF m 385 #[iv xk, iv xa, iv xb, iv xc, rv a2, iv fr, iv to, iv oo, iv (own_bi bv), iv (own_bi bw), iv ss, rv a16, iv (own_K b0 b1 b2 kf), iv (own_K b0 b1 b2 (own_kt kf bb)), iv (own_K b0 b1 b2 (own_ko kf bb)), iv ei, own_lv pre1, .second, iv pft1, iv (-1 : Int32), iv bls1, iv sos1, iv v91, own_lv ecs1, .second, iv efts1] []) (mkF m 382 #[iv xk, iv xa, iv xb, iv xc, rv a2, iv fr, iv to, iv oo, iv (own_bi bv), iv (own_bi bw), iv ss, rv a16, iv (own_K b0 b1 b2 kf), iv (own_K b0 b1 b2 (own_kt kf bb)), iv (own_K b0 b1 b2 (own_ko kf bb)), iv ei, own_lv pre1, .second, iv pft1, iv (-1 : Int32), iv bls1, iv sos1, iv v91, own_lv ecs1, .second, iv efts1] [(.int efts1), (.int (own_val (fun _ => -1) (own_pR (own_K b0 b1 b2) (fun _ => -1) (own_pR (own_K b0 b1 b2) (fun _ => -1) (fun _ _ => -1) kf (own_kt kf bb) (own_bi bw)) kf (own_kt kf bb) (own_bi bv)) kf (own_kt kf bb)))]) := by
      intro t kt
      refine XS.icmpNo X98.here hx rfl (hb hby at_382) rfl (teq hc100).2 ?_
      exact kt
    refine own_st sg101 ?_
    have sg102 : own_V p e below T98 (mkF m 391 #[iv xk, iv xa, iv xb, iv xc, rv a2, iv fr, iv to, iv oo, iv (own_bi bv), iv (own_bi bw), iv ss, rv a16, iv (own_K b0 b1 b2 kf), iv (own_K b0 b1 b2 (own_kt kf bb)), iv (own_K b0 b1 b2 (own_ko kf bb)), iv ei, own_lv pre1, .second, iv pft1, iv (-1 : Int32), iv bls1, iv sos1, iv v91, own_lv ecs1, .second, iv efts1] [(.int oo), (.int fr), (.ref a16)]) (mkF m 385 #[iv xk, iv xa, iv xb, iv xc, rv a2, iv fr, iv to, iv oo, iv (own_bi bv), iv (own_bi bw), iv ss, rv a16, iv (own_K b0 b1 b2 kf), iv (own_K b0 b1 b2 (own_kt kf bb)), iv (own_K b0 b1 b2 (own_ko kf bb)), iv ei, own_lv pre1, .second, iv pft1, iv (-1 : Int32), iv bls1, iv sos1, iv v91, own_lv ecs1, .second, iv efts1] []) := by
      intro t kt
      refine XS.aload X98.here hx rfl (hb hby at_385) rfl rfl ?_
      show own_S p e below T98 m 387 #[iv xk, iv xa, iv xb, iv xc, rv a2, iv fr, iv to, iv oo, iv (own_bi bv), iv (own_bi bw), iv ss, rv a16, iv (own_K b0 b1 b2 kf), iv (own_K b0 b1 b2 (own_kt kf bb)), iv (own_K b0 b1 b2 (own_ko kf bb)), iv ei, own_lv pre1, .second, iv pft1, iv (-1 : Int32), iv bls1, iv sos1, iv v91, own_lv ecs1, .second, iv efts1] [(.ref a16)] _
      refine XS.iload X98.here hx rfl (hb hby at_387) rfl ?_
      show own_S p e below T98 m 389 #[iv xk, iv xa, iv xb, iv xc, rv a2, iv fr, iv to, iv oo, iv (own_bi bv), iv (own_bi bw), iv ss, rv a16, iv (own_K b0 b1 b2 kf), iv (own_K b0 b1 b2 (own_kt kf bb)), iv (own_K b0 b1 b2 (own_ko kf bb)), iv ei, own_lv pre1, .second, iv pft1, iv (-1 : Int32), iv bls1, iv sos1, iv v91, own_lv ecs1, .second, iv efts1] [(.int fr), (.ref a16)] _
      refine XS.iload X98.here hx rfl (hb hby at_389) rfl ?_
      show own_S p e below T98 m 391 #[iv xk, iv xa, iv xb, iv xc, rv a2, iv fr, iv to, iv oo, iv (own_bi bv), iv (own_bi bw), iv ss, rv a16, iv (own_K b0 b1 b2 kf), iv (own_K b0 b1 b2 (own_kt kf bb)), iv (own_K b0 b1 b2 (own_ko kf bb)), iv ei, own_lv pre1, .second, iv pft1, iv (-1 : Int32), iv bls1, iv sos1, iv v91, own_lv ecs1, .second, iv efts1] [(.int oo), (.int fr), (.ref a16)] _
      exact kt
    refine own_st sg102 ?_
    obtain ⟨_, T103, L103, X103, hQ103, st103⟩ := own_callV (y := (⟨"com/example/kingsround/kingsround/engine/Deliveries", "value", "(II)I"⟩ : MethodName)) (y0 := (⟨"com/example/kingsround/kingsround/engine/Deliveries", "value", "(II)I"⟩ : MethodName)) (a := a16) (C := "com/example/kingsround/kingsround/engine/Deliveries") X98 hx hZ hown HD82.1 (hw _ (List.mem_of_getElem? (i := 89) rfl)) (hw _ (List.mem_of_getElem? (i := 90) rfl)) (hw _ (List.mem_of_getElem? (i := 92) rfl)) (notFace_of_selects (args := #[]) (mvT hZ (hw _ (List.mem_of_getElem? (i := 92) rfl)))) (hw _ (List.mem_of_getElem? (i := 91) rfl)) (hw _ (List.mem_of_getElem? (i := 4) rfl)) (hw _ (List.mem_of_getElem? (i := 93) rfl)) (by decide) (own_rmval l Z a0 hw a16 fr oo ib kp ta ob q r (own_K b0 b1 b2) (fun _ => -1) (own_pO (own_K b0 b1 b2) (fun _ => -1) (own_pO (own_K b0 b1 b2) (fun _ => -1) (fun _ => 0) (fun _ _ => -1) kf (own_kt kf bb)) (own_pR (own_K b0 b1 b2) (fun _ => -1) (fun _ _ => -1) kf (own_kt kf bb) (own_bi bw)) kf (own_kt kf bb)) (own_pR (own_K b0 b1 b2) (fun _ => -1) (own_pR (own_K b0 b1 b2) (fun _ => -1) (fun _ _ => -1) kf (own_kt kf bb) (own_bi bw)) kf (own_kt kf bb) (own_bi bv)) (own_pc (own_K b0 b1 b2) (fun _ => -1) (own_pR (own_K b0 b1 b2) (fun _ => -1) (fun _ _ => -1) kf (own_kt kf bb) (own_bi bw)) kf (own_kt kf bb) (own_pc (own_K b0 b1 b2) (fun _ => -1) (fun _ _ => -1) kf (own_kt kf bb) 0)) kf (own_ko kf bb) T82.heap n0 Z82 HA HD82 hkf hko hf3 ho3) e98 (g := (mkF m 391 #[iv xk, iv xa, iv xb, iv xc, rv a2, iv fr, iv to, iv oo, iv (own_bi bv), iv (own_bi bw), iv ss, rv a16, iv (own_K b0 b1 b2 kf), iv (own_K b0 b1 b2 (own_kt kf bb)), iv (own_K b0 b1 b2 (own_ko kf bb)), iv ei, own_lv pre1, .second, iv pft1, iv (-1 : Int32), iv bls1, iv sos1, iv v91, own_lv ecs1, .second, iv efts1] [(.int oo), (.int fr), (.ref a16)])) rfl (by rw [hml]; rfl) (argsL := [(.int fr), (.int oo)]) (rest := []) (lenOf own_pd9 rfl) rfl (W := 0) (by show 2 * 0 + _ ≤ _; exact Nat.le_of_eq rfl) (hb hby at_391) (by decide) (by decide) (by decide) (by decide)
    obtain ⟨rfl, Nq103, e103⟩ := hQ103
    refine own_st st103 ?_
    have N103 := Fr.app N98 Nq103
    show own_Go p e below _ T103 (mkF m 394 #[iv xk, iv xa, iv xb, iv xc, rv a2, iv fr, iv to, iv oo, iv (own_bi bv), iv (own_bi bw), iv ss, rv a16, iv (own_K b0 b1 b2 kf), iv (own_K b0 b1 b2 (own_kt kf bb)), iv (own_K b0 b1 b2 (own_ko kf bb)), iv ei, own_lv pre1, .second, iv pft1, iv (-1 : Int32), iv bls1, iv sos1, iv v91, own_lv ecs1, .second, iv efts1] [(.int (own_val (fun _ => -1) (own_pR (own_K b0 b1 b2) (fun _ => -1) (own_pR (own_K b0 b1 b2) (fun _ => -1) (fun _ _ => -1) kf (own_kt kf bb) (own_bi bw)) kf (own_kt kf bb) (own_bi bv)) kf (own_ko kf bb)))])
    have sg104 : own_V p e below T103 (mkF m 396 #[iv xk, iv xa, iv xb, iv xc, rv a2, iv fr, iv to, iv oo, iv (own_bi bv), iv (own_bi bw), iv ss, rv a16, iv (own_K b0 b1 b2 kf), iv (own_K b0 b1 b2 (own_kt kf bb)), iv (own_K b0 b1 b2 (own_ko kf bb)), iv ei, own_lv pre1, .second, iv pft1, iv (-1 : Int32), iv bls1, iv sos1, iv v91, own_lv ecs1, .second, iv efts1] [(.int (-1 : Int32)), (.int (own_val (fun _ => -1) (own_pR (own_K b0 b1 b2) (fun _ => -1) (own_pR (own_K b0 b1 b2) (fun _ => -1) (fun _ _ => -1) kf (own_kt kf bb) (own_bi bw)) kf (own_kt kf bb) (own_bi bv)) kf (own_ko kf bb)))]) (mkF m 394 #[iv xk, iv xa, iv xb, iv xc, rv a2, iv fr, iv to, iv oo, iv (own_bi bv), iv (own_bi bw), iv ss, rv a16, iv (own_K b0 b1 b2 kf), iv (own_K b0 b1 b2 (own_kt kf bb)), iv (own_K b0 b1 b2 (own_ko kf bb)), iv ei, own_lv pre1, .second, iv pft1, iv (-1 : Int32), iv bls1, iv sos1, iv v91, own_lv ecs1, .second, iv efts1] [(.int (own_val (fun _ => -1) (own_pR (own_K b0 b1 b2) (fun _ => -1) (own_pR (own_K b0 b1 b2) (fun _ => -1) (fun _ _ => -1) kf (own_kt kf bb) (own_bi bw)) kf (own_kt kf bb) (own_bi bv)) kf (own_ko kf bb)))]) := by
      intro t kt
      refine XS.iload X103.here hx rfl (hb hby at_394) rfl ?_
      show own_S p e below T103 m 396 #[iv xk, iv xa, iv xb, iv xc, rv a2, iv fr, iv to, iv oo, iv (own_bi bv), iv (own_bi bw), iv ss, rv a16, iv (own_K b0 b1 b2 kf), iv (own_K b0 b1 b2 (own_kt kf bb)), iv (own_K b0 b1 b2 (own_ko kf bb)), iv ei, own_lv pre1, .second, iv pft1, iv (-1 : Int32), iv bls1, iv sos1, iv v91, own_lv ecs1, .second, iv efts1] [(.int (-1 : Int32)), (.int (own_val (fun _ => -1) (own_pR (own_K b0 b1 b2) (fun _ => -1) (own_pR (own_K b0 b1 b2) (fun _ => -1) (fun _ _ => -1) kf (own_kt kf bb) (own_bi bw)) kf (own_kt kf bb) (own_bi bv)) kf (own_ko kf bb)))] _
      exact kt
    refine own_st sg104 ?_
    have hc105 : (own_val (fun _ => -1) (own_pR (own_K b0 b1 b2) (fun _ => -1) (own_pR (own_K b0 b1 b2) (fun _ => -1) (fun _ _ => -1) kf (own_kt kf bb) (own_bi bw)) kf (own_kt kf bb) (own_bi bv)) kf (own_ko kf bb)) = (-1 : Int32) := FINs1.2.2.2.1
    have sg106 : own_V p e below T103 (mkF m 399 #[iv xk, iv xa, iv xb, iv xc, rv a2, iv fr, iv to, iv oo, iv (own_bi bv), iv (own_bi bw), iv ss, rv a16, iv (own_K b0 b1 b2 kf), iv (own_K b0 b1 b2 (own_kt kf bb)), iv (own_K b0 b1 b2 (own_ko kf bb)), iv ei, own_lv pre1, .second, iv pft1, iv (-1 : Int32), iv bls1, iv sos1, iv v91, own_lv ecs1, .second, iv efts1] []) (mkF m 396 #[iv xk, iv xa, iv xb, iv xc, rv a2, iv fr, iv to, iv oo, iv (own_bi bv), iv (own_bi bw), iv ss, rv a16, iv (own_K b0 b1 b2 kf), iv (own_K b0 b1 b2 (own_kt kf bb)), iv (own_K b0 b1 b2 (own_ko kf bb)), iv ei, own_lv pre1, .second, iv pft1, iv (-1 : Int32), iv bls1, iv sos1, iv v91, own_lv ecs1, .second, iv efts1] [(.int (-1 : Int32)), (.int (own_val (fun _ => -1) (own_pR (own_K b0 b1 b2) (fun _ => -1) (own_pR (own_K b0 b1 b2) (fun _ => -1) (fun _ _ => -1) kf (own_kt kf bb) (own_bi bw)) kf (own_kt kf bb) (own_bi bv)) kf (own_ko kf bb)))]) := by
      intro t kt
      refine XS.icmpNo X103.here hx rfl (hb hby at_396) rfl (teq hc105).2 ?_
      exact kt
    refine own_st sg106 ?_
    have sg107 : own_V p e below T103 (mkF m 405 #[iv xk, iv xa, iv xb, iv xc, rv a2, iv fr, iv to, iv oo, iv (own_bi bv), iv (own_bi bw), iv ss, rv a16, iv (own_K b0 b1 b2 kf), iv (own_K b0 b1 b2 (own_kt kf bb)), iv (own_K b0 b1 b2 (own_ko kf bb)), iv ei, own_lv pre1, .second, iv pft1, iv (-1 : Int32), iv bls1, iv sos1, iv v91, own_lv ecs1, .second, iv efts1] [(.int fr), (.int to), (.ref a16)]) (mkF m 399 #[iv xk, iv xa, iv xb, iv xc, rv a2, iv fr, iv to, iv oo, iv (own_bi bv), iv (own_bi bw), iv ss, rv a16, iv (own_K b0 b1 b2 kf), iv (own_K b0 b1 b2 (own_kt kf bb)), iv (own_K b0 b1 b2 (own_ko kf bb)), iv ei, own_lv pre1, .second, iv pft1, iv (-1 : Int32), iv bls1, iv sos1, iv v91, own_lv ecs1, .second, iv efts1] []) := by
      intro t kt
      refine XS.aload X103.here hx rfl (hb hby at_399) rfl rfl ?_
      show own_S p e below T103 m 401 #[iv xk, iv xa, iv xb, iv xc, rv a2, iv fr, iv to, iv oo, iv (own_bi bv), iv (own_bi bw), iv ss, rv a16, iv (own_K b0 b1 b2 kf), iv (own_K b0 b1 b2 (own_kt kf bb)), iv (own_K b0 b1 b2 (own_ko kf bb)), iv ei, own_lv pre1, .second, iv pft1, iv (-1 : Int32), iv bls1, iv sos1, iv v91, own_lv ecs1, .second, iv efts1] [(.ref a16)] _
      refine XS.iload X103.here hx rfl (hb hby at_401) rfl ?_
      show own_S p e below T103 m 403 #[iv xk, iv xa, iv xb, iv xc, rv a2, iv fr, iv to, iv oo, iv (own_bi bv), iv (own_bi bw), iv ss, rv a16, iv (own_K b0 b1 b2 kf), iv (own_K b0 b1 b2 (own_kt kf bb)), iv (own_K b0 b1 b2 (own_ko kf bb)), iv ei, own_lv pre1, .second, iv pft1, iv (-1 : Int32), iv bls1, iv sos1, iv v91, own_lv ecs1, .second, iv efts1] [(.int to), (.ref a16)] _
      refine XS.iload X103.here hx rfl (hb hby at_403) rfl ?_
      show own_S p e below T103 m 405 #[iv xk, iv xa, iv xb, iv xc, rv a2, iv fr, iv to, iv oo, iv (own_bi bv), iv (own_bi bw), iv ss, rv a16, iv (own_K b0 b1 b2 kf), iv (own_K b0 b1 b2 (own_kt kf bb)), iv (own_K b0 b1 b2 (own_ko kf bb)), iv ei, own_lv pre1, .second, iv pft1, iv (-1 : Int32), iv bls1, iv sos1, iv v91, own_lv ecs1, .second, iv efts1] [(.int fr), (.int to), (.ref a16)] _
      exact kt
    refine own_st sg107 ?_
    obtain ⟨_, T108, L108, X108, hQ108, st108⟩ := own_callV (y := (⟨"com/example/kingsround/kingsround/engine/Deliveries", "value", "(II)I"⟩ : MethodName)) (y0 := (⟨"com/example/kingsround/kingsround/engine/Deliveries", "value", "(II)I"⟩ : MethodName)) (a := a16) (C := "com/example/kingsround/kingsround/engine/Deliveries") X103 hx hZ hown HD82.1 (hw _ (List.mem_of_getElem? (i := 89) rfl)) (hw _ (List.mem_of_getElem? (i := 90) rfl)) (hw _ (List.mem_of_getElem? (i := 92) rfl)) (notFace_of_selects (args := #[]) (mvT hZ (hw _ (List.mem_of_getElem? (i := 92) rfl)))) (hw _ (List.mem_of_getElem? (i := 91) rfl)) (hw _ (List.mem_of_getElem? (i := 4) rfl)) (hw _ (List.mem_of_getElem? (i := 93) rfl)) (by decide) (own_rmval l Z a0 hw a16 to fr ib kp ta ob q r (own_K b0 b1 b2) (fun _ => -1) (own_pO (own_K b0 b1 b2) (fun _ => -1) (own_pO (own_K b0 b1 b2) (fun _ => -1) (fun _ => 0) (fun _ _ => -1) kf (own_kt kf bb)) (own_pR (own_K b0 b1 b2) (fun _ => -1) (fun _ _ => -1) kf (own_kt kf bb) (own_bi bw)) kf (own_kt kf bb)) (own_pR (own_K b0 b1 b2) (fun _ => -1) (own_pR (own_K b0 b1 b2) (fun _ => -1) (fun _ _ => -1) kf (own_kt kf bb) (own_bi bw)) kf (own_kt kf bb) (own_bi bv)) (own_pc (own_K b0 b1 b2) (fun _ => -1) (own_pR (own_K b0 b1 b2) (fun _ => -1) (fun _ _ => -1) kf (own_kt kf bb) (own_bi bw)) kf (own_kt kf bb) (own_pc (own_K b0 b1 b2) (fun _ => -1) (fun _ _ => -1) kf (own_kt kf bb) 0)) (own_kt kf bb) kf T82.heap n0 Z82 HA HD82 hkt hkf ht3 hf3) e103 (g := (mkF m 405 #[iv xk, iv xa, iv xb, iv xc, rv a2, iv fr, iv to, iv oo, iv (own_bi bv), iv (own_bi bw), iv ss, rv a16, iv (own_K b0 b1 b2 kf), iv (own_K b0 b1 b2 (own_kt kf bb)), iv (own_K b0 b1 b2 (own_ko kf bb)), iv ei, own_lv pre1, .second, iv pft1, iv (-1 : Int32), iv bls1, iv sos1, iv v91, own_lv ecs1, .second, iv efts1] [(.int fr), (.int to), (.ref a16)])) rfl (by rw [hml]; rfl) (argsL := [(.int to), (.int fr)]) (rest := []) (lenOf own_pd9 rfl) rfl (W := 0) (by show 2 * 0 + _ ≤ _; exact Nat.le_of_eq rfl) (hb hby at_405) (by decide) (by decide) (by decide) (by decide)
    obtain ⟨rfl, Nq108, e108⟩ := hQ108
    refine own_st st108 ?_
    have N108 := Fr.app N103 Nq108
    show own_Go p e below _ T108 (mkF m 408 #[iv xk, iv xa, iv xb, iv xc, rv a2, iv fr, iv to, iv oo, iv (own_bi bv), iv (own_bi bw), iv ss, rv a16, iv (own_K b0 b1 b2 kf), iv (own_K b0 b1 b2 (own_kt kf bb)), iv (own_K b0 b1 b2 (own_ko kf bb)), iv ei, own_lv pre1, .second, iv pft1, iv (-1 : Int32), iv bls1, iv sos1, iv v91, own_lv ecs1, .second, iv efts1] [(.int (own_val (fun _ => -1) (own_pR (own_K b0 b1 b2) (fun _ => -1) (own_pR (own_K b0 b1 b2) (fun _ => -1) (fun _ _ => -1) kf (own_kt kf bb) (own_bi bw)) kf (own_kt kf bb) (own_bi bv)) (own_kt kf bb) kf))])
    have sg109 : own_V p e below T108 (mkF m 409 #[iv xk, iv xa, iv xb, iv xc, rv a2, iv fr, iv to, iv oo, iv (own_bi bv), iv (own_bi bw), iv ss, rv a16, iv (own_K b0 b1 b2 kf), iv (own_K b0 b1 b2 (own_kt kf bb)), iv (own_K b0 b1 b2 (own_ko kf bb)), iv ei, own_lv pre1, .second, iv pft1, iv (-1 : Int32), iv bls1, iv sos1, iv v91, own_lv ecs1, .second, iv efts1] [(.int (-1 : Int32)), (.int (own_val (fun _ => -1) (own_pR (own_K b0 b1 b2) (fun _ => -1) (own_pR (own_K b0 b1 b2) (fun _ => -1) (fun _ _ => -1) kf (own_kt kf bb) (own_bi bw)) kf (own_kt kf bb) (own_bi bv)) (own_kt kf bb) kf))]) (mkF m 408 #[iv xk, iv xa, iv xb, iv xc, rv a2, iv fr, iv to, iv oo, iv (own_bi bv), iv (own_bi bw), iv ss, rv a16, iv (own_K b0 b1 b2 kf), iv (own_K b0 b1 b2 (own_kt kf bb)), iv (own_K b0 b1 b2 (own_ko kf bb)), iv ei, own_lv pre1, .second, iv pft1, iv (-1 : Int32), iv bls1, iv sos1, iv v91, own_lv ecs1, .second, iv efts1] [(.int (own_val (fun _ => -1) (own_pR (own_K b0 b1 b2) (fun _ => -1) (own_pR (own_K b0 b1 b2) (fun _ => -1) (fun _ _ => -1) kf (own_kt kf bb) (own_bi bw)) kf (own_kt kf bb) (own_bi bv)) (own_kt kf bb) kf))]) := by
      intro t kt
      refine XS.iconst X108.here hx rfl (hb hby at_408) ?_
      show own_S p e below T108 m 409 #[iv xk, iv xa, iv xb, iv xc, rv a2, iv fr, iv to, iv oo, iv (own_bi bv), iv (own_bi bw), iv ss, rv a16, iv (own_K b0 b1 b2 kf), iv (own_K b0 b1 b2 (own_kt kf bb)), iv (own_K b0 b1 b2 (own_ko kf bb)), iv ei, own_lv pre1, .second, iv pft1, iv (-1 : Int32), iv bls1, iv sos1, iv v91, own_lv ecs1, .second, iv efts1] [(.int (-1 : Int32)), (.int (own_val (fun _ => -1) (own_pR (own_K b0 b1 b2) (fun _ => -1) (own_pR (own_K b0 b1 b2) (fun _ => -1) (fun _ _ => -1) kf (own_kt kf bb) (own_bi bw)) kf (own_kt kf bb) (own_bi bv)) (own_kt kf bb) kf))] _
      exact kt
    refine own_st sg109 ?_
    have hc110 : (own_val (fun _ => -1) (own_pR (own_K b0 b1 b2) (fun _ => -1) (own_pR (own_K b0 b1 b2) (fun _ => -1) (fun _ _ => -1) kf (own_kt kf bb) (own_bi bw)) kf (own_kt kf bb) (own_bi bv)) (own_kt kf bb) kf) = (-1 : Int32) := FINs1.2.2.2.2.1
    have sg111 : own_V p e below T108 (mkF m 412 #[iv xk, iv xa, iv xb, iv xc, rv a2, iv fr, iv to, iv oo, iv (own_bi bv), iv (own_bi bw), iv ss, rv a16, iv (own_K b0 b1 b2 kf), iv (own_K b0 b1 b2 (own_kt kf bb)), iv (own_K b0 b1 b2 (own_ko kf bb)), iv ei, own_lv pre1, .second, iv pft1, iv (-1 : Int32), iv bls1, iv sos1, iv v91, own_lv ecs1, .second, iv efts1] []) (mkF m 409 #[iv xk, iv xa, iv xb, iv xc, rv a2, iv fr, iv to, iv oo, iv (own_bi bv), iv (own_bi bw), iv ss, rv a16, iv (own_K b0 b1 b2 kf), iv (own_K b0 b1 b2 (own_kt kf bb)), iv (own_K b0 b1 b2 (own_ko kf bb)), iv ei, own_lv pre1, .second, iv pft1, iv (-1 : Int32), iv bls1, iv sos1, iv v91, own_lv ecs1, .second, iv efts1] [(.int (-1 : Int32)), (.int (own_val (fun _ => -1) (own_pR (own_K b0 b1 b2) (fun _ => -1) (own_pR (own_K b0 b1 b2) (fun _ => -1) (fun _ _ => -1) kf (own_kt kf bb) (own_bi bw)) kf (own_kt kf bb) (own_bi bv)) (own_kt kf bb) kf))]) := by
      intro t kt
      refine XS.icmpNo X108.here hx rfl (hb hby at_409) rfl (teq hc110).2 ?_
      exact kt
    refine own_st sg111 ?_
    have sg112 : own_V p e below T108 (mkF m 417 #[iv xk, iv xa, iv xb, iv xc, rv a2, iv fr, iv to, iv oo, iv (own_bi bv), iv (own_bi bw), iv ss, rv a16, iv (own_K b0 b1 b2 kf), iv (own_K b0 b1 b2 (own_kt kf bb)), iv (own_K b0 b1 b2 (own_ko kf bb)), iv ei, own_lv pre1, .second, iv pft1, iv (-1 : Int32), iv bls1, iv sos1, iv v91, own_lv ecs1, .second, iv efts1] [(.int (1 : Int32))]) (mkF m 412 #[iv xk, iv xa, iv xb, iv xc, rv a2, iv fr, iv to, iv oo, iv (own_bi bv), iv (own_bi bw), iv ss, rv a16, iv (own_K b0 b1 b2 kf), iv (own_K b0 b1 b2 (own_kt kf bb)), iv (own_K b0 b1 b2 (own_ko kf bb)), iv ei, own_lv pre1, .second, iv pft1, iv (-1 : Int32), iv bls1, iv sos1, iv v91, own_lv ecs1, .second, iv efts1] []) := by
      intro t kt
      refine XS.iconst X108.here hx rfl (hb hby at_412) ?_
      show own_S p e below T108 m 413 #[iv xk, iv xa, iv xb, iv xc, rv a2, iv fr, iv to, iv oo, iv (own_bi bv), iv (own_bi bw), iv ss, rv a16, iv (own_K b0 b1 b2 kf), iv (own_K b0 b1 b2 (own_kt kf bb)), iv (own_K b0 b1 b2 (own_ko kf bb)), iv ei, own_lv pre1, .second, iv pft1, iv (-1 : Int32), iv bls1, iv sos1, iv v91, own_lv ecs1, .second, iv efts1] [(.int (1 : Int32))] _
      refine XS.goto X108.here hx rfl (pc0 := 413) (pc' := 417) rfl (hb hby at_413) (by decide) (by decide) ?_
      show own_S p e below T108 m 417 #[iv xk, iv xa, iv xb, iv xc, rv a2, iv fr, iv to, iv oo, iv (own_bi bv), iv (own_bi bw), iv ss, rv a16, iv (own_K b0 b1 b2 kf), iv (own_K b0 b1 b2 (own_kt kf bb)), iv (own_K b0 b1 b2 (own_ko kf bb)), iv ei, own_lv pre1, .second, iv pft1, iv (-1 : Int32), iv bls1, iv sos1, iv v91, own_lv ecs1, .second, iv efts1] [(.int (1 : Int32))] _
      exact kt
    refine own_st sg112 ?_
    exact own_retZ X108 hx Bd.notSynchronized Bd.returns (hb hby at_417) (by decide) (by decide) (by decide) e108 ⟨rfl, N108⟩
  · skip
    have sg113 : own_V p e below T18 (mkF m 171 #[iv xk, iv xa, iv xb, iv xc, rv a2, iv fr, iv to, iv oo, iv (own_bi bv), iv (own_bi bw), iv ss, rv a16, iv (own_K b0 b1 b2 kf), iv (own_K b0 b1 b2 (own_kt kf bb)), iv (own_K b0 b1 b2 (own_ko kf bb)), iv ei, own_lv (0 : Int64), .second, iv (-1 : Int32), iv (-1 : Int32), .unset, .unset, .unset, .unset, .unset, .unset] [(.int (1 : Int32)), (.int ss)]) (mkF m 168 #[iv xk, iv xa, iv xb, iv xc, rv a2, iv fr, iv to, iv oo, iv (own_bi bv), iv (own_bi bw), iv ss, rv a16, iv (own_K b0 b1 b2 kf), iv (own_K b0 b1 b2 (own_kt kf bb)), iv (own_K b0 b1 b2 (own_ko kf bb)), iv ei, own_lv (0 : Int64), .second, iv (-1 : Int32), iv (-1 : Int32), .unset, .unset, .unset, .unset, .unset, .unset] []) := by
      intro t kt
      refine XS.iload X18.here hx rfl (hb hby at_168) rfl ?_
      show own_S p e below T18 m 170 #[iv xk, iv xa, iv xb, iv xc, rv a2, iv fr, iv to, iv oo, iv (own_bi bv), iv (own_bi bw), iv ss, rv a16, iv (own_K b0 b1 b2 kf), iv (own_K b0 b1 b2 (own_kt kf bb)), iv (own_K b0 b1 b2 (own_ko kf bb)), iv ei, own_lv (0 : Int64), .second, iv (-1 : Int32), iv (-1 : Int32), .unset, .unset, .unset, .unset, .unset, .unset] [(.int ss)] _
      refine XS.iconst X18.here hx rfl (hb hby at_170) ?_
      show own_S p e below T18 m 171 #[iv xk, iv xa, iv xb, iv xc, rv a2, iv fr, iv to, iv oo, iv (own_bi bv), iv (own_bi bw), iv ss, rv a16, iv (own_K b0 b1 b2 kf), iv (own_K b0 b1 b2 (own_kt kf bb)), iv (own_K b0 b1 b2 (own_ko kf bb)), iv ei, own_lv (0 : Int64), .second, iv (-1 : Int32), iv (-1 : Int32), .unset, .unset, .unset, .unset, .unset, .unset] [(.int (1 : Int32)), (.int ss)] _
      exact kt
    refine own_st sg113 ?_
    have hc114 : ¬ ss = (1 : Int32) := by rw [hs4]; decide
    have sg115 : own_V p e below T18 (mkF m 201 #[iv xk, iv xa, iv xb, iv xc, rv a2, iv fr, iv to, iv oo, iv (own_bi bv), iv (own_bi bw), iv ss, rv a16, iv (own_K b0 b1 b2 kf), iv (own_K b0 b1 b2 (own_kt kf bb)), iv (own_K b0 b1 b2 (own_ko kf bb)), iv ei, own_lv (0 : Int64), .second, iv (-1 : Int32), iv (-1 : Int32), .unset, .unset, .unset, .unset, .unset, .unset] []) (mkF m 171 #[iv xk, iv xa, iv xb, iv xc, rv a2, iv fr, iv to, iv oo, iv (own_bi bv), iv (own_bi bw), iv ss, rv a16, iv (own_K b0 b1 b2 kf), iv (own_K b0 b1 b2 (own_kt kf bb)), iv (own_K b0 b1 b2 (own_ko kf bb)), iv ei, own_lv (0 : Int64), .second, iv (-1 : Int32), iv (-1 : Int32), .unset, .unset, .unset, .unset, .unset, .unset] [(.int (1 : Int32)), (.int ss)]) := by
      intro t kt
      refine XS.icmpYes X18.here hx rfl (pc0 := 171) (pc' := 201) rfl (hb hby at_171) rfl (feq hc114).2 (by decide) (by decide) ?_
      exact kt
    refine own_st sg115 ?_
    have sg116 : own_V p e below T18 (mkF m 204 #[iv xk, iv xa, iv xb, iv xc, rv a2, iv fr, iv to, iv oo, iv (own_bi bv), iv (own_bi bw), iv ss, rv a16, iv (own_K b0 b1 b2 kf), iv (own_K b0 b1 b2 (own_kt kf bb)), iv (own_K b0 b1 b2 (own_ko kf bb)), iv ei, own_lv (0 : Int64), .second, iv (-1 : Int32), iv (-1 : Int32), .unset, .unset, .unset, .unset, .unset, .unset] [(.int (2 : Int32)), (.int ss)]) (mkF m 201 #[iv xk, iv xa, iv xb, iv xc, rv a2, iv fr, iv to, iv oo, iv (own_bi bv), iv (own_bi bw), iv ss, rv a16, iv (own_K b0 b1 b2 kf), iv (own_K b0 b1 b2 (own_kt kf bb)), iv (own_K b0 b1 b2 (own_ko kf bb)), iv ei, own_lv (0 : Int64), .second, iv (-1 : Int32), iv (-1 : Int32), .unset, .unset, .unset, .unset, .unset, .unset] []) := by
      intro t kt
      refine XS.iload X18.here hx rfl (hb hby at_201) rfl ?_
      show own_S p e below T18 m 203 #[iv xk, iv xa, iv xb, iv xc, rv a2, iv fr, iv to, iv oo, iv (own_bi bv), iv (own_bi bw), iv ss, rv a16, iv (own_K b0 b1 b2 kf), iv (own_K b0 b1 b2 (own_kt kf bb)), iv (own_K b0 b1 b2 (own_ko kf bb)), iv ei, own_lv (0 : Int64), .second, iv (-1 : Int32), iv (-1 : Int32), .unset, .unset, .unset, .unset, .unset, .unset] [(.int ss)] _
      refine XS.iconst X18.here hx rfl (hb hby at_203) ?_
      show own_S p e below T18 m 204 #[iv xk, iv xa, iv xb, iv xc, rv a2, iv fr, iv to, iv oo, iv (own_bi bv), iv (own_bi bw), iv ss, rv a16, iv (own_K b0 b1 b2 kf), iv (own_K b0 b1 b2 (own_kt kf bb)), iv (own_K b0 b1 b2 (own_ko kf bb)), iv ei, own_lv (0 : Int64), .second, iv (-1 : Int32), iv (-1 : Int32), .unset, .unset, .unset, .unset, .unset, .unset] [(.int (2 : Int32)), (.int ss)] _
      exact kt
    refine own_st sg116 ?_
    have hc117 : ss = (2 : Int32) := by rw [hs4]
    have sg118 : own_V p e below T18 (mkF m 207 #[iv xk, iv xa, iv xb, iv xc, rv a2, iv fr, iv to, iv oo, iv (own_bi bv), iv (own_bi bw), iv ss, rv a16, iv (own_K b0 b1 b2 kf), iv (own_K b0 b1 b2 (own_kt kf bb)), iv (own_K b0 b1 b2 (own_ko kf bb)), iv ei, own_lv (0 : Int64), .second, iv (-1 : Int32), iv (-1 : Int32), .unset, .unset, .unset, .unset, .unset, .unset] []) (mkF m 204 #[iv xk, iv xa, iv xb, iv xc, rv a2, iv fr, iv to, iv oo, iv (own_bi bv), iv (own_bi bw), iv ss, rv a16, iv (own_K b0 b1 b2 kf), iv (own_K b0 b1 b2 (own_kt kf bb)), iv (own_K b0 b1 b2 (own_ko kf bb)), iv ei, own_lv (0 : Int64), .second, iv (-1 : Int32), iv (-1 : Int32), .unset, .unset, .unset, .unset, .unset, .unset] [(.int (2 : Int32)), (.int ss)]) := by
      intro t kt
      refine XS.icmpNo X18.here hx rfl (hb hby at_204) rfl (teq hc117).2 ?_
      exact kt
    refine own_st sg118 ?_
    have sg119 : own_V p e below T18 (mkF m 213 #[iv xk, iv xa, iv xb, iv xc, rv a2, iv fr, iv to, iv oo, iv (own_bi bv), iv (own_bi bw), iv ss, rv a16, iv (own_K b0 b1 b2 kf), iv (own_K b0 b1 b2 (own_kt kf bb)), iv (own_K b0 b1 b2 (own_ko kf bb)), iv ei, own_lv (0 : Int64), .second, iv (-1 : Int32), iv (-1 : Int32), .unset, .unset, .unset, .unset, .unset, .unset] [(.int (own_bi bw)), (.int fr), (.ref a16)]) (mkF m 207 #[iv xk, iv xa, iv xb, iv xc, rv a2, iv fr, iv to, iv oo, iv (own_bi bv), iv (own_bi bw), iv ss, rv a16, iv (own_K b0 b1 b2 kf), iv (own_K b0 b1 b2 (own_kt kf bb)), iv (own_K b0 b1 b2 (own_ko kf bb)), iv ei, own_lv (0 : Int64), .second, iv (-1 : Int32), iv (-1 : Int32), .unset, .unset, .unset, .unset, .unset, .unset] []) := by
      intro t kt
      refine XS.aload X18.here hx rfl (hb hby at_207) rfl rfl ?_
      show own_S p e below T18 m 209 #[iv xk, iv xa, iv xb, iv xc, rv a2, iv fr, iv to, iv oo, iv (own_bi bv), iv (own_bi bw), iv ss, rv a16, iv (own_K b0 b1 b2 kf), iv (own_K b0 b1 b2 (own_kt kf bb)), iv (own_K b0 b1 b2 (own_ko kf bb)), iv ei, own_lv (0 : Int64), .second, iv (-1 : Int32), iv (-1 : Int32), .unset, .unset, .unset, .unset, .unset, .unset] [(.ref a16)] _
      refine XS.iload X18.here hx rfl (hb hby at_209) rfl ?_
      show own_S p e below T18 m 211 #[iv xk, iv xa, iv xb, iv xc, rv a2, iv fr, iv to, iv oo, iv (own_bi bv), iv (own_bi bw), iv ss, rv a16, iv (own_K b0 b1 b2 kf), iv (own_K b0 b1 b2 (own_kt kf bb)), iv (own_K b0 b1 b2 (own_ko kf bb)), iv ei, own_lv (0 : Int64), .second, iv (-1 : Int32), iv (-1 : Int32), .unset, .unset, .unset, .unset, .unset, .unset] [(.int fr), (.ref a16)] _
      refine XS.iload X18.here hx rfl (hb hby at_211) rfl ?_
      show own_S p e below T18 m 213 #[iv xk, iv xa, iv xb, iv xc, rv a2, iv fr, iv to, iv oo, iv (own_bi bv), iv (own_bi bw), iv ss, rv a16, iv (own_K b0 b1 b2 kf), iv (own_K b0 b1 b2 (own_kt kf bb)), iv (own_K b0 b1 b2 (own_ko kf bb)), iv ei, own_lv (0 : Int64), .second, iv (-1 : Int32), iv (-1 : Int32), .unset, .unset, .unset, .unset, .unset, .unset] [(.int (own_bi bw)), (.int fr), (.ref a16)] _
      exact kt
    refine own_st sg119 ?_
    obtain ⟨_, T120, L120, X120, hQ120, st120⟩ := own_callV (y := (⟨"com/example/kingsround/kingsround/engine/Deliveries", "putToAll", "(II)Z"⟩ : MethodName)) (y0 := (⟨"com/example/kingsround/kingsround/engine/Deliveries", "putToAll", "(II)Z"⟩ : MethodName)) (a := a16) (C := "com/example/kingsround/kingsround/engine/Deliveries") X18 hx hZ hown HD.1 (hw _ (List.mem_of_getElem? (i := 100) rfl)) (hw _ (List.mem_of_getElem? (i := 101) rfl)) (hw _ (List.mem_of_getElem? (i := 103) rfl)) (notFace_of_selects (args := #[]) (mvT hZ (hw _ (List.mem_of_getElem? (i := 103) rfl)))) (hw _ (List.mem_of_getElem? (i := 102) rfl)) (hw _ (List.mem_of_getElem? (i := 4) rfl)) (hw _ (List.mem_of_getElem? (i := 104) rfl)) (by decide) (own_rmpta l Z a0 hw a16 fr (own_bi bw) ib kp ta ob q r (own_K b0 b1 b2) (fun _ => -1) (fun _ => 0) (fun _ _ => -1) 0 kf T18.heap n0 Z18 HA HD hkf hf3) rfl (g := (mkF m 213 #[iv xk, iv xa, iv xb, iv xc, rv a2, iv fr, iv to, iv oo, iv (own_bi bv), iv (own_bi bw), iv ss, rv a16, iv (own_K b0 b1 b2 kf), iv (own_K b0 b1 b2 (own_kt kf bb)), iv (own_K b0 b1 b2 (own_ko kf bb)), iv ei, own_lv (0 : Int64), .second, iv (-1 : Int32), iv (-1 : Int32), .unset, .unset, .unset, .unset, .unset, .unset] [(.int (own_bi bw)), (.int fr), (.ref a16)])) rfl (by rw [hml]; rfl) (argsL := [(.int fr), (.int (own_bi bw))]) (rest := []) (lenOf own_pd10 rfl) rfl (W := 0) (by show 2 * 0 + _ ≤ _; exact Nat.le_of_eq rfl) (hb hby at_213) (by decide) (by decide) (by decide) (by decide)
    obtain ⟨rfl, Nq120, Sz120, HD120⟩ := hQ120
    refine own_st st120 ?_
    have Z120 : n0 ≤ T120.heap.size := Nat.le_trans Z18 Sz120
    have N120 := Fr.app N18 Nq120
    show own_Go p e below _ T120 (mkF m 216 #[iv xk, iv xa, iv xb, iv xc, rv a2, iv fr, iv to, iv oo, iv (own_bi bv), iv (own_bi bw), iv ss, rv a16, iv (own_K b0 b1 b2 kf), iv (own_K b0 b1 b2 (own_kt kf bb)), iv (own_K b0 b1 b2 (own_ko kf bb)), iv ei, own_lv (0 : Int64), .second, iv (-1 : Int32), iv (-1 : Int32), .unset, .unset, .unset, .unset, .unset, .unset] [(.int (own_ar (own_K b0 b1 b2) (fun _ => -1) (fun _ => 0) kf))])
    obtain ⟨pre2, hpre2⟩ : ∃ z : Int64, z = (if (own_K b0 b1 b2 kf) = (0 : Int32) then (0 : Int64) else (2 : Int64)) := ⟨_, rfl⟩
    obtain ⟨pft2, hpft2⟩ : ∃ z : Int32, z = (if (own_K b0 b1 b2 kf) = (0 : Int32) then (-1 : Int32) else (own_bi bw)) := ⟨_, rfl⟩
    obtain ⟨pfo2, hpfo2⟩ : ∃ z : Int32, z = (if (own_K b0 b1 b2 kf) = (0 : Int32) then (-1 : Int32) else (own_bi bw)) := ⟨_, rfl⟩
    have sg122 : own_V p e below T120 (mkF m 273 #[iv xk, iv xa, iv xb, iv xc, rv a2, iv fr, iv to, iv oo, iv (own_bi bv), iv (own_bi bw), iv ss, rv a16, iv (own_K b0 b1 b2 kf), iv (own_K b0 b1 b2 (own_kt kf bb)), iv (own_K b0 b1 b2 (own_ko kf bb)), iv ei, own_lv pre2, .second, iv pft2, iv pfo2, .unset, .unset, .unset, .unset, .unset, .unset] []) (mkF m 216 #[iv xk, iv xa, iv xb, iv xc, rv a2, iv fr, iv to, iv oo, iv (own_bi bv), iv (own_bi bw), iv ss, rv a16, iv (own_K b0 b1 b2 kf), iv (own_K b0 b1 b2 (own_kt kf bb)), iv (own_K b0 b1 b2 (own_ko kf bb)), iv ei, own_lv (0 : Int64), .second, iv (-1 : Int32), iv (-1 : Int32), .unset, .unset, .unset, .unset, .unset, .unset] [(.int (own_ar (own_K b0 b1 b2) (fun _ => -1) (fun _ => 0) kf))]) := by
      intro t kt
      refine XS.pop X120.here hx rfl (hb hby at_216) rfl rfl ?_
      show own_S p e below T120 m 217 #[iv xk, iv xa, iv xb, iv xc, rv a2, iv fr, iv to, iv oo, iv (own_bi bv), iv (own_bi bw), iv ss, rv a16, iv (own_K b0 b1 b2 kf), iv (own_K b0 b1 b2 (own_kt kf bb)), iv (own_K b0 b1 b2 (own_ko kf bb)), iv ei, own_lv (0 : Int64), .second, iv (-1 : Int32), iv (-1 : Int32), .unset, .unset, .unset, .unset, .unset, .unset] [] _
      refine XS.iload X120.here hx rfl (hb hby at_217) rfl ?_
      show own_S p e below T120 m 219 #[iv xk, iv xa, iv xb, iv xc, rv a2, iv fr, iv to, iv oo, iv (own_bi bv), iv (own_bi bw), iv ss, rv a16, iv (own_K b0 b1 b2 kf), iv (own_K b0 b1 b2 (own_kt kf bb)), iv (own_K b0 b1 b2 (own_ko kf bb)), iv ei, own_lv (0 : Int64), .second, iv (-1 : Int32), iv (-1 : Int32), .unset, .unset, .unset, .unset, .unset, .unset] [(.int (own_K b0 b1 b2 kf))] _
      by_cases hc121 : (own_K b0 b1 b2 kf) = (0 : Int32)
      · refine XS.ifYes X120.here hx rfl (pc0 := 219) (pc' := 273) rfl (hb hby at_219) rfl ((if0 _ _).trans (teq hc121).1) (by decide) (by decide) ?_
        show own_S p e below T120 m 273 #[iv xk, iv xa, iv xb, iv xc, rv a2, iv fr, iv to, iv oo, iv (own_bi bv), iv (own_bi bw), iv ss, rv a16, iv (own_K b0 b1 b2 kf), iv (own_K b0 b1 b2 (own_kt kf bb)), iv (own_K b0 b1 b2 (own_ko kf bb)), iv ei, own_lv (0 : Int64), .second, iv (-1 : Int32), iv (-1 : Int32), .unset, .unset, .unset, .unset, .unset, .unset] [] _
        rw [show pre2 = (0 : Int64) from by rw [hpre2, if_pos hc121]] at kt
        rw [show pft2 = (-1 : Int32) from by rw [hpft2, if_pos hc121]] at kt
        rw [show pfo2 = (-1 : Int32) from by rw [hpfo2, if_pos hc121]] at kt
        exact kt
      · refine XS.ifNo X120.here hx rfl (hb hby at_219) rfl ((if0 _ _).trans (feq hc121).1) ?_
        show own_S p e below T120 m 222 #[iv xk, iv xa, iv xb, iv xc, rv a2, iv fr, iv to, iv oo, iv (own_bi bv), iv (own_bi bw), iv ss, rv a16, iv (own_K b0 b1 b2 kf), iv (own_K b0 b1 b2 (own_kt kf bb)), iv (own_K b0 b1 b2 (own_ko kf bb)), iv ei, own_lv (0 : Int64), .second, iv (-1 : Int32), iv (-1 : Int32), .unset, .unset, .unset, .unset, .unset, .unset] [] _
        refine X120.ldc2Long hx hown (mvT hZ (hw _ (List.mem_of_getElem? (i := 105) rfl))) (g := (mkF m 222 #[iv xk, iv xa, iv xb, iv xc, rv a2, iv fr, iv to, iv oo, iv (own_bi bv), iv (own_bi bw), iv ss, rv a16, iv (own_K b0 b1 b2 kf), iv (own_K b0 b1 b2 (own_kt kf bb)), iv (own_K b0 b1 b2 (own_ko kf bb)), iv ei, own_lv (0 : Int64), .second, iv (-1 : Int32), iv (-1 : Int32), .unset, .unset, .unset, .unset, .unset, .unset] [])) rfl (hb hby at_222) _ ?_
        show own_S p e below T120 m 225 #[iv xk, iv xa, iv xb, iv xc, rv a2, iv fr, iv to, iv oo, iv (own_bi bv), iv (own_bi bw), iv ss, rv a16, iv (own_K b0 b1 b2 kf), iv (own_K b0 b1 b2 (own_kt kf bb)), iv (own_K b0 b1 b2 (own_ko kf bb)), iv ei, own_lv (0 : Int64), .second, iv (-1 : Int32), iv (-1 : Int32), .unset, .unset, .unset, .unset, .unset, .unset] [(.long (2 : Int64))] _
        refine XS.lstore X120.here hx rfl (hb hby at_225) rfl (l' := #[iv xk, iv xa, iv xb, iv xc, rv a2, iv fr, iv to, iv oo, iv (own_bi bv), iv (own_bi bw), iv ss, rv a16, iv (own_K b0 b1 b2 kf), iv (own_K b0 b1 b2 (own_kt kf bb)), iv (own_K b0 b1 b2 (own_ko kf bb)), iv ei, own_lv (2 : Int64), .second, iv (-1 : Int32), iv (-1 : Int32), .unset, .unset, .unset, .unset, .unset, .unset]) rfl ?_
        show own_S p e below T120 m 227 #[iv xk, iv xa, iv xb, iv xc, rv a2, iv fr, iv to, iv oo, iv (own_bi bv), iv (own_bi bw), iv ss, rv a16, iv (own_K b0 b1 b2 kf), iv (own_K b0 b1 b2 (own_kt kf bb)), iv (own_K b0 b1 b2 (own_ko kf bb)), iv ei, own_lv (2 : Int64), .second, iv (-1 : Int32), iv (-1 : Int32), .unset, .unset, .unset, .unset, .unset, .unset] [] _
        refine XS.iload X120.here hx rfl (hb hby at_227) rfl ?_
        show own_S p e below T120 m 229 #[iv xk, iv xa, iv xb, iv xc, rv a2, iv fr, iv to, iv oo, iv (own_bi bv), iv (own_bi bw), iv ss, rv a16, iv (own_K b0 b1 b2 kf), iv (own_K b0 b1 b2 (own_kt kf bb)), iv (own_K b0 b1 b2 (own_ko kf bb)), iv ei, own_lv (2 : Int64), .second, iv (-1 : Int32), iv (-1 : Int32), .unset, .unset, .unset, .unset, .unset, .unset] [(.int (own_bi bw))] _
        refine XS.istore X120.here hx rfl (hb hby at_229) rfl (l' := #[iv xk, iv xa, iv xb, iv xc, rv a2, iv fr, iv to, iv oo, iv (own_bi bv), iv (own_bi bw), iv ss, rv a16, iv (own_K b0 b1 b2 kf), iv (own_K b0 b1 b2 (own_kt kf bb)), iv (own_K b0 b1 b2 (own_ko kf bb)), iv ei, own_lv (2 : Int64), .second, iv (own_bi bw), iv (-1 : Int32), .unset, .unset, .unset, .unset, .unset, .unset]) rfl ?_
        show own_S p e below T120 m 231 #[iv xk, iv xa, iv xb, iv xc, rv a2, iv fr, iv to, iv oo, iv (own_bi bv), iv (own_bi bw), iv ss, rv a16, iv (own_K b0 b1 b2 kf), iv (own_K b0 b1 b2 (own_kt kf bb)), iv (own_K b0 b1 b2 (own_ko kf bb)), iv ei, own_lv (2 : Int64), .second, iv (own_bi bw), iv (-1 : Int32), .unset, .unset, .unset, .unset, .unset, .unset] [] _
        refine XS.iload X120.here hx rfl (hb hby at_231) rfl ?_
        show own_S p e below T120 m 233 #[iv xk, iv xa, iv xb, iv xc, rv a2, iv fr, iv to, iv oo, iv (own_bi bv), iv (own_bi bw), iv ss, rv a16, iv (own_K b0 b1 b2 kf), iv (own_K b0 b1 b2 (own_kt kf bb)), iv (own_K b0 b1 b2 (own_ko kf bb)), iv ei, own_lv (2 : Int64), .second, iv (own_bi bw), iv (-1 : Int32), .unset, .unset, .unset, .unset, .unset, .unset] [(.int (own_bi bw))] _
        refine XS.istore X120.here hx rfl (hb hby at_233) rfl (l' := #[iv xk, iv xa, iv xb, iv xc, rv a2, iv fr, iv to, iv oo, iv (own_bi bv), iv (own_bi bw), iv ss, rv a16, iv (own_K b0 b1 b2 kf), iv (own_K b0 b1 b2 (own_kt kf bb)), iv (own_K b0 b1 b2 (own_ko kf bb)), iv ei, own_lv (2 : Int64), .second, iv (own_bi bw), iv (own_bi bw), .unset, .unset, .unset, .unset, .unset, .unset]) rfl ?_
        show own_S p e below T120 m 235 #[iv xk, iv xa, iv xb, iv xc, rv a2, iv fr, iv to, iv oo, iv (own_bi bv), iv (own_bi bw), iv ss, rv a16, iv (own_K b0 b1 b2 kf), iv (own_K b0 b1 b2 (own_kt kf bb)), iv (own_K b0 b1 b2 (own_ko kf bb)), iv ei, own_lv (2 : Int64), .second, iv (own_bi bw), iv (own_bi bw), .unset, .unset, .unset, .unset, .unset, .unset] [] _
        refine XS.goto X120.here hx rfl (pc0 := 235) (pc' := 273) rfl (hb hby at_235) (by decide) (by decide) ?_
        show own_S p e below T120 m 273 #[iv xk, iv xa, iv xb, iv xc, rv a2, iv fr, iv to, iv oo, iv (own_bi bv), iv (own_bi bw), iv ss, rv a16, iv (own_K b0 b1 b2 kf), iv (own_K b0 b1 b2 (own_kt kf bb)), iv (own_K b0 b1 b2 (own_ko kf bb)), iv ei, own_lv (2 : Int64), .second, iv (own_bi bw), iv (own_bi bw), .unset, .unset, .unset, .unset, .unset, .unset] [] _
        rw [show pre2 = (2 : Int64) from by rw [hpre2, if_neg hc121]] at kt
        rw [show pft2 = (own_bi bw) from by rw [hpft2, if_neg hc121]] at kt
        rw [show pfo2 = (own_bi bw) from by rw [hpfo2, if_neg hc121]] at kt
        exact kt
    refine own_st sg122 ?_
    obtain ⟨bls2, hbls2⟩ : ∃ z : Int32, z = (if pft2 = (-1 : Int32) then (0 : Int32) else (1 : Int32)) := ⟨_, rfl⟩
    have sg124 : own_V p e below T120 (mkF m 284 #[iv xk, iv xa, iv xb, iv xc, rv a2, iv fr, iv to, iv oo, iv (own_bi bv), iv (own_bi bw), iv ss, rv a16, iv (own_K b0 b1 b2 kf), iv (own_K b0 b1 b2 (own_kt kf bb)), iv (own_K b0 b1 b2 (own_ko kf bb)), iv ei, own_lv pre2, .second, iv pft2, iv pfo2, .unset, .unset, .unset, .unset, .unset, .unset] [(.int bls2)]) (mkF m 273 #[iv xk, iv xa, iv xb, iv xc, rv a2, iv fr, iv to, iv oo, iv (own_bi bv), iv (own_bi bw), iv ss, rv a16, iv (own_K b0 b1 b2 kf), iv (own_K b0 b1 b2 (own_kt kf bb)), iv (own_K b0 b1 b2 (own_ko kf bb)), iv ei, own_lv pre2, .second, iv pft2, iv pfo2, .unset, .unset, .unset, .unset, .unset, .unset] []) := by
      intro t kt
      refine XS.iload X120.here hx rfl (hb hby at_273) rfl ?_
      show own_S p e below T120 m 275 #[iv xk, iv xa, iv xb, iv xc, rv a2, iv fr, iv to, iv oo, iv (own_bi bv), iv (own_bi bw), iv ss, rv a16, iv (own_K b0 b1 b2 kf), iv (own_K b0 b1 b2 (own_kt kf bb)), iv (own_K b0 b1 b2 (own_ko kf bb)), iv ei, own_lv pre2, .second, iv pft2, iv pfo2, .unset, .unset, .unset, .unset, .unset, .unset] [(.int pft2)] _
      refine XS.iconst X120.here hx rfl (hb hby at_275) ?_
      show own_S p e below T120 m 276 #[iv xk, iv xa, iv xb, iv xc, rv a2, iv fr, iv to, iv oo, iv (own_bi bv), iv (own_bi bw), iv ss, rv a16, iv (own_K b0 b1 b2 kf), iv (own_K b0 b1 b2 (own_kt kf bb)), iv (own_K b0 b1 b2 (own_ko kf bb)), iv ei, own_lv pre2, .second, iv pft2, iv pfo2, .unset, .unset, .unset, .unset, .unset, .unset] [(.int (-1 : Int32)), (.int pft2)] _
      by_cases hc123 : pft2 = (-1 : Int32)
      · refine XS.icmpYes X120.here hx rfl (pc0 := 276) (pc' := 283) rfl (hb hby at_276) rfl (teq hc123).1 (by decide) (by decide) ?_
        show own_S p e below T120 m 283 #[iv xk, iv xa, iv xb, iv xc, rv a2, iv fr, iv to, iv oo, iv (own_bi bv), iv (own_bi bw), iv ss, rv a16, iv (own_K b0 b1 b2 kf), iv (own_K b0 b1 b2 (own_kt kf bb)), iv (own_K b0 b1 b2 (own_ko kf bb)), iv ei, own_lv pre2, .second, iv pft2, iv pfo2, .unset, .unset, .unset, .unset, .unset, .unset] [] _
        refine XS.iconst X120.here hx rfl (hb hby at_283) ?_
        show own_S p e below T120 m 284 #[iv xk, iv xa, iv xb, iv xc, rv a2, iv fr, iv to, iv oo, iv (own_bi bv), iv (own_bi bw), iv ss, rv a16, iv (own_K b0 b1 b2 kf), iv (own_K b0 b1 b2 (own_kt kf bb)), iv (own_K b0 b1 b2 (own_ko kf bb)), iv ei, own_lv pre2, .second, iv pft2, iv pfo2, .unset, .unset, .unset, .unset, .unset, .unset] [(.int (0 : Int32))] _
        rw [show bls2 = (0 : Int32) from by rw [hbls2, if_pos hc123]] at kt
        exact kt
      · refine XS.icmpNo X120.here hx rfl (hb hby at_276) rfl (feq hc123).1 ?_
        show own_S p e below T120 m 279 #[iv xk, iv xa, iv xb, iv xc, rv a2, iv fr, iv to, iv oo, iv (own_bi bv), iv (own_bi bw), iv ss, rv a16, iv (own_K b0 b1 b2 kf), iv (own_K b0 b1 b2 (own_kt kf bb)), iv (own_K b0 b1 b2 (own_ko kf bb)), iv ei, own_lv pre2, .second, iv pft2, iv pfo2, .unset, .unset, .unset, .unset, .unset, .unset] [] _
        refine XS.iconst X120.here hx rfl (hb hby at_279) ?_
        show own_S p e below T120 m 280 #[iv xk, iv xa, iv xb, iv xc, rv a2, iv fr, iv to, iv oo, iv (own_bi bv), iv (own_bi bw), iv ss, rv a16, iv (own_K b0 b1 b2 kf), iv (own_K b0 b1 b2 (own_kt kf bb)), iv (own_K b0 b1 b2 (own_ko kf bb)), iv ei, own_lv pre2, .second, iv pft2, iv pfo2, .unset, .unset, .unset, .unset, .unset, .unset] [(.int (1 : Int32))] _
        refine XS.goto X120.here hx rfl (pc0 := 280) (pc' := 284) rfl (hb hby at_280) (by decide) (by decide) ?_
        show own_S p e below T120 m 284 #[iv xk, iv xa, iv xb, iv xc, rv a2, iv fr, iv to, iv oo, iv (own_bi bv), iv (own_bi bw), iv ss, rv a16, iv (own_K b0 b1 b2 kf), iv (own_K b0 b1 b2 (own_kt kf bb)), iv (own_K b0 b1 b2 (own_ko kf bb)), iv ei, own_lv pre2, .second, iv pft2, iv pfo2, .unset, .unset, .unset, .unset, .unset, .unset] [(.int (1 : Int32))] _
        rw [show bls2 = (1 : Int32) from by rw [hbls2, if_neg hc123]] at kt
        exact kt
    refine own_st sg124 ?_
    obtain ⟨sos2, hsos2⟩ : ∃ z : Int32, z = (if ei = (0 : Int32) then (0 : Int32) else (if bls2 = (0 : Int32) then (1 : Int32) else (0 : Int32))) := ⟨_, rfl⟩
    have sg127 : own_V p e below T120 (mkF m 301 #[iv xk, iv xa, iv xb, iv xc, rv a2, iv fr, iv to, iv oo, iv (own_bi bv), iv (own_bi bw), iv ss, rv a16, iv (own_K b0 b1 b2 kf), iv (own_K b0 b1 b2 (own_kt kf bb)), iv (own_K b0 b1 b2 (own_ko kf bb)), iv ei, own_lv pre2, .second, iv pft2, iv pfo2, iv bls2, .unset, .unset, .unset, .unset, .unset] [(.int sos2)]) (mkF m 284 #[iv xk, iv xa, iv xb, iv xc, rv a2, iv fr, iv to, iv oo, iv (own_bi bv), iv (own_bi bw), iv ss, rv a16, iv (own_K b0 b1 b2 kf), iv (own_K b0 b1 b2 (own_kt kf bb)), iv (own_K b0 b1 b2 (own_ko kf bb)), iv ei, own_lv pre2, .second, iv pft2, iv pfo2, .unset, .unset, .unset, .unset, .unset, .unset] [(.int bls2)]) := by
      intro t kt
      refine XS.istore X120.here hx rfl (hb hby at_284) rfl (l' := #[iv xk, iv xa, iv xb, iv xc, rv a2, iv fr, iv to, iv oo, iv (own_bi bv), iv (own_bi bw), iv ss, rv a16, iv (own_K b0 b1 b2 kf), iv (own_K b0 b1 b2 (own_kt kf bb)), iv (own_K b0 b1 b2 (own_ko kf bb)), iv ei, own_lv pre2, .second, iv pft2, iv pfo2, iv bls2, .unset, .unset, .unset, .unset, .unset]) rfl ?_
      show own_S p e below T120 m 286 #[iv xk, iv xa, iv xb, iv xc, rv a2, iv fr, iv to, iv oo, iv (own_bi bv), iv (own_bi bw), iv ss, rv a16, iv (own_K b0 b1 b2 kf), iv (own_K b0 b1 b2 (own_kt kf bb)), iv (own_K b0 b1 b2 (own_ko kf bb)), iv ei, own_lv pre2, .second, iv pft2, iv pfo2, iv bls2, .unset, .unset, .unset, .unset, .unset] [] _
      refine XS.iload X120.here hx rfl (hb hby at_286) rfl ?_
      show own_S p e below T120 m 288 #[iv xk, iv xa, iv xb, iv xc, rv a2, iv fr, iv to, iv oo, iv (own_bi bv), iv (own_bi bw), iv ss, rv a16, iv (own_K b0 b1 b2 kf), iv (own_K b0 b1 b2 (own_kt kf bb)), iv (own_K b0 b1 b2 (own_ko kf bb)), iv ei, own_lv pre2, .second, iv pft2, iv pfo2, iv bls2, .unset, .unset, .unset, .unset, .unset] [(.int ei)] _
      by_cases hc125 : ei = (0 : Int32)
      · refine XS.ifYes X120.here hx rfl (pc0 := 288) (pc' := 300) rfl (hb hby at_288) rfl ((if0 _ _).trans (teq hc125).1) (by decide) (by decide) ?_
        show own_S p e below T120 m 300 #[iv xk, iv xa, iv xb, iv xc, rv a2, iv fr, iv to, iv oo, iv (own_bi bv), iv (own_bi bw), iv ss, rv a16, iv (own_K b0 b1 b2 kf), iv (own_K b0 b1 b2 (own_kt kf bb)), iv (own_K b0 b1 b2 (own_ko kf bb)), iv ei, own_lv pre2, .second, iv pft2, iv pfo2, iv bls2, .unset, .unset, .unset, .unset, .unset] [] _
        refine XS.iconst X120.here hx rfl (hb hby at_300) ?_
        show own_S p e below T120 m 301 #[iv xk, iv xa, iv xb, iv xc, rv a2, iv fr, iv to, iv oo, iv (own_bi bv), iv (own_bi bw), iv ss, rv a16, iv (own_K b0 b1 b2 kf), iv (own_K b0 b1 b2 (own_kt kf bb)), iv (own_K b0 b1 b2 (own_ko kf bb)), iv ei, own_lv pre2, .second, iv pft2, iv pfo2, iv bls2, .unset, .unset, .unset, .unset, .unset] [(.int (0 : Int32))] _
        rw [show sos2 = (0 : Int32) from by rw [hsos2, if_pos hc125]] at kt
        exact kt
      · refine XS.ifNo X120.here hx rfl (hb hby at_288) rfl ((if0 _ _).trans (feq hc125).1) ?_
        show own_S p e below T120 m 291 #[iv xk, iv xa, iv xb, iv xc, rv a2, iv fr, iv to, iv oo, iv (own_bi bv), iv (own_bi bw), iv ss, rv a16, iv (own_K b0 b1 b2 kf), iv (own_K b0 b1 b2 (own_kt kf bb)), iv (own_K b0 b1 b2 (own_ko kf bb)), iv ei, own_lv pre2, .second, iv pft2, iv pfo2, iv bls2, .unset, .unset, .unset, .unset, .unset] [] _
        refine XS.iload X120.here hx rfl (hb hby at_291) rfl ?_
        show own_S p e below T120 m 293 #[iv xk, iv xa, iv xb, iv xc, rv a2, iv fr, iv to, iv oo, iv (own_bi bv), iv (own_bi bw), iv ss, rv a16, iv (own_K b0 b1 b2 kf), iv (own_K b0 b1 b2 (own_kt kf bb)), iv (own_K b0 b1 b2 (own_ko kf bb)), iv ei, own_lv pre2, .second, iv pft2, iv pfo2, iv bls2, .unset, .unset, .unset, .unset, .unset] [(.int bls2)] _
        by_cases hc126 : bls2 = (0 : Int32)
        · refine XS.ifNo X120.here hx rfl (hb hby at_293) rfl ((if0 _ _).trans (teq hc126).2) ?_
          show own_S p e below T120 m 296 #[iv xk, iv xa, iv xb, iv xc, rv a2, iv fr, iv to, iv oo, iv (own_bi bv), iv (own_bi bw), iv ss, rv a16, iv (own_K b0 b1 b2 kf), iv (own_K b0 b1 b2 (own_kt kf bb)), iv (own_K b0 b1 b2 (own_ko kf bb)), iv ei, own_lv pre2, .second, iv pft2, iv pfo2, iv bls2, .unset, .unset, .unset, .unset, .unset] [] _
          refine XS.iconst X120.here hx rfl (hb hby at_296) ?_
          show own_S p e below T120 m 297 #[iv xk, iv xa, iv xb, iv xc, rv a2, iv fr, iv to, iv oo, iv (own_bi bv), iv (own_bi bw), iv ss, rv a16, iv (own_K b0 b1 b2 kf), iv (own_K b0 b1 b2 (own_kt kf bb)), iv (own_K b0 b1 b2 (own_ko kf bb)), iv ei, own_lv pre2, .second, iv pft2, iv pfo2, iv bls2, .unset, .unset, .unset, .unset, .unset] [(.int (1 : Int32))] _
          refine XS.goto X120.here hx rfl (pc0 := 297) (pc' := 301) rfl (hb hby at_297) (by decide) (by decide) ?_
          show own_S p e below T120 m 301 #[iv xk, iv xa, iv xb, iv xc, rv a2, iv fr, iv to, iv oo, iv (own_bi bv), iv (own_bi bw), iv ss, rv a16, iv (own_K b0 b1 b2 kf), iv (own_K b0 b1 b2 (own_kt kf bb)), iv (own_K b0 b1 b2 (own_ko kf bb)), iv ei, own_lv pre2, .second, iv pft2, iv pfo2, iv bls2, .unset, .unset, .unset, .unset, .unset] [(.int (1 : Int32))] _
          rw [show sos2 = (1 : Int32) from by rw [hsos2, if_neg hc125, if_pos hc126]] at kt
          exact kt
        · refine XS.ifYes X120.here hx rfl (pc0 := 293) (pc' := 300) rfl (hb hby at_293) rfl ((if0 _ _).trans (feq hc126).2) (by decide) (by decide) ?_
          show own_S p e below T120 m 300 #[iv xk, iv xa, iv xb, iv xc, rv a2, iv fr, iv to, iv oo, iv (own_bi bv), iv (own_bi bw), iv ss, rv a16, iv (own_K b0 b1 b2 kf), iv (own_K b0 b1 b2 (own_kt kf bb)), iv (own_K b0 b1 b2 (own_ko kf bb)), iv ei, own_lv pre2, .second, iv pft2, iv pfo2, iv bls2, .unset, .unset, .unset, .unset, .unset] [] _
          refine XS.iconst X120.here hx rfl (hb hby at_300) ?_
          show own_S p e below T120 m 301 #[iv xk, iv xa, iv xb, iv xc, rv a2, iv fr, iv to, iv oo, iv (own_bi bv), iv (own_bi bw), iv ss, rv a16, iv (own_K b0 b1 b2 kf), iv (own_K b0 b1 b2 (own_kt kf bb)), iv (own_K b0 b1 b2 (own_ko kf bb)), iv ei, own_lv pre2, .second, iv pft2, iv pfo2, iv bls2, .unset, .unset, .unset, .unset, .unset] [(.int (0 : Int32))] _
          rw [show sos2 = (0 : Int32) from by rw [hsos2, if_neg hc125, if_neg hc126]] at kt
          exact kt
    refine own_st sg127 ?_
    have sg128 : own_V p e below T120 (mkF m 311 #[iv xk, iv xa, iv xb, iv xc, rv a2, iv fr, iv to, iv oo, iv (own_bi bv), iv (own_bi bw), iv ss, rv a16, iv (own_K b0 b1 b2 kf), iv (own_K b0 b1 b2 (own_kt kf bb)), iv (own_K b0 b1 b2 (own_ko kf bb)), iv ei, own_lv pre2, .second, iv pft2, iv pfo2, iv bls2, iv sos2, .unset, .unset, .unset, .unset] [(.int (own_bi bv)), (.int to), (.int fr), (.ref a16)]) (mkF m 301 #[iv xk, iv xa, iv xb, iv xc, rv a2, iv fr, iv to, iv oo, iv (own_bi bv), iv (own_bi bw), iv ss, rv a16, iv (own_K b0 b1 b2 kf), iv (own_K b0 b1 b2 (own_kt kf bb)), iv (own_K b0 b1 b2 (own_ko kf bb)), iv ei, own_lv pre2, .second, iv pft2, iv pfo2, iv bls2, .unset, .unset, .unset, .unset, .unset] [(.int sos2)]) := by
      intro t kt
      refine XS.istore X120.here hx rfl (hb hby at_301) rfl (l' := #[iv xk, iv xa, iv xb, iv xc, rv a2, iv fr, iv to, iv oo, iv (own_bi bv), iv (own_bi bw), iv ss, rv a16, iv (own_K b0 b1 b2 kf), iv (own_K b0 b1 b2 (own_kt kf bb)), iv (own_K b0 b1 b2 (own_ko kf bb)), iv ei, own_lv pre2, .second, iv pft2, iv pfo2, iv bls2, iv sos2, .unset, .unset, .unset, .unset]) rfl ?_
      show own_S p e below T120 m 303 #[iv xk, iv xa, iv xb, iv xc, rv a2, iv fr, iv to, iv oo, iv (own_bi bv), iv (own_bi bw), iv ss, rv a16, iv (own_K b0 b1 b2 kf), iv (own_K b0 b1 b2 (own_kt kf bb)), iv (own_K b0 b1 b2 (own_ko kf bb)), iv ei, own_lv pre2, .second, iv pft2, iv pfo2, iv bls2, iv sos2, .unset, .unset, .unset, .unset] [] _
      refine XS.aload X120.here hx rfl (hb hby at_303) rfl rfl ?_
      show own_S p e below T120 m 305 #[iv xk, iv xa, iv xb, iv xc, rv a2, iv fr, iv to, iv oo, iv (own_bi bv), iv (own_bi bw), iv ss, rv a16, iv (own_K b0 b1 b2 kf), iv (own_K b0 b1 b2 (own_kt kf bb)), iv (own_K b0 b1 b2 (own_ko kf bb)), iv ei, own_lv pre2, .second, iv pft2, iv pfo2, iv bls2, iv sos2, .unset, .unset, .unset, .unset] [(.ref a16)] _
      refine XS.iload X120.here hx rfl (hb hby at_305) rfl ?_
      show own_S p e below T120 m 307 #[iv xk, iv xa, iv xb, iv xc, rv a2, iv fr, iv to, iv oo, iv (own_bi bv), iv (own_bi bw), iv ss, rv a16, iv (own_K b0 b1 b2 kf), iv (own_K b0 b1 b2 (own_kt kf bb)), iv (own_K b0 b1 b2 (own_ko kf bb)), iv ei, own_lv pre2, .second, iv pft2, iv pfo2, iv bls2, iv sos2, .unset, .unset, .unset, .unset] [(.int fr), (.ref a16)] _
      refine XS.iload X120.here hx rfl (hb hby at_307) rfl ?_
      show own_S p e below T120 m 309 #[iv xk, iv xa, iv xb, iv xc, rv a2, iv fr, iv to, iv oo, iv (own_bi bv), iv (own_bi bw), iv ss, rv a16, iv (own_K b0 b1 b2 kf), iv (own_K b0 b1 b2 (own_kt kf bb)), iv (own_K b0 b1 b2 (own_ko kf bb)), iv ei, own_lv pre2, .second, iv pft2, iv pfo2, iv bls2, iv sos2, .unset, .unset, .unset, .unset] [(.int to), (.int fr), (.ref a16)] _
      refine XS.iload X120.here hx rfl (hb hby at_309) rfl ?_
      show own_S p e below T120 m 311 #[iv xk, iv xa, iv xb, iv xc, rv a2, iv fr, iv to, iv oo, iv (own_bi bv), iv (own_bi bw), iv ss, rv a16, iv (own_K b0 b1 b2 kf), iv (own_K b0 b1 b2 (own_kt kf bb)), iv (own_K b0 b1 b2 (own_ko kf bb)), iv ei, own_lv pre2, .second, iv pft2, iv pfo2, iv bls2, iv sos2, .unset, .unset, .unset, .unset] [(.int (own_bi bv)), (.int to), (.int fr), (.ref a16)] _
      exact kt
    refine own_st sg128 ?_
    obtain ⟨_, T129, L129, X129, hQ129, st129⟩ := own_callV (y := (⟨"com/example/kingsround/kingsround/engine/Deliveries", "put", "(III)Z"⟩ : MethodName)) (y0 := (⟨"com/example/kingsround/kingsround/engine/Deliveries", "put", "(III)Z"⟩ : MethodName)) (a := a16) (C := "com/example/kingsround/kingsround/engine/Deliveries") X120 hx hZ hown HD120.1 (hw _ (List.mem_of_getElem? (i := 77) rfl)) (hw _ (List.mem_of_getElem? (i := 78) rfl)) (hw _ (List.mem_of_getElem? (i := 80) rfl)) (notFace_of_selects (args := #[]) (mvT hZ (hw _ (List.mem_of_getElem? (i := 80) rfl)))) (hw _ (List.mem_of_getElem? (i := 79) rfl)) (hw _ (List.mem_of_getElem? (i := 4) rfl)) (hw _ (List.mem_of_getElem? (i := 81) rfl)) (by decide) (own_rmput l Z a0 hw a16 fr to (own_bi bv) ib kp ta ob q r (own_K b0 b1 b2) (own_aT (own_K b0 b1 b2) (fun _ => -1) (fun _ => 0) kf (own_bi bw)) (fun _ => 0) (fun _ _ => -1) (own_ac (own_K b0 b1 b2) (fun _ => -1) (fun _ => 0) kf 0) kf (own_kt kf bb) T120.heap n0 Z120 HA HD120 hkf hkt hf3 ht3) rfl (g := (mkF m 311 #[iv xk, iv xa, iv xb, iv xc, rv a2, iv fr, iv to, iv oo, iv (own_bi bv), iv (own_bi bw), iv ss, rv a16, iv (own_K b0 b1 b2 kf), iv (own_K b0 b1 b2 (own_kt kf bb)), iv (own_K b0 b1 b2 (own_ko kf bb)), iv ei, own_lv pre2, .second, iv pft2, iv pfo2, iv bls2, iv sos2, .unset, .unset, .unset, .unset] [(.int (own_bi bv)), (.int to), (.int fr), (.ref a16)])) rfl (by rw [hml]; rfl) (argsL := [(.int fr), (.int to), (.int (own_bi bv))]) (rest := []) (lenOf own_pd7 rfl) rfl (W := 0) (by show 2 * 0 + _ ≤ _; exact Nat.le_of_eq rfl) (hb hby at_311) (by decide) (by decide) (by decide) (by decide)
    obtain ⟨rfl, Nq129, Sz129, HD129⟩ := hQ129
    refine own_st st129 ?_
    have Z129 : n0 ≤ T129.heap.size := Nat.le_trans Z120 Sz129
    have N129 := Fr.app N120 Nq129
    show own_Go p e below _ T129 (mkF m 314 #[iv xk, iv xa, iv xb, iv xc, rv a2, iv fr, iv to, iv oo, iv (own_bi bv), iv (own_bi bw), iv ss, rv a16, iv (own_K b0 b1 b2 kf), iv (own_K b0 b1 b2 (own_kt kf bb)), iv (own_K b0 b1 b2 (own_ko kf bb)), iv ei, own_lv pre2, .second, iv pft2, iv pfo2, iv bls2, iv sos2, .unset, .unset, .unset, .unset] [(.int (own_pr (own_K b0 b1 b2) (own_aT (own_K b0 b1 b2) (fun _ => -1) (fun _ => 0) kf (own_bi bw)) (fun _ _ => -1) kf (own_kt kf bb)))])
    obtain ⟨pls2, hpls2⟩ : ∃ z : Int64, z = (if sos2 = (0 : Int32) then (0 : Int64) else (1 : Int64)) := ⟨_, rfl⟩
    have sg131 : own_V p e below T129 (mkF m 328 #[iv xk, iv xa, iv xb, iv xc, rv a2, iv fr, iv to, iv oo, iv (own_bi bv), iv (own_bi bw), iv ss, rv a16, iv (own_K b0 b1 b2 kf), iv (own_K b0 b1 b2 (own_kt kf bb)), iv (own_K b0 b1 b2 (own_ko kf bb)), iv ei, own_lv pre2, .second, iv pft2, iv pfo2, iv bls2, iv sos2, iv (own_pr (own_K b0 b1 b2) (own_aT (own_K b0 b1 b2) (fun _ => -1) (fun _ => 0) kf (own_bi bw)) (fun _ _ => -1) kf (own_kt kf bb)), .unset, .unset, .unset] [(.long pls2), (.long pre2)]) (mkF m 314 #[iv xk, iv xa, iv xb, iv xc, rv a2, iv fr, iv to, iv oo, iv (own_bi bv), iv (own_bi bw), iv ss, rv a16, iv (own_K b0 b1 b2 kf), iv (own_K b0 b1 b2 (own_kt kf bb)), iv (own_K b0 b1 b2 (own_ko kf bb)), iv ei, own_lv pre2, .second, iv pft2, iv pfo2, iv bls2, iv sos2, .unset, .unset, .unset, .unset] [(.int (own_pr (own_K b0 b1 b2) (own_aT (own_K b0 b1 b2) (fun _ => -1) (fun _ => 0) kf (own_bi bw)) (fun _ _ => -1) kf (own_kt kf bb)))]) := by
      intro t kt
      refine XS.istore X129.here hx rfl (hb hby at_314) rfl (l' := #[iv xk, iv xa, iv xb, iv xc, rv a2, iv fr, iv to, iv oo, iv (own_bi bv), iv (own_bi bw), iv ss, rv a16, iv (own_K b0 b1 b2 kf), iv (own_K b0 b1 b2 (own_kt kf bb)), iv (own_K b0 b1 b2 (own_ko kf bb)), iv ei, own_lv pre2, .second, iv pft2, iv pfo2, iv bls2, iv sos2, iv (own_pr (own_K b0 b1 b2) (own_aT (own_K b0 b1 b2) (fun _ => -1) (fun _ => 0) kf (own_bi bw)) (fun _ _ => -1) kf (own_kt kf bb)), .unset, .unset, .unset]) rfl ?_
      show own_S p e below T129 m 316 #[iv xk, iv xa, iv xb, iv xc, rv a2, iv fr, iv to, iv oo, iv (own_bi bv), iv (own_bi bw), iv ss, rv a16, iv (own_K b0 b1 b2 kf), iv (own_K b0 b1 b2 (own_kt kf bb)), iv (own_K b0 b1 b2 (own_ko kf bb)), iv ei, own_lv pre2, .second, iv pft2, iv pfo2, iv bls2, iv sos2, iv (own_pr (own_K b0 b1 b2) (own_aT (own_K b0 b1 b2) (fun _ => -1) (fun _ => 0) kf (own_bi bw)) (fun _ _ => -1) kf (own_kt kf bb)), .unset, .unset, .unset] [] _
      refine XS.lload X129.here hx rfl (hb hby at_316) rfl ?_
      show own_S p e below T129 m 318 #[iv xk, iv xa, iv xb, iv xc, rv a2, iv fr, iv to, iv oo, iv (own_bi bv), iv (own_bi bw), iv ss, rv a16, iv (own_K b0 b1 b2 kf), iv (own_K b0 b1 b2 (own_kt kf bb)), iv (own_K b0 b1 b2 (own_ko kf bb)), iv ei, own_lv pre2, .second, iv pft2, iv pfo2, iv bls2, iv sos2, iv (own_pr (own_K b0 b1 b2) (own_aT (own_K b0 b1 b2) (fun _ => -1) (fun _ => 0) kf (own_bi bw)) (fun _ _ => -1) kf (own_kt kf bb)), .unset, .unset, .unset] [(.long pre2)] _
      refine XS.iload X129.here hx rfl (hb hby at_318) rfl ?_
      show own_S p e below T129 m 320 #[iv xk, iv xa, iv xb, iv xc, rv a2, iv fr, iv to, iv oo, iv (own_bi bv), iv (own_bi bw), iv ss, rv a16, iv (own_K b0 b1 b2 kf), iv (own_K b0 b1 b2 (own_kt kf bb)), iv (own_K b0 b1 b2 (own_ko kf bb)), iv ei, own_lv pre2, .second, iv pft2, iv pfo2, iv bls2, iv sos2, iv (own_pr (own_K b0 b1 b2) (own_aT (own_K b0 b1 b2) (fun _ => -1) (fun _ => 0) kf (own_bi bw)) (fun _ _ => -1) kf (own_kt kf bb)), .unset, .unset, .unset] [(.int sos2), (.long pre2)] _
      by_cases hc130 : sos2 = (0 : Int32)
      · refine XS.ifYes X129.here hx rfl (pc0 := 320) (pc' := 327) rfl (hb hby at_320) rfl ((if0 _ _).trans (teq hc130).1) (by decide) (by decide) ?_
        show own_S p e below T129 m 327 #[iv xk, iv xa, iv xb, iv xc, rv a2, iv fr, iv to, iv oo, iv (own_bi bv), iv (own_bi bw), iv ss, rv a16, iv (own_K b0 b1 b2 kf), iv (own_K b0 b1 b2 (own_kt kf bb)), iv (own_K b0 b1 b2 (own_ko kf bb)), iv ei, own_lv pre2, .second, iv pft2, iv pfo2, iv bls2, iv sos2, iv (own_pr (own_K b0 b1 b2) (own_aT (own_K b0 b1 b2) (fun _ => -1) (fun _ => 0) kf (own_bi bw)) (fun _ _ => -1) kf (own_kt kf bb)), .unset, .unset, .unset] [(.long pre2)] _
        refine XS.lconst X129.here hx rfl (hb hby at_327) ?_
        show own_S p e below T129 m 328 #[iv xk, iv xa, iv xb, iv xc, rv a2, iv fr, iv to, iv oo, iv (own_bi bv), iv (own_bi bw), iv ss, rv a16, iv (own_K b0 b1 b2 kf), iv (own_K b0 b1 b2 (own_kt kf bb)), iv (own_K b0 b1 b2 (own_ko kf bb)), iv ei, own_lv pre2, .second, iv pft2, iv pfo2, iv bls2, iv sos2, iv (own_pr (own_K b0 b1 b2) (own_aT (own_K b0 b1 b2) (fun _ => -1) (fun _ => 0) kf (own_bi bw)) (fun _ _ => -1) kf (own_kt kf bb)), .unset, .unset, .unset] [(.long (0 : Int64)), (.long pre2)] _
        rw [show pls2 = (0 : Int64) from by rw [hpls2, if_pos hc130]] at kt
        exact kt
      · refine XS.ifNo X129.here hx rfl (hb hby at_320) rfl ((if0 _ _).trans (feq hc130).1) ?_
        show own_S p e below T129 m 323 #[iv xk, iv xa, iv xb, iv xc, rv a2, iv fr, iv to, iv oo, iv (own_bi bv), iv (own_bi bw), iv ss, rv a16, iv (own_K b0 b1 b2 kf), iv (own_K b0 b1 b2 (own_kt kf bb)), iv (own_K b0 b1 b2 (own_ko kf bb)), iv ei, own_lv pre2, .second, iv pft2, iv pfo2, iv bls2, iv sos2, iv (own_pr (own_K b0 b1 b2) (own_aT (own_K b0 b1 b2) (fun _ => -1) (fun _ => 0) kf (own_bi bw)) (fun _ _ => -1) kf (own_kt kf bb)), .unset, .unset, .unset] [(.long pre2)] _
        refine XS.lconst X129.here hx rfl (hb hby at_323) ?_
        show own_S p e below T129 m 324 #[iv xk, iv xa, iv xb, iv xc, rv a2, iv fr, iv to, iv oo, iv (own_bi bv), iv (own_bi bw), iv ss, rv a16, iv (own_K b0 b1 b2 kf), iv (own_K b0 b1 b2 (own_kt kf bb)), iv (own_K b0 b1 b2 (own_ko kf bb)), iv ei, own_lv pre2, .second, iv pft2, iv pfo2, iv bls2, iv sos2, iv (own_pr (own_K b0 b1 b2) (own_aT (own_K b0 b1 b2) (fun _ => -1) (fun _ => 0) kf (own_bi bw)) (fun _ _ => -1) kf (own_kt kf bb)), .unset, .unset, .unset] [(.long (1 : Int64)), (.long pre2)] _
        refine XS.goto X129.here hx rfl (pc0 := 324) (pc' := 328) rfl (hb hby at_324) (by decide) (by decide) ?_
        show own_S p e below T129 m 328 #[iv xk, iv xa, iv xb, iv xc, rv a2, iv fr, iv to, iv oo, iv (own_bi bv), iv (own_bi bw), iv ss, rv a16, iv (own_K b0 b1 b2 kf), iv (own_K b0 b1 b2 (own_kt kf bb)), iv (own_K b0 b1 b2 (own_ko kf bb)), iv ei, own_lv pre2, .second, iv pft2, iv pfo2, iv bls2, iv sos2, iv (own_pr (own_K b0 b1 b2) (own_aT (own_K b0 b1 b2) (fun _ => -1) (fun _ => 0) kf (own_bi bw)) (fun _ _ => -1) kf (own_kt kf bb)), .unset, .unset, .unset] [(.long (1 : Int64)), (.long pre2)] _
        rw [show pls2 = (1 : Int64) from by rw [hpls2, if_neg hc130]] at kt
        exact kt
    refine own_st sg131 ?_
    obtain ⟨ecs2, hecs2⟩ : ∃ z : Int64, z = (pre2 + pls2) := ⟨_, rfl⟩
    obtain ⟨efts2, hefts2⟩ : ∃ z : Int32, z = (if sos2 = (0 : Int32) then pft2 else (own_bi bv)) := ⟨_, rfl⟩
    have sg133 : own_V p e below T129 (mkF m 343 #[iv xk, iv xa, iv xb, iv xc, rv a2, iv fr, iv to, iv oo, iv (own_bi bv), iv (own_bi bw), iv ss, rv a16, iv (own_K b0 b1 b2 kf), iv (own_K b0 b1 b2 (own_kt kf bb)), iv (own_K b0 b1 b2 (own_ko kf bb)), iv ei, own_lv pre2, .second, iv pft2, iv pfo2, iv bls2, iv sos2, iv (own_pr (own_K b0 b1 b2) (own_aT (own_K b0 b1 b2) (fun _ => -1) (fun _ => 0) kf (own_bi bw)) (fun _ _ => -1) kf (own_kt kf bb)), own_lv ecs2, .second, .unset] [(.int efts2)]) (mkF m 328 #[iv xk, iv xa, iv xb, iv xc, rv a2, iv fr, iv to, iv oo, iv (own_bi bv), iv (own_bi bw), iv ss, rv a16, iv (own_K b0 b1 b2 kf), iv (own_K b0 b1 b2 (own_kt kf bb)), iv (own_K b0 b1 b2 (own_ko kf bb)), iv ei, own_lv pre2, .second, iv pft2, iv pfo2, iv bls2, iv sos2, iv (own_pr (own_K b0 b1 b2) (own_aT (own_K b0 b1 b2) (fun _ => -1) (fun _ => 0) kf (own_bi bw)) (fun _ _ => -1) kf (own_kt kf bb)), .unset, .unset, .unset] [(.long pls2), (.long pre2)]) := by
      intro t kt
      refine XS.ladd X129.here hx rfl (hb hby at_328) rfl ?_
      show own_S p e below T129 m 329 #[iv xk, iv xa, iv xb, iv xc, rv a2, iv fr, iv to, iv oo, iv (own_bi bv), iv (own_bi bw), iv ss, rv a16, iv (own_K b0 b1 b2 kf), iv (own_K b0 b1 b2 (own_kt kf bb)), iv (own_K b0 b1 b2 (own_ko kf bb)), iv ei, own_lv pre2, .second, iv pft2, iv pfo2, iv bls2, iv sos2, iv (own_pr (own_K b0 b1 b2) (own_aT (own_K b0 b1 b2) (fun _ => -1) (fun _ => 0) kf (own_bi bw)) (fun _ _ => -1) kf (own_kt kf bb)), .unset, .unset, .unset] [(.long (pre2 + pls2))] _
      refine XS.lstore X129.here hx rfl (hb hby at_329) rfl (l' := #[iv xk, iv xa, iv xb, iv xc, rv a2, iv fr, iv to, iv oo, iv (own_bi bv), iv (own_bi bw), iv ss, rv a16, iv (own_K b0 b1 b2 kf), iv (own_K b0 b1 b2 (own_kt kf bb)), iv (own_K b0 b1 b2 (own_ko kf bb)), iv ei, own_lv pre2, .second, iv pft2, iv pfo2, iv bls2, iv sos2, iv (own_pr (own_K b0 b1 b2) (own_aT (own_K b0 b1 b2) (fun _ => -1) (fun _ => 0) kf (own_bi bw)) (fun _ _ => -1) kf (own_kt kf bb)), own_lv (pre2 + pls2), .second, .unset]) rfl ?_
      show own_S p e below T129 m 331 #[iv xk, iv xa, iv xb, iv xc, rv a2, iv fr, iv to, iv oo, iv (own_bi bv), iv (own_bi bw), iv ss, rv a16, iv (own_K b0 b1 b2 kf), iv (own_K b0 b1 b2 (own_kt kf bb)), iv (own_K b0 b1 b2 (own_ko kf bb)), iv ei, own_lv pre2, .second, iv pft2, iv pfo2, iv bls2, iv sos2, iv (own_pr (own_K b0 b1 b2) (own_aT (own_K b0 b1 b2) (fun _ => -1) (fun _ => 0) kf (own_bi bw)) (fun _ _ => -1) kf (own_kt kf bb)), own_lv (pre2 + pls2), .second, .unset] [] _
      refine XS.iload X129.here hx rfl (hb hby at_331) rfl ?_
      show own_S p e below T129 m 333 #[iv xk, iv xa, iv xb, iv xc, rv a2, iv fr, iv to, iv oo, iv (own_bi bv), iv (own_bi bw), iv ss, rv a16, iv (own_K b0 b1 b2 kf), iv (own_K b0 b1 b2 (own_kt kf bb)), iv (own_K b0 b1 b2 (own_ko kf bb)), iv ei, own_lv pre2, .second, iv pft2, iv pfo2, iv bls2, iv sos2, iv (own_pr (own_K b0 b1 b2) (own_aT (own_K b0 b1 b2) (fun _ => -1) (fun _ => 0) kf (own_bi bw)) (fun _ _ => -1) kf (own_kt kf bb)), own_lv (pre2 + pls2), .second, .unset] [(.int sos2)] _
      by_cases hc132 : sos2 = (0 : Int32)
      · refine XS.ifYes X129.here hx rfl (pc0 := 333) (pc' := 341) rfl (hb hby at_333) rfl ((if0 _ _).trans (teq hc132).1) (by decide) (by decide) ?_
        show own_S p e below T129 m 341 #[iv xk, iv xa, iv xb, iv xc, rv a2, iv fr, iv to, iv oo, iv (own_bi bv), iv (own_bi bw), iv ss, rv a16, iv (own_K b0 b1 b2 kf), iv (own_K b0 b1 b2 (own_kt kf bb)), iv (own_K b0 b1 b2 (own_ko kf bb)), iv ei, own_lv pre2, .second, iv pft2, iv pfo2, iv bls2, iv sos2, iv (own_pr (own_K b0 b1 b2) (own_aT (own_K b0 b1 b2) (fun _ => -1) (fun _ => 0) kf (own_bi bw)) (fun _ _ => -1) kf (own_kt kf bb)), own_lv (pre2 + pls2), .second, .unset] [] _
        refine XS.iload X129.here hx rfl (hb hby at_341) rfl ?_
        show own_S p e below T129 m 343 #[iv xk, iv xa, iv xb, iv xc, rv a2, iv fr, iv to, iv oo, iv (own_bi bv), iv (own_bi bw), iv ss, rv a16, iv (own_K b0 b1 b2 kf), iv (own_K b0 b1 b2 (own_kt kf bb)), iv (own_K b0 b1 b2 (own_ko kf bb)), iv ei, own_lv pre2, .second, iv pft2, iv pfo2, iv bls2, iv sos2, iv (own_pr (own_K b0 b1 b2) (own_aT (own_K b0 b1 b2) (fun _ => -1) (fun _ => 0) kf (own_bi bw)) (fun _ _ => -1) kf (own_kt kf bb)), own_lv (pre2 + pls2), .second, .unset] [(.int pft2)] _
        rw [hecs2] at kt
        rw [show efts2 = pft2 from by rw [hefts2, if_pos hc132]] at kt
        exact kt
      · refine XS.ifNo X129.here hx rfl (hb hby at_333) rfl ((if0 _ _).trans (feq hc132).1) ?_
        show own_S p e below T129 m 336 #[iv xk, iv xa, iv xb, iv xc, rv a2, iv fr, iv to, iv oo, iv (own_bi bv), iv (own_bi bw), iv ss, rv a16, iv (own_K b0 b1 b2 kf), iv (own_K b0 b1 b2 (own_kt kf bb)), iv (own_K b0 b1 b2 (own_ko kf bb)), iv ei, own_lv pre2, .second, iv pft2, iv pfo2, iv bls2, iv sos2, iv (own_pr (own_K b0 b1 b2) (own_aT (own_K b0 b1 b2) (fun _ => -1) (fun _ => 0) kf (own_bi bw)) (fun _ _ => -1) kf (own_kt kf bb)), own_lv (pre2 + pls2), .second, .unset] [] _
        refine XS.iload X129.here hx rfl (hb hby at_336) rfl ?_
        show own_S p e below T129 m 338 #[iv xk, iv xa, iv xb, iv xc, rv a2, iv fr, iv to, iv oo, iv (own_bi bv), iv (own_bi bw), iv ss, rv a16, iv (own_K b0 b1 b2 kf), iv (own_K b0 b1 b2 (own_kt kf bb)), iv (own_K b0 b1 b2 (own_ko kf bb)), iv ei, own_lv pre2, .second, iv pft2, iv pfo2, iv bls2, iv sos2, iv (own_pr (own_K b0 b1 b2) (own_aT (own_K b0 b1 b2) (fun _ => -1) (fun _ => 0) kf (own_bi bw)) (fun _ _ => -1) kf (own_kt kf bb)), own_lv (pre2 + pls2), .second, .unset] [(.int (own_bi bv))] _
        refine XS.goto X129.here hx rfl (pc0 := 338) (pc' := 343) rfl (hb hby at_338) (by decide) (by decide) ?_
        show own_S p e below T129 m 343 #[iv xk, iv xa, iv xb, iv xc, rv a2, iv fr, iv to, iv oo, iv (own_bi bv), iv (own_bi bw), iv ss, rv a16, iv (own_K b0 b1 b2 kf), iv (own_K b0 b1 b2 (own_kt kf bb)), iv (own_K b0 b1 b2 (own_ko kf bb)), iv ei, own_lv pre2, .second, iv pft2, iv pfo2, iv bls2, iv sos2, iv (own_pr (own_K b0 b1 b2) (own_aT (own_K b0 b1 b2) (fun _ => -1) (fun _ => 0) kf (own_bi bw)) (fun _ _ => -1) kf (own_kt kf bb)), own_lv (pre2 + pls2), .second, .unset] [(.int (own_bi bv))] _
        rw [hecs2] at kt
        rw [show efts2 = (own_bi bv) from by rw [hefts2, if_neg hc132]] at kt
        exact kt
    refine own_st sg133 ?_
    obtain ⟨nbs2, hnbs2⟩ : ∃ z : Int32, z = (if bls2 = (0 : Int32) then (1 : Int32) else (0 : Int32)) := ⟨_, rfl⟩
    have sg135 : own_V p e below T129 (mkF m 357 #[iv xk, iv xa, iv xb, iv xc, rv a2, iv fr, iv to, iv oo, iv (own_bi bv), iv (own_bi bw), iv ss, rv a16, iv (own_K b0 b1 b2 kf), iv (own_K b0 b1 b2 (own_kt kf bb)), iv (own_K b0 b1 b2 (own_ko kf bb)), iv ei, own_lv pre2, .second, iv pft2, iv pfo2, iv bls2, iv sos2, iv (own_pr (own_K b0 b1 b2) (own_aT (own_K b0 b1 b2) (fun _ => -1) (fun _ => 0) kf (own_bi bw)) (fun _ _ => -1) kf (own_kt kf bb)), own_lv ecs2, .second, iv efts2] [(.int nbs2), (.int (own_pr (own_K b0 b1 b2) (own_aT (own_K b0 b1 b2) (fun _ => -1) (fun _ => 0) kf (own_bi bw)) (fun _ _ => -1) kf (own_kt kf bb)))]) (mkF m 343 #[iv xk, iv xa, iv xb, iv xc, rv a2, iv fr, iv to, iv oo, iv (own_bi bv), iv (own_bi bw), iv ss, rv a16, iv (own_K b0 b1 b2 kf), iv (own_K b0 b1 b2 (own_kt kf bb)), iv (own_K b0 b1 b2 (own_ko kf bb)), iv ei, own_lv pre2, .second, iv pft2, iv pfo2, iv bls2, iv sos2, iv (own_pr (own_K b0 b1 b2) (own_aT (own_K b0 b1 b2) (fun _ => -1) (fun _ => 0) kf (own_bi bw)) (fun _ _ => -1) kf (own_kt kf bb)), own_lv ecs2, .second, .unset] [(.int efts2)]) := by
      intro t kt
      refine XS.istore X129.here hx rfl (hb hby at_343) rfl (l' := #[iv xk, iv xa, iv xb, iv xc, rv a2, iv fr, iv to, iv oo, iv (own_bi bv), iv (own_bi bw), iv ss, rv a16, iv (own_K b0 b1 b2 kf), iv (own_K b0 b1 b2 (own_kt kf bb)), iv (own_K b0 b1 b2 (own_ko kf bb)), iv ei, own_lv pre2, .second, iv pft2, iv pfo2, iv bls2, iv sos2, iv (own_pr (own_K b0 b1 b2) (own_aT (own_K b0 b1 b2) (fun _ => -1) (fun _ => 0) kf (own_bi bw)) (fun _ _ => -1) kf (own_kt kf bb)), own_lv ecs2, .second, iv efts2]) rfl ?_
      show own_S p e below T129 m 345 #[iv xk, iv xa, iv xb, iv xc, rv a2, iv fr, iv to, iv oo, iv (own_bi bv), iv (own_bi bw), iv ss, rv a16, iv (own_K b0 b1 b2 kf), iv (own_K b0 b1 b2 (own_kt kf bb)), iv (own_K b0 b1 b2 (own_ko kf bb)), iv ei, own_lv pre2, .second, iv pft2, iv pfo2, iv bls2, iv sos2, iv (own_pr (own_K b0 b1 b2) (own_aT (own_K b0 b1 b2) (fun _ => -1) (fun _ => 0) kf (own_bi bw)) (fun _ _ => -1) kf (own_kt kf bb)), own_lv ecs2, .second, iv efts2] [] _
      refine XS.iload X129.here hx rfl (hb hby at_345) rfl ?_
      show own_S p e below T129 m 347 #[iv xk, iv xa, iv xb, iv xc, rv a2, iv fr, iv to, iv oo, iv (own_bi bv), iv (own_bi bw), iv ss, rv a16, iv (own_K b0 b1 b2 kf), iv (own_K b0 b1 b2 (own_kt kf bb)), iv (own_K b0 b1 b2 (own_ko kf bb)), iv ei, own_lv pre2, .second, iv pft2, iv pfo2, iv bls2, iv sos2, iv (own_pr (own_K b0 b1 b2) (own_aT (own_K b0 b1 b2) (fun _ => -1) (fun _ => 0) kf (own_bi bw)) (fun _ _ => -1) kf (own_kt kf bb)), own_lv ecs2, .second, iv efts2] [(.int (own_pr (own_K b0 b1 b2) (own_aT (own_K b0 b1 b2) (fun _ => -1) (fun _ => 0) kf (own_bi bw)) (fun _ _ => -1) kf (own_kt kf bb)))] _
      refine XS.iload X129.here hx rfl (hb hby at_347) rfl ?_
      show own_S p e below T129 m 349 #[iv xk, iv xa, iv xb, iv xc, rv a2, iv fr, iv to, iv oo, iv (own_bi bv), iv (own_bi bw), iv ss, rv a16, iv (own_K b0 b1 b2 kf), iv (own_K b0 b1 b2 (own_kt kf bb)), iv (own_K b0 b1 b2 (own_ko kf bb)), iv ei, own_lv pre2, .second, iv pft2, iv pfo2, iv bls2, iv sos2, iv (own_pr (own_K b0 b1 b2) (own_aT (own_K b0 b1 b2) (fun _ => -1) (fun _ => 0) kf (own_bi bw)) (fun _ _ => -1) kf (own_kt kf bb)), own_lv ecs2, .second, iv efts2] [(.int bls2), (.int (own_pr (own_K b0 b1 b2) (own_aT (own_K b0 b1 b2) (fun _ => -1) (fun _ => 0) kf (own_bi bw)) (fun _ _ => -1) kf (own_kt kf bb)))] _
      by_cases hc134 : bls2 = (0 : Int32)
      · refine XS.ifNo X129.here hx rfl (hb hby at_349) rfl ((if0 _ _).trans (teq hc134).2) ?_
        show own_S p e below T129 m 352 #[iv xk, iv xa, iv xb, iv xc, rv a2, iv fr, iv to, iv oo, iv (own_bi bv), iv (own_bi bw), iv ss, rv a16, iv (own_K b0 b1 b2 kf), iv (own_K b0 b1 b2 (own_kt kf bb)), iv (own_K b0 b1 b2 (own_ko kf bb)), iv ei, own_lv pre2, .second, iv pft2, iv pfo2, iv bls2, iv sos2, iv (own_pr (own_K b0 b1 b2) (own_aT (own_K b0 b1 b2) (fun _ => -1) (fun _ => 0) kf (own_bi bw)) (fun _ _ => -1) kf (own_kt kf bb)), own_lv ecs2, .second, iv efts2] [(.int (own_pr (own_K b0 b1 b2) (own_aT (own_K b0 b1 b2) (fun _ => -1) (fun _ => 0) kf (own_bi bw)) (fun _ _ => -1) kf (own_kt kf bb)))] _
        refine XS.iconst X129.here hx rfl (hb hby at_352) ?_
        show own_S p e below T129 m 353 #[iv xk, iv xa, iv xb, iv xc, rv a2, iv fr, iv to, iv oo, iv (own_bi bv), iv (own_bi bw), iv ss, rv a16, iv (own_K b0 b1 b2 kf), iv (own_K b0 b1 b2 (own_kt kf bb)), iv (own_K b0 b1 b2 (own_ko kf bb)), iv ei, own_lv pre2, .second, iv pft2, iv pfo2, iv bls2, iv sos2, iv (own_pr (own_K b0 b1 b2) (own_aT (own_K b0 b1 b2) (fun _ => -1) (fun _ => 0) kf (own_bi bw)) (fun _ _ => -1) kf (own_kt kf bb)), own_lv ecs2, .second, iv efts2] [(.int (1 : Int32)), (.int (own_pr (own_K b0 b1 b2) (own_aT (own_K b0 b1 b2) (fun _ => -1) (fun _ => 0) kf (own_bi bw)) (fun _ _ => -1) kf (own_kt kf bb)))] _
        refine XS.goto X129.here hx rfl (pc0 := 353) (pc' := 357) rfl (hb hby at_353) (by decide) (by decide) ?_
        show own_S p e below T129 m 357 #[iv xk, iv xa, iv xb, iv xc, rv a2, iv fr, iv to, iv oo, iv (own_bi bv), iv (own_bi bw), iv ss, rv a16, iv (own_K b0 b1 b2 kf), iv (own_K b0 b1 b2 (own_kt kf bb)), iv (own_K b0 b1 b2 (own_ko kf bb)), iv ei, own_lv pre2, .second, iv pft2, iv pfo2, iv bls2, iv sos2, iv (own_pr (own_K b0 b1 b2) (own_aT (own_K b0 b1 b2) (fun _ => -1) (fun _ => 0) kf (own_bi bw)) (fun _ _ => -1) kf (own_kt kf bb)), own_lv ecs2, .second, iv efts2] [(.int (1 : Int32)), (.int (own_pr (own_K b0 b1 b2) (own_aT (own_K b0 b1 b2) (fun _ => -1) (fun _ => 0) kf (own_bi bw)) (fun _ _ => -1) kf (own_kt kf bb)))] _
        rw [show nbs2 = (1 : Int32) from by rw [hnbs2, if_pos hc134]] at kt
        exact kt
      · refine XS.ifYes X129.here hx rfl (pc0 := 349) (pc' := 356) rfl (hb hby at_349) rfl ((if0 _ _).trans (feq hc134).2) (by decide) (by decide) ?_
        show own_S p e below T129 m 356 #[iv xk, iv xa, iv xb, iv xc, rv a2, iv fr, iv to, iv oo, iv (own_bi bv), iv (own_bi bw), iv ss, rv a16, iv (own_K b0 b1 b2 kf), iv (own_K b0 b1 b2 (own_kt kf bb)), iv (own_K b0 b1 b2 (own_ko kf bb)), iv ei, own_lv pre2, .second, iv pft2, iv pfo2, iv bls2, iv sos2, iv (own_pr (own_K b0 b1 b2) (own_aT (own_K b0 b1 b2) (fun _ => -1) (fun _ => 0) kf (own_bi bw)) (fun _ _ => -1) kf (own_kt kf bb)), own_lv ecs2, .second, iv efts2] [(.int (own_pr (own_K b0 b1 b2) (own_aT (own_K b0 b1 b2) (fun _ => -1) (fun _ => 0) kf (own_bi bw)) (fun _ _ => -1) kf (own_kt kf bb)))] _
        refine XS.iconst X129.here hx rfl (hb hby at_356) ?_
        show own_S p e below T129 m 357 #[iv xk, iv xa, iv xb, iv xc, rv a2, iv fr, iv to, iv oo, iv (own_bi bv), iv (own_bi bw), iv ss, rv a16, iv (own_K b0 b1 b2 kf), iv (own_K b0 b1 b2 (own_kt kf bb)), iv (own_K b0 b1 b2 (own_ko kf bb)), iv ei, own_lv pre2, .second, iv pft2, iv pfo2, iv bls2, iv sos2, iv (own_pr (own_K b0 b1 b2) (own_aT (own_K b0 b1 b2) (fun _ => -1) (fun _ => 0) kf (own_bi bw)) (fun _ _ => -1) kf (own_kt kf bb)), own_lv ecs2, .second, iv efts2] [(.int (0 : Int32)), (.int (own_pr (own_K b0 b1 b2) (own_aT (own_K b0 b1 b2) (fun _ => -1) (fun _ => 0) kf (own_bi bw)) (fun _ _ => -1) kf (own_kt kf bb)))] _
        rw [show nbs2 = (0 : Int32) from by rw [hnbs2, if_neg hc134]] at kt
        exact kt
    refine own_st sg135 ?_
    have FINs2 := own_fins2 b0 b1 b2 ⟨kf, hf3⟩ bb bv bw
    have hd_ei : ei = own_f_ei b0 b1 b2 kf bb bv bw := by subst hei; rfl
    have hd_pre2 : pre2 = own_f_pre2 b0 b1 b2 kf bb bv bw := by subst hpre2 hei; rfl
    have hd_pft2 : pft2 = own_f_pft2 b0 b1 b2 kf bb bv bw := by subst hpft2 hpre2 hei; rfl
    have hd_pfo2 : pfo2 = own_f_pfo2 b0 b1 b2 kf bb bv bw := by subst hpfo2 hpft2 hpre2 hei; rfl
    have hd_bls2 : bls2 = own_f_bls2 b0 b1 b2 kf bb bv bw := by subst hbls2 hpfo2 hpft2 hpre2 hei; rfl
    have hd_sos2 : sos2 = own_f_sos2 b0 b1 b2 kf bb bv bw := by subst hsos2 hbls2 hpfo2 hpft2 hpre2 hei; rfl
    have hd_pls2 : pls2 = own_f_pls2 b0 b1 b2 kf bb bv bw := by subst hpls2 hsos2 hbls2 hpfo2 hpft2 hpre2 hei; rfl
    have hd_ecs2 : ecs2 = own_f_ecs2 b0 b1 b2 kf bb bv bw := by subst hecs2 hpls2 hsos2 hbls2 hpfo2 hpft2 hpre2 hei; rfl
    have hd_efts2 : efts2 = own_f_efts2 b0 b1 b2 kf bb bv bw := by subst hefts2 hecs2 hpls2 hsos2 hbls2 hpfo2 hpft2 hpre2 hei; rfl
    have hd_nbs2 : nbs2 = own_f_nbs2 b0 b1 b2 kf bb bv bw := by subst hnbs2 hefts2 hecs2 hpls2 hsos2 hbls2 hpfo2 hpft2 hpre2 hei; rfl
    have hc136 : (own_pr (own_K b0 b1 b2) (own_aT (own_K b0 b1 b2) (fun _ => -1) (fun _ => 0) kf (own_bi bw)) (fun _ _ => -1) kf (own_kt kf bb)) = nbs2 := by rw [hd_nbs2]; exact FINs2.1
    have sg137 : own_V p e below T129 (mkF m 360 #[iv xk, iv xa, iv xb, iv xc, rv a2, iv fr, iv to, iv oo, iv (own_bi bv), iv (own_bi bw), iv ss, rv a16, iv (own_K b0 b1 b2 kf), iv (own_K b0 b1 b2 (own_kt kf bb)), iv (own_K b0 b1 b2 (own_ko kf bb)), iv ei, own_lv pre2, .second, iv pft2, iv pfo2, iv bls2, iv sos2, iv (own_pr (own_K b0 b1 b2) (own_aT (own_K b0 b1 b2) (fun _ => -1) (fun _ => 0) kf (own_bi bw)) (fun _ _ => -1) kf (own_kt kf bb)), own_lv ecs2, .second, iv efts2] []) (mkF m 357 #[iv xk, iv xa, iv xb, iv xc, rv a2, iv fr, iv to, iv oo, iv (own_bi bv), iv (own_bi bw), iv ss, rv a16, iv (own_K b0 b1 b2 kf), iv (own_K b0 b1 b2 (own_kt kf bb)), iv (own_K b0 b1 b2 (own_ko kf bb)), iv ei, own_lv pre2, .second, iv pft2, iv pfo2, iv bls2, iv sos2, iv (own_pr (own_K b0 b1 b2) (own_aT (own_K b0 b1 b2) (fun _ => -1) (fun _ => 0) kf (own_bi bw)) (fun _ _ => -1) kf (own_kt kf bb)), own_lv ecs2, .second, iv efts2] [(.int nbs2), (.int (own_pr (own_K b0 b1 b2) (own_aT (own_K b0 b1 b2) (fun _ => -1) (fun _ => 0) kf (own_bi bw)) (fun _ _ => -1) kf (own_kt kf bb)))]) := by
      intro t kt
      refine XS.icmpNo X129.here hx rfl (hb hby at_357) rfl (teq hc136).2 ?_
      exact kt
    refine own_st sg137 ?_
    obtain ⟨v138, hv138⟩ : ∃ z : Int32, z = (own_pr (own_K b0 b1 b2) (own_aT (own_K b0 b1 b2) (fun _ => -1) (fun _ => 0) kf (own_bi bw)) (fun _ _ => -1) kf (own_kt kf bb)) := ⟨_, rfl⟩
    have sg139 : own_V p e below T129 (mkF m 362 #[iv xk, iv xa, iv xb, iv xc, rv a2, iv fr, iv to, iv oo, iv (own_bi bv), iv (own_bi bw), iv ss, rv a16, iv (own_K b0 b1 b2 kf), iv (own_K b0 b1 b2 (own_kt kf bb)), iv (own_K b0 b1 b2 (own_ko kf bb)), iv ei, own_lv pre2, .second, iv pft2, iv pfo2, iv bls2, iv sos2, iv v138, own_lv ecs2, .second, iv efts2] [(.ref a16)]) (mkF m 360 #[iv xk, iv xa, iv xb, iv xc, rv a2, iv fr, iv to, iv oo, iv (own_bi bv), iv (own_bi bw), iv ss, rv a16, iv (own_K b0 b1 b2 kf), iv (own_K b0 b1 b2 (own_kt kf bb)), iv (own_K b0 b1 b2 (own_ko kf bb)), iv ei, own_lv pre2, .second, iv pft2, iv pfo2, iv bls2, iv sos2, iv (own_pr (own_K b0 b1 b2) (own_aT (own_K b0 b1 b2) (fun _ => -1) (fun _ => 0) kf (own_bi bw)) (fun _ _ => -1) kf (own_kt kf bb)), own_lv ecs2, .second, iv efts2] []) := by
      intro t kt
      refine XS.aload X129.here hx rfl (hb hby at_360) rfl rfl ?_
      show own_S p e below T129 m 362 #[iv xk, iv xa, iv xb, iv xc, rv a2, iv fr, iv to, iv oo, iv (own_bi bv), iv (own_bi bw), iv ss, rv a16, iv (own_K b0 b1 b2 kf), iv (own_K b0 b1 b2 (own_kt kf bb)), iv (own_K b0 b1 b2 (own_ko kf bb)), iv ei, own_lv pre2, .second, iv pft2, iv pfo2, iv bls2, iv sos2, iv (own_pr (own_K b0 b1 b2) (own_aT (own_K b0 b1 b2) (fun _ => -1) (fun _ => 0) kf (own_bi bw)) (fun _ _ => -1) kf (own_kt kf bb)), own_lv ecs2, .second, iv efts2] [(.ref a16)] _
      rw [hv138] at kt
      exact kt
    refine own_st sg139 ?_
    obtain ⟨_, T140, L140, X140, hQ140, st140⟩ := own_callV (y := (⟨"com/example/kingsround/kingsround/engine/Deliveries", "count", "()J"⟩ : MethodName)) (y0 := (⟨"com/example/kingsround/kingsround/engine/Deliveries", "count", "()J"⟩ : MethodName)) (a := a16) (C := "com/example/kingsround/kingsround/engine/Deliveries") X129 hx hZ hown HD129.1 (hw _ (List.mem_of_getElem? (i := 82) rfl)) (hw _ (List.mem_of_getElem? (i := 83) rfl)) (hw _ (List.mem_of_getElem? (i := 85) rfl)) (notFace_of_selects (args := #[]) (mvT hZ (hw _ (List.mem_of_getElem? (i := 85) rfl)))) (hw _ (List.mem_of_getElem? (i := 84) rfl)) (hw _ (List.mem_of_getElem? (i := 4) rfl)) (hw _ (List.mem_of_getElem? (i := 86) rfl)) (by decide) (own_rmcnt l Z a0 hw a16  ib kp ta ob q r (own_K b0 b1 b2) (own_aT (own_K b0 b1 b2) (fun _ => -1) (fun _ => 0) kf (own_bi bw)) (own_pO (own_K b0 b1 b2) (own_aT (own_K b0 b1 b2) (fun _ => -1) (fun _ => 0) kf (own_bi bw)) (fun _ => 0) (fun _ _ => -1) kf (own_kt kf bb)) (own_pR (own_K b0 b1 b2) (own_aT (own_K b0 b1 b2) (fun _ => -1) (fun _ => 0) kf (own_bi bw)) (fun _ _ => -1) kf (own_kt kf bb) (own_bi bv)) (own_pc (own_K b0 b1 b2) (own_aT (own_K b0 b1 b2) (fun _ => -1) (fun _ => 0) kf (own_bi bw)) (fun _ _ => -1) kf (own_kt kf bb) (own_ac (own_K b0 b1 b2) (fun _ => -1) (fun _ => 0) kf 0))  T129.heap n0 Z129 HA HD129 ) rfl (g := (mkF m 362 #[iv xk, iv xa, iv xb, iv xc, rv a2, iv fr, iv to, iv oo, iv (own_bi bv), iv (own_bi bw), iv ss, rv a16, iv (own_K b0 b1 b2 kf), iv (own_K b0 b1 b2 (own_kt kf bb)), iv (own_K b0 b1 b2 (own_ko kf bb)), iv ei, own_lv pre2, .second, iv pft2, iv pfo2, iv bls2, iv sos2, iv v138, own_lv ecs2, .second, iv efts2] [(.ref a16)])) rfl (by rw [hml]; rfl) (argsL := []) (rest := []) (lenOf own_pd8 rfl) rfl (W := 0) (by show 2 * 0 + _ ≤ _; exact Nat.le_of_eq rfl) (hb hby at_362) (by decide) (by decide) (by decide) (by decide)
    obtain ⟨rfl, Nq140, e140⟩ := hQ140
    refine own_st st140 ?_
    have N140 := Fr.app N129 Nq140
    show own_Go p e below _ T140 (mkF m 365 #[iv xk, iv xa, iv xb, iv xc, rv a2, iv fr, iv to, iv oo, iv (own_bi bv), iv (own_bi bw), iv ss, rv a16, iv (own_K b0 b1 b2 kf), iv (own_K b0 b1 b2 (own_kt kf bb)), iv (own_K b0 b1 b2 (own_ko kf bb)), iv ei, own_lv pre2, .second, iv pft2, iv pfo2, iv bls2, iv sos2, iv v138, own_lv ecs2, .second, iv efts2] [(.long (own_pc (own_K b0 b1 b2) (own_aT (own_K b0 b1 b2) (fun _ => -1) (fun _ => 0) kf (own_bi bw)) (fun _ _ => -1) kf (own_kt kf bb) (own_ac (own_K b0 b1 b2) (fun _ => -1) (fun _ => 0) kf 0)))])
    have sg141 : own_V p e below T140 (mkF m 368 #[iv xk, iv xa, iv xb, iv xc, rv a2, iv fr, iv to, iv oo, iv (own_bi bv), iv (own_bi bw), iv ss, rv a16, iv (own_K b0 b1 b2 kf), iv (own_K b0 b1 b2 (own_kt kf bb)), iv (own_K b0 b1 b2 (own_ko kf bb)), iv ei, own_lv pre2, .second, iv pft2, iv pfo2, iv bls2, iv sos2, iv v138, own_lv ecs2, .second, iv efts2] [(.int (lcmpW (own_pc (own_K b0 b1 b2) (own_aT (own_K b0 b1 b2) (fun _ => -1) (fun _ => 0) kf (own_bi bw)) (fun _ _ => -1) kf (own_kt kf bb) (own_ac (own_K b0 b1 b2) (fun _ => -1) (fun _ => 0) kf 0)) ecs2))]) (mkF m 365 #[iv xk, iv xa, iv xb, iv xc, rv a2, iv fr, iv to, iv oo, iv (own_bi bv), iv (own_bi bw), iv ss, rv a16, iv (own_K b0 b1 b2 kf), iv (own_K b0 b1 b2 (own_kt kf bb)), iv (own_K b0 b1 b2 (own_ko kf bb)), iv ei, own_lv pre2, .second, iv pft2, iv pfo2, iv bls2, iv sos2, iv v138, own_lv ecs2, .second, iv efts2] [(.long (own_pc (own_K b0 b1 b2) (own_aT (own_K b0 b1 b2) (fun _ => -1) (fun _ => 0) kf (own_bi bw)) (fun _ _ => -1) kf (own_kt kf bb) (own_ac (own_K b0 b1 b2) (fun _ => -1) (fun _ => 0) kf 0)))]) := by
      intro t kt
      refine XS.lload X140.here hx rfl (hb hby at_365) rfl ?_
      show own_S p e below T140 m 367 #[iv xk, iv xa, iv xb, iv xc, rv a2, iv fr, iv to, iv oo, iv (own_bi bv), iv (own_bi bw), iv ss, rv a16, iv (own_K b0 b1 b2 kf), iv (own_K b0 b1 b2 (own_kt kf bb)), iv (own_K b0 b1 b2 (own_ko kf bb)), iv ei, own_lv pre2, .second, iv pft2, iv pfo2, iv bls2, iv sos2, iv v138, own_lv ecs2, .second, iv efts2] [(.long ecs2), (.long (own_pc (own_K b0 b1 b2) (own_aT (own_K b0 b1 b2) (fun _ => -1) (fun _ => 0) kf (own_bi bw)) (fun _ _ => -1) kf (own_kt kf bb) (own_ac (own_K b0 b1 b2) (fun _ => -1) (fun _ => 0) kf 0)))] _
      refine XS.lcmp X140.here hx rfl (hb hby at_367) rfl ?_
      show own_S p e below T140 m 368 #[iv xk, iv xa, iv xb, iv xc, rv a2, iv fr, iv to, iv oo, iv (own_bi bv), iv (own_bi bw), iv ss, rv a16, iv (own_K b0 b1 b2 kf), iv (own_K b0 b1 b2 (own_kt kf bb)), iv (own_K b0 b1 b2 (own_ko kf bb)), iv ei, own_lv pre2, .second, iv pft2, iv pfo2, iv bls2, iv sos2, iv v138, own_lv ecs2, .second, iv efts2] [(.int (lcmpW (own_pc (own_K b0 b1 b2) (own_aT (own_K b0 b1 b2) (fun _ => -1) (fun _ => 0) kf (own_bi bw)) (fun _ _ => -1) kf (own_kt kf bb) (own_ac (own_K b0 b1 b2) (fun _ => -1) (fun _ => 0) kf 0)) ecs2))] _
      exact kt
    refine own_st sg141 ?_
    have hc142 : (own_pc (own_K b0 b1 b2) (own_aT (own_K b0 b1 b2) (fun _ => -1) (fun _ => 0) kf (own_bi bw)) (fun _ _ => -1) kf (own_kt kf bb) (own_ac (own_K b0 b1 b2) (fun _ => -1) (fun _ => 0) kf 0)) = ecs2 := by rw [hd_ecs2]; exact FINs2.2.1
    have sg143 : own_V p e below T140 (mkF m 371 #[iv xk, iv xa, iv xb, iv xc, rv a2, iv fr, iv to, iv oo, iv (own_bi bv), iv (own_bi bw), iv ss, rv a16, iv (own_K b0 b1 b2 kf), iv (own_K b0 b1 b2 (own_kt kf bb)), iv (own_K b0 b1 b2 (own_ko kf bb)), iv ei, own_lv pre2, .second, iv pft2, iv pfo2, iv bls2, iv sos2, iv v138, own_lv ecs2, .second, iv efts2] []) (mkF m 368 #[iv xk, iv xa, iv xb, iv xc, rv a2, iv fr, iv to, iv oo, iv (own_bi bv), iv (own_bi bw), iv ss, rv a16, iv (own_K b0 b1 b2 kf), iv (own_K b0 b1 b2 (own_kt kf bb)), iv (own_K b0 b1 b2 (own_ko kf bb)), iv ei, own_lv pre2, .second, iv pft2, iv pfo2, iv bls2, iv sos2, iv v138, own_lv ecs2, .second, iv efts2] [(.int (lcmpW (own_pc (own_K b0 b1 b2) (own_aT (own_K b0 b1 b2) (fun _ => -1) (fun _ => 0) kf (own_bi bw)) (fun _ _ => -1) kf (own_kt kf bb) (own_ac (own_K b0 b1 b2) (fun _ => -1) (fun _ => 0) kf 0)) ecs2))]) := by
      intro t kt
      refine XS.ifNo X140.here hx rfl (hb hby at_368) rfl (own_teqL hc142).2 ?_
      exact kt
    refine own_st sg143 ?_
    have sg144 : own_V p e below T140 (mkF m 377 #[iv xk, iv xa, iv xb, iv xc, rv a2, iv fr, iv to, iv oo, iv (own_bi bv), iv (own_bi bw), iv ss, rv a16, iv (own_K b0 b1 b2 kf), iv (own_K b0 b1 b2 (own_kt kf bb)), iv (own_K b0 b1 b2 (own_ko kf bb)), iv ei, own_lv pre2, .second, iv pft2, iv pfo2, iv bls2, iv sos2, iv v138, own_lv ecs2, .second, iv efts2] [(.int to), (.int fr), (.ref a16)]) (mkF m 371 #[iv xk, iv xa, iv xb, iv xc, rv a2, iv fr, iv to, iv oo, iv (own_bi bv), iv (own_bi bw), iv ss, rv a16, iv (own_K b0 b1 b2 kf), iv (own_K b0 b1 b2 (own_kt kf bb)), iv (own_K b0 b1 b2 (own_ko kf bb)), iv ei, own_lv pre2, .second, iv pft2, iv pfo2, iv bls2, iv sos2, iv v138, own_lv ecs2, .second, iv efts2] []) := by
      intro t kt
      refine XS.aload X140.here hx rfl (hb hby at_371) rfl rfl ?_
      show own_S p e below T140 m 373 #[iv xk, iv xa, iv xb, iv xc, rv a2, iv fr, iv to, iv oo, iv (own_bi bv), iv (own_bi bw), iv ss, rv a16, iv (own_K b0 b1 b2 kf), iv (own_K b0 b1 b2 (own_kt kf bb)), iv (own_K b0 b1 b2 (own_ko kf bb)), iv ei, own_lv pre2, .second, iv pft2, iv pfo2, iv bls2, iv sos2, iv v138, own_lv ecs2, .second, iv efts2] [(.ref a16)] _
      refine XS.iload X140.here hx rfl (hb hby at_373) rfl ?_
      show own_S p e below T140 m 375 #[iv xk, iv xa, iv xb, iv xc, rv a2, iv fr, iv to, iv oo, iv (own_bi bv), iv (own_bi bw), iv ss, rv a16, iv (own_K b0 b1 b2 kf), iv (own_K b0 b1 b2 (own_kt kf bb)), iv (own_K b0 b1 b2 (own_ko kf bb)), iv ei, own_lv pre2, .second, iv pft2, iv pfo2, iv bls2, iv sos2, iv v138, own_lv ecs2, .second, iv efts2] [(.int fr), (.ref a16)] _
      refine XS.iload X140.here hx rfl (hb hby at_375) rfl ?_
      show own_S p e below T140 m 377 #[iv xk, iv xa, iv xb, iv xc, rv a2, iv fr, iv to, iv oo, iv (own_bi bv), iv (own_bi bw), iv ss, rv a16, iv (own_K b0 b1 b2 kf), iv (own_K b0 b1 b2 (own_kt kf bb)), iv (own_K b0 b1 b2 (own_ko kf bb)), iv ei, own_lv pre2, .second, iv pft2, iv pfo2, iv bls2, iv sos2, iv v138, own_lv ecs2, .second, iv efts2] [(.int to), (.int fr), (.ref a16)] _
      exact kt
    refine own_st sg144 ?_
    obtain ⟨_, T145, L145, X145, hQ145, st145⟩ := own_callV (y := (⟨"com/example/kingsround/kingsround/engine/Deliveries", "value", "(II)I"⟩ : MethodName)) (y0 := (⟨"com/example/kingsround/kingsround/engine/Deliveries", "value", "(II)I"⟩ : MethodName)) (a := a16) (C := "com/example/kingsround/kingsround/engine/Deliveries") X140 hx hZ hown HD129.1 (hw _ (List.mem_of_getElem? (i := 89) rfl)) (hw _ (List.mem_of_getElem? (i := 90) rfl)) (hw _ (List.mem_of_getElem? (i := 92) rfl)) (notFace_of_selects (args := #[]) (mvT hZ (hw _ (List.mem_of_getElem? (i := 92) rfl)))) (hw _ (List.mem_of_getElem? (i := 91) rfl)) (hw _ (List.mem_of_getElem? (i := 4) rfl)) (hw _ (List.mem_of_getElem? (i := 93) rfl)) (by decide) (own_rmval l Z a0 hw a16 fr to ib kp ta ob q r (own_K b0 b1 b2) (own_aT (own_K b0 b1 b2) (fun _ => -1) (fun _ => 0) kf (own_bi bw)) (own_pO (own_K b0 b1 b2) (own_aT (own_K b0 b1 b2) (fun _ => -1) (fun _ => 0) kf (own_bi bw)) (fun _ => 0) (fun _ _ => -1) kf (own_kt kf bb)) (own_pR (own_K b0 b1 b2) (own_aT (own_K b0 b1 b2) (fun _ => -1) (fun _ => 0) kf (own_bi bw)) (fun _ _ => -1) kf (own_kt kf bb) (own_bi bv)) (own_pc (own_K b0 b1 b2) (own_aT (own_K b0 b1 b2) (fun _ => -1) (fun _ => 0) kf (own_bi bw)) (fun _ _ => -1) kf (own_kt kf bb) (own_ac (own_K b0 b1 b2) (fun _ => -1) (fun _ => 0) kf 0)) kf (own_kt kf bb) T129.heap n0 Z129 HA HD129 hkf hkt hf3 ht3) e140 (g := (mkF m 377 #[iv xk, iv xa, iv xb, iv xc, rv a2, iv fr, iv to, iv oo, iv (own_bi bv), iv (own_bi bw), iv ss, rv a16, iv (own_K b0 b1 b2 kf), iv (own_K b0 b1 b2 (own_kt kf bb)), iv (own_K b0 b1 b2 (own_ko kf bb)), iv ei, own_lv pre2, .second, iv pft2, iv pfo2, iv bls2, iv sos2, iv v138, own_lv ecs2, .second, iv efts2] [(.int to), (.int fr), (.ref a16)])) rfl (by rw [hml]; rfl) (argsL := [(.int fr), (.int to)]) (rest := []) (lenOf own_pd9 rfl) rfl (W := 0) (by show 2 * 0 + _ ≤ _; exact Nat.le_of_eq rfl) (hb hby at_377) (by decide) (by decide) (by decide) (by decide)
    obtain ⟨rfl, Nq145, e145⟩ := hQ145
    refine own_st st145 ?_
    have N145 := Fr.app N140 Nq145
    show own_Go p e below _ T145 (mkF m 380 #[iv xk, iv xa, iv xb, iv xc, rv a2, iv fr, iv to, iv oo, iv (own_bi bv), iv (own_bi bw), iv ss, rv a16, iv (own_K b0 b1 b2 kf), iv (own_K b0 b1 b2 (own_kt kf bb)), iv (own_K b0 b1 b2 (own_ko kf bb)), iv ei, own_lv pre2, .second, iv pft2, iv pfo2, iv bls2, iv sos2, iv v138, own_lv ecs2, .second, iv efts2] [(.int (own_val (own_aT (own_K b0 b1 b2) (fun _ => -1) (fun _ => 0) kf (own_bi bw)) (own_pR (own_K b0 b1 b2) (own_aT (own_K b0 b1 b2) (fun _ => -1) (fun _ => 0) kf (own_bi bw)) (fun _ _ => -1) kf (own_kt kf bb) (own_bi bv)) kf (own_kt kf bb)))])
    have sg146 : own_V p e below T145 (mkF m 382 #[iv xk, iv xa, iv xb, iv xc, rv a2, iv fr, iv to, iv oo, iv (own_bi bv), iv (own_bi bw), iv ss, rv a16, iv (own_K b0 b1 b2 kf), iv (own_K b0 b1 b2 (own_kt kf bb)), iv (own_K b0 b1 b2 (own_ko kf bb)), iv ei, own_lv pre2, .second, iv pft2, iv pfo2, iv bls2, iv sos2, iv v138, own_lv ecs2, .second, iv efts2] [(.int efts2), (.int (own_val (own_aT (own_K b0 b1 b2) (fun _ => -1) (fun _ => 0) kf (own_bi bw)) (own_pR (own_K b0 b1 b2) (own_aT (own_K b0 b1 b2) (fun _ => -1) (fun _ => 0) kf (own_bi bw)) (fun _ _ => -1) kf (own_kt kf bb) (own_bi bv)) kf (own_kt kf bb)))]) (mkF m 380 #[iv xk, iv xa, iv xb, iv xc, rv a2, iv fr, iv to, iv oo, iv (own_bi bv), iv (own_bi bw), iv ss, rv a16, iv (own_K b0 b1 b2 kf), iv (own_K b0 b1 b2 (own_kt kf bb)), iv (own_K b0 b1 b2 (own_ko kf bb)), iv ei, own_lv pre2, .second, iv pft2, iv pfo2, iv bls2, iv sos2, iv v138, own_lv ecs2, .second, iv efts2] [(.int (own_val (own_aT (own_K b0 b1 b2) (fun _ => -1) (fun _ => 0) kf (own_bi bw)) (own_pR (own_K b0 b1 b2) (own_aT (own_K b0 b1 b2) (fun _ => -1) (fun _ => 0) kf (own_bi bw)) (fun _ _ => -1) kf (own_kt kf bb) (own_bi bv)) kf (own_kt kf bb)))]) := by
      intro t kt
      refine XS.iload X145.here hx rfl (hb hby at_380) rfl ?_
      show own_S p e below T145 m 382 #[iv xk, iv xa, iv xb, iv xc, rv a2, iv fr, iv to, iv oo, iv (own_bi bv), iv (own_bi bw), iv ss, rv a16, iv (own_K b0 b1 b2 kf), iv (own_K b0 b1 b2 (own_kt kf bb)), iv (own_K b0 b1 b2 (own_ko kf bb)), iv ei, own_lv pre2, .second, iv pft2, iv pfo2, iv bls2, iv sos2, iv v138, own_lv ecs2, .second, iv efts2] [(.int efts2), (.int (own_val (own_aT (own_K b0 b1 b2) (fun _ => -1) (fun _ => 0) kf (own_bi bw)) (own_pR (own_K b0 b1 b2) (own_aT (own_K b0 b1 b2) (fun _ => -1) (fun _ => 0) kf (own_bi bw)) (fun _ _ => -1) kf (own_kt kf bb) (own_bi bv)) kf (own_kt kf bb)))] _
      exact kt
    refine own_st sg146 ?_
    have hc147 : (own_val (own_aT (own_K b0 b1 b2) (fun _ => -1) (fun _ => 0) kf (own_bi bw)) (own_pR (own_K b0 b1 b2) (own_aT (own_K b0 b1 b2) (fun _ => -1) (fun _ => 0) kf (own_bi bw)) (fun _ _ => -1) kf (own_kt kf bb) (own_bi bv)) kf (own_kt kf bb)) = efts2 := by rw [hd_efts2]; exact FINs2.2.2.1
    have sg148 : own_V p e below T145 (mkF m 385 #[iv xk, iv xa, iv xb, iv xc, rv a2, iv fr, iv to, iv oo, iv (own_bi bv), iv (own_bi bw), iv ss, rv a16, iv (own_K b0 b1 b2 kf), iv (own_K b0 b1 b2 (own_kt kf bb)), iv (own_K b0 b1 b2 (own_ko kf bb)), iv ei, own_lv pre2, .second, iv pft2, iv pfo2, iv bls2, iv sos2, iv v138, own_lv ecs2, .second, iv efts2] []) (mkF m 382 #[iv xk, iv xa, iv xb, iv xc, rv a2, iv fr, iv to, iv oo, iv (own_bi bv), iv (own_bi bw), iv ss, rv a16, iv (own_K b0 b1 b2 kf), iv (own_K b0 b1 b2 (own_kt kf bb)), iv (own_K b0 b1 b2 (own_ko kf bb)), iv ei, own_lv pre2, .second, iv pft2, iv pfo2, iv bls2, iv sos2, iv v138, own_lv ecs2, .second, iv efts2] [(.int efts2), (.int (own_val (own_aT (own_K b0 b1 b2) (fun _ => -1) (fun _ => 0) kf (own_bi bw)) (own_pR (own_K b0 b1 b2) (own_aT (own_K b0 b1 b2) (fun _ => -1) (fun _ => 0) kf (own_bi bw)) (fun _ _ => -1) kf (own_kt kf bb) (own_bi bv)) kf (own_kt kf bb)))]) := by
      intro t kt
      refine XS.icmpNo X145.here hx rfl (hb hby at_382) rfl (teq hc147).2 ?_
      exact kt
    refine own_st sg148 ?_
    have sg149 : own_V p e below T145 (mkF m 391 #[iv xk, iv xa, iv xb, iv xc, rv a2, iv fr, iv to, iv oo, iv (own_bi bv), iv (own_bi bw), iv ss, rv a16, iv (own_K b0 b1 b2 kf), iv (own_K b0 b1 b2 (own_kt kf bb)), iv (own_K b0 b1 b2 (own_ko kf bb)), iv ei, own_lv pre2, .second, iv pft2, iv pfo2, iv bls2, iv sos2, iv v138, own_lv ecs2, .second, iv efts2] [(.int oo), (.int fr), (.ref a16)]) (mkF m 385 #[iv xk, iv xa, iv xb, iv xc, rv a2, iv fr, iv to, iv oo, iv (own_bi bv), iv (own_bi bw), iv ss, rv a16, iv (own_K b0 b1 b2 kf), iv (own_K b0 b1 b2 (own_kt kf bb)), iv (own_K b0 b1 b2 (own_ko kf bb)), iv ei, own_lv pre2, .second, iv pft2, iv pfo2, iv bls2, iv sos2, iv v138, own_lv ecs2, .second, iv efts2] []) := by
      intro t kt
      refine XS.aload X145.here hx rfl (hb hby at_385) rfl rfl ?_
      show own_S p e below T145 m 387 #[iv xk, iv xa, iv xb, iv xc, rv a2, iv fr, iv to, iv oo, iv (own_bi bv), iv (own_bi bw), iv ss, rv a16, iv (own_K b0 b1 b2 kf), iv (own_K b0 b1 b2 (own_kt kf bb)), iv (own_K b0 b1 b2 (own_ko kf bb)), iv ei, own_lv pre2, .second, iv pft2, iv pfo2, iv bls2, iv sos2, iv v138, own_lv ecs2, .second, iv efts2] [(.ref a16)] _
      refine XS.iload X145.here hx rfl (hb hby at_387) rfl ?_
      show own_S p e below T145 m 389 #[iv xk, iv xa, iv xb, iv xc, rv a2, iv fr, iv to, iv oo, iv (own_bi bv), iv (own_bi bw), iv ss, rv a16, iv (own_K b0 b1 b2 kf), iv (own_K b0 b1 b2 (own_kt kf bb)), iv (own_K b0 b1 b2 (own_ko kf bb)), iv ei, own_lv pre2, .second, iv pft2, iv pfo2, iv bls2, iv sos2, iv v138, own_lv ecs2, .second, iv efts2] [(.int fr), (.ref a16)] _
      refine XS.iload X145.here hx rfl (hb hby at_389) rfl ?_
      show own_S p e below T145 m 391 #[iv xk, iv xa, iv xb, iv xc, rv a2, iv fr, iv to, iv oo, iv (own_bi bv), iv (own_bi bw), iv ss, rv a16, iv (own_K b0 b1 b2 kf), iv (own_K b0 b1 b2 (own_kt kf bb)), iv (own_K b0 b1 b2 (own_ko kf bb)), iv ei, own_lv pre2, .second, iv pft2, iv pfo2, iv bls2, iv sos2, iv v138, own_lv ecs2, .second, iv efts2] [(.int oo), (.int fr), (.ref a16)] _
      exact kt
    refine own_st sg149 ?_
    obtain ⟨_, T150, L150, X150, hQ150, st150⟩ := own_callV (y := (⟨"com/example/kingsround/kingsround/engine/Deliveries", "value", "(II)I"⟩ : MethodName)) (y0 := (⟨"com/example/kingsround/kingsround/engine/Deliveries", "value", "(II)I"⟩ : MethodName)) (a := a16) (C := "com/example/kingsround/kingsround/engine/Deliveries") X145 hx hZ hown HD129.1 (hw _ (List.mem_of_getElem? (i := 89) rfl)) (hw _ (List.mem_of_getElem? (i := 90) rfl)) (hw _ (List.mem_of_getElem? (i := 92) rfl)) (notFace_of_selects (args := #[]) (mvT hZ (hw _ (List.mem_of_getElem? (i := 92) rfl)))) (hw _ (List.mem_of_getElem? (i := 91) rfl)) (hw _ (List.mem_of_getElem? (i := 4) rfl)) (hw _ (List.mem_of_getElem? (i := 93) rfl)) (by decide) (own_rmval l Z a0 hw a16 fr oo ib kp ta ob q r (own_K b0 b1 b2) (own_aT (own_K b0 b1 b2) (fun _ => -1) (fun _ => 0) kf (own_bi bw)) (own_pO (own_K b0 b1 b2) (own_aT (own_K b0 b1 b2) (fun _ => -1) (fun _ => 0) kf (own_bi bw)) (fun _ => 0) (fun _ _ => -1) kf (own_kt kf bb)) (own_pR (own_K b0 b1 b2) (own_aT (own_K b0 b1 b2) (fun _ => -1) (fun _ => 0) kf (own_bi bw)) (fun _ _ => -1) kf (own_kt kf bb) (own_bi bv)) (own_pc (own_K b0 b1 b2) (own_aT (own_K b0 b1 b2) (fun _ => -1) (fun _ => 0) kf (own_bi bw)) (fun _ _ => -1) kf (own_kt kf bb) (own_ac (own_K b0 b1 b2) (fun _ => -1) (fun _ => 0) kf 0)) kf (own_ko kf bb) T129.heap n0 Z129 HA HD129 hkf hko hf3 ho3) e145 (g := (mkF m 391 #[iv xk, iv xa, iv xb, iv xc, rv a2, iv fr, iv to, iv oo, iv (own_bi bv), iv (own_bi bw), iv ss, rv a16, iv (own_K b0 b1 b2 kf), iv (own_K b0 b1 b2 (own_kt kf bb)), iv (own_K b0 b1 b2 (own_ko kf bb)), iv ei, own_lv pre2, .second, iv pft2, iv pfo2, iv bls2, iv sos2, iv v138, own_lv ecs2, .second, iv efts2] [(.int oo), (.int fr), (.ref a16)])) rfl (by rw [hml]; rfl) (argsL := [(.int fr), (.int oo)]) (rest := []) (lenOf own_pd9 rfl) rfl (W := 0) (by show 2 * 0 + _ ≤ _; exact Nat.le_of_eq rfl) (hb hby at_391) (by decide) (by decide) (by decide) (by decide)
    obtain ⟨rfl, Nq150, e150⟩ := hQ150
    refine own_st st150 ?_
    have N150 := Fr.app N145 Nq150
    show own_Go p e below _ T150 (mkF m 394 #[iv xk, iv xa, iv xb, iv xc, rv a2, iv fr, iv to, iv oo, iv (own_bi bv), iv (own_bi bw), iv ss, rv a16, iv (own_K b0 b1 b2 kf), iv (own_K b0 b1 b2 (own_kt kf bb)), iv (own_K b0 b1 b2 (own_ko kf bb)), iv ei, own_lv pre2, .second, iv pft2, iv pfo2, iv bls2, iv sos2, iv v138, own_lv ecs2, .second, iv efts2] [(.int (own_val (own_aT (own_K b0 b1 b2) (fun _ => -1) (fun _ => 0) kf (own_bi bw)) (own_pR (own_K b0 b1 b2) (own_aT (own_K b0 b1 b2) (fun _ => -1) (fun _ => 0) kf (own_bi bw)) (fun _ _ => -1) kf (own_kt kf bb) (own_bi bv)) kf (own_ko kf bb)))])
    have sg151 : own_V p e below T150 (mkF m 396 #[iv xk, iv xa, iv xb, iv xc, rv a2, iv fr, iv to, iv oo, iv (own_bi bv), iv (own_bi bw), iv ss, rv a16, iv (own_K b0 b1 b2 kf), iv (own_K b0 b1 b2 (own_kt kf bb)), iv (own_K b0 b1 b2 (own_ko kf bb)), iv ei, own_lv pre2, .second, iv pft2, iv pfo2, iv bls2, iv sos2, iv v138, own_lv ecs2, .second, iv efts2] [(.int pfo2), (.int (own_val (own_aT (own_K b0 b1 b2) (fun _ => -1) (fun _ => 0) kf (own_bi bw)) (own_pR (own_K b0 b1 b2) (own_aT (own_K b0 b1 b2) (fun _ => -1) (fun _ => 0) kf (own_bi bw)) (fun _ _ => -1) kf (own_kt kf bb) (own_bi bv)) kf (own_ko kf bb)))]) (mkF m 394 #[iv xk, iv xa, iv xb, iv xc, rv a2, iv fr, iv to, iv oo, iv (own_bi bv), iv (own_bi bw), iv ss, rv a16, iv (own_K b0 b1 b2 kf), iv (own_K b0 b1 b2 (own_kt kf bb)), iv (own_K b0 b1 b2 (own_ko kf bb)), iv ei, own_lv pre2, .second, iv pft2, iv pfo2, iv bls2, iv sos2, iv v138, own_lv ecs2, .second, iv efts2] [(.int (own_val (own_aT (own_K b0 b1 b2) (fun _ => -1) (fun _ => 0) kf (own_bi bw)) (own_pR (own_K b0 b1 b2) (own_aT (own_K b0 b1 b2) (fun _ => -1) (fun _ => 0) kf (own_bi bw)) (fun _ _ => -1) kf (own_kt kf bb) (own_bi bv)) kf (own_ko kf bb)))]) := by
      intro t kt
      refine XS.iload X150.here hx rfl (hb hby at_394) rfl ?_
      show own_S p e below T150 m 396 #[iv xk, iv xa, iv xb, iv xc, rv a2, iv fr, iv to, iv oo, iv (own_bi bv), iv (own_bi bw), iv ss, rv a16, iv (own_K b0 b1 b2 kf), iv (own_K b0 b1 b2 (own_kt kf bb)), iv (own_K b0 b1 b2 (own_ko kf bb)), iv ei, own_lv pre2, .second, iv pft2, iv pfo2, iv bls2, iv sos2, iv v138, own_lv ecs2, .second, iv efts2] [(.int pfo2), (.int (own_val (own_aT (own_K b0 b1 b2) (fun _ => -1) (fun _ => 0) kf (own_bi bw)) (own_pR (own_K b0 b1 b2) (own_aT (own_K b0 b1 b2) (fun _ => -1) (fun _ => 0) kf (own_bi bw)) (fun _ _ => -1) kf (own_kt kf bb) (own_bi bv)) kf (own_ko kf bb)))] _
      exact kt
    refine own_st sg151 ?_
    have hc152 : (own_val (own_aT (own_K b0 b1 b2) (fun _ => -1) (fun _ => 0) kf (own_bi bw)) (own_pR (own_K b0 b1 b2) (own_aT (own_K b0 b1 b2) (fun _ => -1) (fun _ => 0) kf (own_bi bw)) (fun _ _ => -1) kf (own_kt kf bb) (own_bi bv)) kf (own_ko kf bb)) = pfo2 := by rw [hd_pfo2]; exact FINs2.2.2.2.1
    have sg153 : own_V p e below T150 (mkF m 399 #[iv xk, iv xa, iv xb, iv xc, rv a2, iv fr, iv to, iv oo, iv (own_bi bv), iv (own_bi bw), iv ss, rv a16, iv (own_K b0 b1 b2 kf), iv (own_K b0 b1 b2 (own_kt kf bb)), iv (own_K b0 b1 b2 (own_ko kf bb)), iv ei, own_lv pre2, .second, iv pft2, iv pfo2, iv bls2, iv sos2, iv v138, own_lv ecs2, .second, iv efts2] []) (mkF m 396 #[iv xk, iv xa, iv xb, iv xc, rv a2, iv fr, iv to, iv oo, iv (own_bi bv), iv (own_bi bw), iv ss, rv a16, iv (own_K b0 b1 b2 kf), iv (own_K b0 b1 b2 (own_kt kf bb)), iv (own_K b0 b1 b2 (own_ko kf bb)), iv ei, own_lv pre2, .second, iv pft2, iv pfo2, iv bls2, iv sos2, iv v138, own_lv ecs2, .second, iv efts2] [(.int pfo2), (.int (own_val (own_aT (own_K b0 b1 b2) (fun _ => -1) (fun _ => 0) kf (own_bi bw)) (own_pR (own_K b0 b1 b2) (own_aT (own_K b0 b1 b2) (fun _ => -1) (fun _ => 0) kf (own_bi bw)) (fun _ _ => -1) kf (own_kt kf bb) (own_bi bv)) kf (own_ko kf bb)))]) := by
      intro t kt
      refine XS.icmpNo X150.here hx rfl (hb hby at_396) rfl (teq hc152).2 ?_
      exact kt
    refine own_st sg153 ?_
    have sg154 : own_V p e below T150 (mkF m 405 #[iv xk, iv xa, iv xb, iv xc, rv a2, iv fr, iv to, iv oo, iv (own_bi bv), iv (own_bi bw), iv ss, rv a16, iv (own_K b0 b1 b2 kf), iv (own_K b0 b1 b2 (own_kt kf bb)), iv (own_K b0 b1 b2 (own_ko kf bb)), iv ei, own_lv pre2, .second, iv pft2, iv pfo2, iv bls2, iv sos2, iv v138, own_lv ecs2, .second, iv efts2] [(.int fr), (.int to), (.ref a16)]) (mkF m 399 #[iv xk, iv xa, iv xb, iv xc, rv a2, iv fr, iv to, iv oo, iv (own_bi bv), iv (own_bi bw), iv ss, rv a16, iv (own_K b0 b1 b2 kf), iv (own_K b0 b1 b2 (own_kt kf bb)), iv (own_K b0 b1 b2 (own_ko kf bb)), iv ei, own_lv pre2, .second, iv pft2, iv pfo2, iv bls2, iv sos2, iv v138, own_lv ecs2, .second, iv efts2] []) := by
      intro t kt
      refine XS.aload X150.here hx rfl (hb hby at_399) rfl rfl ?_
      show own_S p e below T150 m 401 #[iv xk, iv xa, iv xb, iv xc, rv a2, iv fr, iv to, iv oo, iv (own_bi bv), iv (own_bi bw), iv ss, rv a16, iv (own_K b0 b1 b2 kf), iv (own_K b0 b1 b2 (own_kt kf bb)), iv (own_K b0 b1 b2 (own_ko kf bb)), iv ei, own_lv pre2, .second, iv pft2, iv pfo2, iv bls2, iv sos2, iv v138, own_lv ecs2, .second, iv efts2] [(.ref a16)] _
      refine XS.iload X150.here hx rfl (hb hby at_401) rfl ?_
      show own_S p e below T150 m 403 #[iv xk, iv xa, iv xb, iv xc, rv a2, iv fr, iv to, iv oo, iv (own_bi bv), iv (own_bi bw), iv ss, rv a16, iv (own_K b0 b1 b2 kf), iv (own_K b0 b1 b2 (own_kt kf bb)), iv (own_K b0 b1 b2 (own_ko kf bb)), iv ei, own_lv pre2, .second, iv pft2, iv pfo2, iv bls2, iv sos2, iv v138, own_lv ecs2, .second, iv efts2] [(.int to), (.ref a16)] _
      refine XS.iload X150.here hx rfl (hb hby at_403) rfl ?_
      show own_S p e below T150 m 405 #[iv xk, iv xa, iv xb, iv xc, rv a2, iv fr, iv to, iv oo, iv (own_bi bv), iv (own_bi bw), iv ss, rv a16, iv (own_K b0 b1 b2 kf), iv (own_K b0 b1 b2 (own_kt kf bb)), iv (own_K b0 b1 b2 (own_ko kf bb)), iv ei, own_lv pre2, .second, iv pft2, iv pfo2, iv bls2, iv sos2, iv v138, own_lv ecs2, .second, iv efts2] [(.int fr), (.int to), (.ref a16)] _
      exact kt
    refine own_st sg154 ?_
    obtain ⟨_, T155, L155, X155, hQ155, st155⟩ := own_callV (y := (⟨"com/example/kingsround/kingsround/engine/Deliveries", "value", "(II)I"⟩ : MethodName)) (y0 := (⟨"com/example/kingsround/kingsround/engine/Deliveries", "value", "(II)I"⟩ : MethodName)) (a := a16) (C := "com/example/kingsround/kingsround/engine/Deliveries") X150 hx hZ hown HD129.1 (hw _ (List.mem_of_getElem? (i := 89) rfl)) (hw _ (List.mem_of_getElem? (i := 90) rfl)) (hw _ (List.mem_of_getElem? (i := 92) rfl)) (notFace_of_selects (args := #[]) (mvT hZ (hw _ (List.mem_of_getElem? (i := 92) rfl)))) (hw _ (List.mem_of_getElem? (i := 91) rfl)) (hw _ (List.mem_of_getElem? (i := 4) rfl)) (hw _ (List.mem_of_getElem? (i := 93) rfl)) (by decide) (own_rmval l Z a0 hw a16 to fr ib kp ta ob q r (own_K b0 b1 b2) (own_aT (own_K b0 b1 b2) (fun _ => -1) (fun _ => 0) kf (own_bi bw)) (own_pO (own_K b0 b1 b2) (own_aT (own_K b0 b1 b2) (fun _ => -1) (fun _ => 0) kf (own_bi bw)) (fun _ => 0) (fun _ _ => -1) kf (own_kt kf bb)) (own_pR (own_K b0 b1 b2) (own_aT (own_K b0 b1 b2) (fun _ => -1) (fun _ => 0) kf (own_bi bw)) (fun _ _ => -1) kf (own_kt kf bb) (own_bi bv)) (own_pc (own_K b0 b1 b2) (own_aT (own_K b0 b1 b2) (fun _ => -1) (fun _ => 0) kf (own_bi bw)) (fun _ _ => -1) kf (own_kt kf bb) (own_ac (own_K b0 b1 b2) (fun _ => -1) (fun _ => 0) kf 0)) (own_kt kf bb) kf T129.heap n0 Z129 HA HD129 hkt hkf ht3 hf3) e150 (g := (mkF m 405 #[iv xk, iv xa, iv xb, iv xc, rv a2, iv fr, iv to, iv oo, iv (own_bi bv), iv (own_bi bw), iv ss, rv a16, iv (own_K b0 b1 b2 kf), iv (own_K b0 b1 b2 (own_kt kf bb)), iv (own_K b0 b1 b2 (own_ko kf bb)), iv ei, own_lv pre2, .second, iv pft2, iv pfo2, iv bls2, iv sos2, iv v138, own_lv ecs2, .second, iv efts2] [(.int fr), (.int to), (.ref a16)])) rfl (by rw [hml]; rfl) (argsL := [(.int to), (.int fr)]) (rest := []) (lenOf own_pd9 rfl) rfl (W := 0) (by show 2 * 0 + _ ≤ _; exact Nat.le_of_eq rfl) (hb hby at_405) (by decide) (by decide) (by decide) (by decide)
    obtain ⟨rfl, Nq155, e155⟩ := hQ155
    refine own_st st155 ?_
    have N155 := Fr.app N150 Nq155
    show own_Go p e below _ T155 (mkF m 408 #[iv xk, iv xa, iv xb, iv xc, rv a2, iv fr, iv to, iv oo, iv (own_bi bv), iv (own_bi bw), iv ss, rv a16, iv (own_K b0 b1 b2 kf), iv (own_K b0 b1 b2 (own_kt kf bb)), iv (own_K b0 b1 b2 (own_ko kf bb)), iv ei, own_lv pre2, .second, iv pft2, iv pfo2, iv bls2, iv sos2, iv v138, own_lv ecs2, .second, iv efts2] [(.int (own_val (own_aT (own_K b0 b1 b2) (fun _ => -1) (fun _ => 0) kf (own_bi bw)) (own_pR (own_K b0 b1 b2) (own_aT (own_K b0 b1 b2) (fun _ => -1) (fun _ => 0) kf (own_bi bw)) (fun _ _ => -1) kf (own_kt kf bb) (own_bi bv)) (own_kt kf bb) kf))])
    have sg156 : own_V p e below T155 (mkF m 409 #[iv xk, iv xa, iv xb, iv xc, rv a2, iv fr, iv to, iv oo, iv (own_bi bv), iv (own_bi bw), iv ss, rv a16, iv (own_K b0 b1 b2 kf), iv (own_K b0 b1 b2 (own_kt kf bb)), iv (own_K b0 b1 b2 (own_ko kf bb)), iv ei, own_lv pre2, .second, iv pft2, iv pfo2, iv bls2, iv sos2, iv v138, own_lv ecs2, .second, iv efts2] [(.int (-1 : Int32)), (.int (own_val (own_aT (own_K b0 b1 b2) (fun _ => -1) (fun _ => 0) kf (own_bi bw)) (own_pR (own_K b0 b1 b2) (own_aT (own_K b0 b1 b2) (fun _ => -1) (fun _ => 0) kf (own_bi bw)) (fun _ _ => -1) kf (own_kt kf bb) (own_bi bv)) (own_kt kf bb) kf))]) (mkF m 408 #[iv xk, iv xa, iv xb, iv xc, rv a2, iv fr, iv to, iv oo, iv (own_bi bv), iv (own_bi bw), iv ss, rv a16, iv (own_K b0 b1 b2 kf), iv (own_K b0 b1 b2 (own_kt kf bb)), iv (own_K b0 b1 b2 (own_ko kf bb)), iv ei, own_lv pre2, .second, iv pft2, iv pfo2, iv bls2, iv sos2, iv v138, own_lv ecs2, .second, iv efts2] [(.int (own_val (own_aT (own_K b0 b1 b2) (fun _ => -1) (fun _ => 0) kf (own_bi bw)) (own_pR (own_K b0 b1 b2) (own_aT (own_K b0 b1 b2) (fun _ => -1) (fun _ => 0) kf (own_bi bw)) (fun _ _ => -1) kf (own_kt kf bb) (own_bi bv)) (own_kt kf bb) kf))]) := by
      intro t kt
      refine XS.iconst X155.here hx rfl (hb hby at_408) ?_
      show own_S p e below T155 m 409 #[iv xk, iv xa, iv xb, iv xc, rv a2, iv fr, iv to, iv oo, iv (own_bi bv), iv (own_bi bw), iv ss, rv a16, iv (own_K b0 b1 b2 kf), iv (own_K b0 b1 b2 (own_kt kf bb)), iv (own_K b0 b1 b2 (own_ko kf bb)), iv ei, own_lv pre2, .second, iv pft2, iv pfo2, iv bls2, iv sos2, iv v138, own_lv ecs2, .second, iv efts2] [(.int (-1 : Int32)), (.int (own_val (own_aT (own_K b0 b1 b2) (fun _ => -1) (fun _ => 0) kf (own_bi bw)) (own_pR (own_K b0 b1 b2) (own_aT (own_K b0 b1 b2) (fun _ => -1) (fun _ => 0) kf (own_bi bw)) (fun _ _ => -1) kf (own_kt kf bb) (own_bi bv)) (own_kt kf bb) kf))] _
      exact kt
    refine own_st sg156 ?_
    have hc157 : (own_val (own_aT (own_K b0 b1 b2) (fun _ => -1) (fun _ => 0) kf (own_bi bw)) (own_pR (own_K b0 b1 b2) (own_aT (own_K b0 b1 b2) (fun _ => -1) (fun _ => 0) kf (own_bi bw)) (fun _ _ => -1) kf (own_kt kf bb) (own_bi bv)) (own_kt kf bb) kf) = (-1 : Int32) := FINs2.2.2.2.2.1
    have sg158 : own_V p e below T155 (mkF m 412 #[iv xk, iv xa, iv xb, iv xc, rv a2, iv fr, iv to, iv oo, iv (own_bi bv), iv (own_bi bw), iv ss, rv a16, iv (own_K b0 b1 b2 kf), iv (own_K b0 b1 b2 (own_kt kf bb)), iv (own_K b0 b1 b2 (own_ko kf bb)), iv ei, own_lv pre2, .second, iv pft2, iv pfo2, iv bls2, iv sos2, iv v138, own_lv ecs2, .second, iv efts2] []) (mkF m 409 #[iv xk, iv xa, iv xb, iv xc, rv a2, iv fr, iv to, iv oo, iv (own_bi bv), iv (own_bi bw), iv ss, rv a16, iv (own_K b0 b1 b2 kf), iv (own_K b0 b1 b2 (own_kt kf bb)), iv (own_K b0 b1 b2 (own_ko kf bb)), iv ei, own_lv pre2, .second, iv pft2, iv pfo2, iv bls2, iv sos2, iv v138, own_lv ecs2, .second, iv efts2] [(.int (-1 : Int32)), (.int (own_val (own_aT (own_K b0 b1 b2) (fun _ => -1) (fun _ => 0) kf (own_bi bw)) (own_pR (own_K b0 b1 b2) (own_aT (own_K b0 b1 b2) (fun _ => -1) (fun _ => 0) kf (own_bi bw)) (fun _ _ => -1) kf (own_kt kf bb) (own_bi bv)) (own_kt kf bb) kf))]) := by
      intro t kt
      refine XS.icmpNo X155.here hx rfl (hb hby at_409) rfl (teq hc157).2 ?_
      exact kt
    refine own_st sg158 ?_
    have sg159 : own_V p e below T155 (mkF m 417 #[iv xk, iv xa, iv xb, iv xc, rv a2, iv fr, iv to, iv oo, iv (own_bi bv), iv (own_bi bw), iv ss, rv a16, iv (own_K b0 b1 b2 kf), iv (own_K b0 b1 b2 (own_kt kf bb)), iv (own_K b0 b1 b2 (own_ko kf bb)), iv ei, own_lv pre2, .second, iv pft2, iv pfo2, iv bls2, iv sos2, iv v138, own_lv ecs2, .second, iv efts2] [(.int (1 : Int32))]) (mkF m 412 #[iv xk, iv xa, iv xb, iv xc, rv a2, iv fr, iv to, iv oo, iv (own_bi bv), iv (own_bi bw), iv ss, rv a16, iv (own_K b0 b1 b2 kf), iv (own_K b0 b1 b2 (own_kt kf bb)), iv (own_K b0 b1 b2 (own_ko kf bb)), iv ei, own_lv pre2, .second, iv pft2, iv pfo2, iv bls2, iv sos2, iv v138, own_lv ecs2, .second, iv efts2] []) := by
      intro t kt
      refine XS.iconst X155.here hx rfl (hb hby at_412) ?_
      show own_S p e below T155 m 413 #[iv xk, iv xa, iv xb, iv xc, rv a2, iv fr, iv to, iv oo, iv (own_bi bv), iv (own_bi bw), iv ss, rv a16, iv (own_K b0 b1 b2 kf), iv (own_K b0 b1 b2 (own_kt kf bb)), iv (own_K b0 b1 b2 (own_ko kf bb)), iv ei, own_lv pre2, .second, iv pft2, iv pfo2, iv bls2, iv sos2, iv v138, own_lv ecs2, .second, iv efts2] [(.int (1 : Int32))] _
      refine XS.goto X155.here hx rfl (pc0 := 413) (pc' := 417) rfl (hb hby at_413) (by decide) (by decide) ?_
      show own_S p e below T155 m 417 #[iv xk, iv xa, iv xb, iv xc, rv a2, iv fr, iv to, iv oo, iv (own_bi bv), iv (own_bi bw), iv ss, rv a16, iv (own_K b0 b1 b2 kf), iv (own_K b0 b1 b2 (own_kt kf bb)), iv (own_K b0 b1 b2 (own_ko kf bb)), iv ei, own_lv pre2, .second, iv pft2, iv pfo2, iv bls2, iv sos2, iv v138, own_lv ecs2, .second, iv efts2] [(.int (1 : Int32))] _
      exact kt
    refine own_st sg159 ?_
    exact own_retZ X155 hx Bd.notSynchronized Bd.returns (hb hby at_417) (by decide) (by decide) (by decide) e155 ⟨rfl, N155⟩
  · skip
    have sg160 : own_V p e below T18 (mkF m 171 #[iv xk, iv xa, iv xb, iv xc, rv a2, iv fr, iv to, iv oo, iv (own_bi bv), iv (own_bi bw), iv ss, rv a16, iv (own_K b0 b1 b2 kf), iv (own_K b0 b1 b2 (own_kt kf bb)), iv (own_K b0 b1 b2 (own_ko kf bb)), iv ei, own_lv (0 : Int64), .second, iv (-1 : Int32), iv (-1 : Int32), .unset, .unset, .unset, .unset, .unset, .unset] [(.int (1 : Int32)), (.int ss)]) (mkF m 168 #[iv xk, iv xa, iv xb, iv xc, rv a2, iv fr, iv to, iv oo, iv (own_bi bv), iv (own_bi bw), iv ss, rv a16, iv (own_K b0 b1 b2 kf), iv (own_K b0 b1 b2 (own_kt kf bb)), iv (own_K b0 b1 b2 (own_ko kf bb)), iv ei, own_lv (0 : Int64), .second, iv (-1 : Int32), iv (-1 : Int32), .unset, .unset, .unset, .unset, .unset, .unset] []) := by
      intro t kt
      refine XS.iload X18.here hx rfl (hb hby at_168) rfl ?_
      show own_S p e below T18 m 170 #[iv xk, iv xa, iv xb, iv xc, rv a2, iv fr, iv to, iv oo, iv (own_bi bv), iv (own_bi bw), iv ss, rv a16, iv (own_K b0 b1 b2 kf), iv (own_K b0 b1 b2 (own_kt kf bb)), iv (own_K b0 b1 b2 (own_ko kf bb)), iv ei, own_lv (0 : Int64), .second, iv (-1 : Int32), iv (-1 : Int32), .unset, .unset, .unset, .unset, .unset, .unset] [(.int ss)] _
      refine XS.iconst X18.here hx rfl (hb hby at_170) ?_
      show own_S p e below T18 m 171 #[iv xk, iv xa, iv xb, iv xc, rv a2, iv fr, iv to, iv oo, iv (own_bi bv), iv (own_bi bw), iv ss, rv a16, iv (own_K b0 b1 b2 kf), iv (own_K b0 b1 b2 (own_kt kf bb)), iv (own_K b0 b1 b2 (own_ko kf bb)), iv ei, own_lv (0 : Int64), .second, iv (-1 : Int32), iv (-1 : Int32), .unset, .unset, .unset, .unset, .unset, .unset] [(.int (1 : Int32)), (.int ss)] _
      exact kt
    refine own_st sg160 ?_
    have hc161 : ¬ ss = (1 : Int32) := by rw [hs4]; decide
    have sg162 : own_V p e below T18 (mkF m 201 #[iv xk, iv xa, iv xb, iv xc, rv a2, iv fr, iv to, iv oo, iv (own_bi bv), iv (own_bi bw), iv ss, rv a16, iv (own_K b0 b1 b2 kf), iv (own_K b0 b1 b2 (own_kt kf bb)), iv (own_K b0 b1 b2 (own_ko kf bb)), iv ei, own_lv (0 : Int64), .second, iv (-1 : Int32), iv (-1 : Int32), .unset, .unset, .unset, .unset, .unset, .unset] []) (mkF m 171 #[iv xk, iv xa, iv xb, iv xc, rv a2, iv fr, iv to, iv oo, iv (own_bi bv), iv (own_bi bw), iv ss, rv a16, iv (own_K b0 b1 b2 kf), iv (own_K b0 b1 b2 (own_kt kf bb)), iv (own_K b0 b1 b2 (own_ko kf bb)), iv ei, own_lv (0 : Int64), .second, iv (-1 : Int32), iv (-1 : Int32), .unset, .unset, .unset, .unset, .unset, .unset] [(.int (1 : Int32)), (.int ss)]) := by
      intro t kt
      refine XS.icmpYes X18.here hx rfl (pc0 := 171) (pc' := 201) rfl (hb hby at_171) rfl (feq hc161).2 (by decide) (by decide) ?_
      exact kt
    refine own_st sg162 ?_
    have sg163 : own_V p e below T18 (mkF m 204 #[iv xk, iv xa, iv xb, iv xc, rv a2, iv fr, iv to, iv oo, iv (own_bi bv), iv (own_bi bw), iv ss, rv a16, iv (own_K b0 b1 b2 kf), iv (own_K b0 b1 b2 (own_kt kf bb)), iv (own_K b0 b1 b2 (own_ko kf bb)), iv ei, own_lv (0 : Int64), .second, iv (-1 : Int32), iv (-1 : Int32), .unset, .unset, .unset, .unset, .unset, .unset] [(.int (2 : Int32)), (.int ss)]) (mkF m 201 #[iv xk, iv xa, iv xb, iv xc, rv a2, iv fr, iv to, iv oo, iv (own_bi bv), iv (own_bi bw), iv ss, rv a16, iv (own_K b0 b1 b2 kf), iv (own_K b0 b1 b2 (own_kt kf bb)), iv (own_K b0 b1 b2 (own_ko kf bb)), iv ei, own_lv (0 : Int64), .second, iv (-1 : Int32), iv (-1 : Int32), .unset, .unset, .unset, .unset, .unset, .unset] []) := by
      intro t kt
      refine XS.iload X18.here hx rfl (hb hby at_201) rfl ?_
      show own_S p e below T18 m 203 #[iv xk, iv xa, iv xb, iv xc, rv a2, iv fr, iv to, iv oo, iv (own_bi bv), iv (own_bi bw), iv ss, rv a16, iv (own_K b0 b1 b2 kf), iv (own_K b0 b1 b2 (own_kt kf bb)), iv (own_K b0 b1 b2 (own_ko kf bb)), iv ei, own_lv (0 : Int64), .second, iv (-1 : Int32), iv (-1 : Int32), .unset, .unset, .unset, .unset, .unset, .unset] [(.int ss)] _
      refine XS.iconst X18.here hx rfl (hb hby at_203) ?_
      show own_S p e below T18 m 204 #[iv xk, iv xa, iv xb, iv xc, rv a2, iv fr, iv to, iv oo, iv (own_bi bv), iv (own_bi bw), iv ss, rv a16, iv (own_K b0 b1 b2 kf), iv (own_K b0 b1 b2 (own_kt kf bb)), iv (own_K b0 b1 b2 (own_ko kf bb)), iv ei, own_lv (0 : Int64), .second, iv (-1 : Int32), iv (-1 : Int32), .unset, .unset, .unset, .unset, .unset, .unset] [(.int (2 : Int32)), (.int ss)] _
      exact kt
    refine own_st sg163 ?_
    have hc164 : ¬ ss = (2 : Int32) := by rw [hs4]; decide
    have sg165 : own_V p e below T18 (mkF m 238 #[iv xk, iv xa, iv xb, iv xc, rv a2, iv fr, iv to, iv oo, iv (own_bi bv), iv (own_bi bw), iv ss, rv a16, iv (own_K b0 b1 b2 kf), iv (own_K b0 b1 b2 (own_kt kf bb)), iv (own_K b0 b1 b2 (own_ko kf bb)), iv ei, own_lv (0 : Int64), .second, iv (-1 : Int32), iv (-1 : Int32), .unset, .unset, .unset, .unset, .unset, .unset] []) (mkF m 204 #[iv xk, iv xa, iv xb, iv xc, rv a2, iv fr, iv to, iv oo, iv (own_bi bv), iv (own_bi bw), iv ss, rv a16, iv (own_K b0 b1 b2 kf), iv (own_K b0 b1 b2 (own_kt kf bb)), iv (own_K b0 b1 b2 (own_ko kf bb)), iv ei, own_lv (0 : Int64), .second, iv (-1 : Int32), iv (-1 : Int32), .unset, .unset, .unset, .unset, .unset, .unset] [(.int (2 : Int32)), (.int ss)]) := by
      intro t kt
      refine XS.icmpYes X18.here hx rfl (pc0 := 204) (pc' := 238) rfl (hb hby at_204) rfl (feq hc164).2 (by decide) (by decide) ?_
      exact kt
    refine own_st sg165 ?_
    have sg166 : own_V p e below T18 (mkF m 241 #[iv xk, iv xa, iv xb, iv xc, rv a2, iv fr, iv to, iv oo, iv (own_bi bv), iv (own_bi bw), iv ss, rv a16, iv (own_K b0 b1 b2 kf), iv (own_K b0 b1 b2 (own_kt kf bb)), iv (own_K b0 b1 b2 (own_ko kf bb)), iv ei, own_lv (0 : Int64), .second, iv (-1 : Int32), iv (-1 : Int32), .unset, .unset, .unset, .unset, .unset, .unset] [(.int (3 : Int32)), (.int ss)]) (mkF m 238 #[iv xk, iv xa, iv xb, iv xc, rv a2, iv fr, iv to, iv oo, iv (own_bi bv), iv (own_bi bw), iv ss, rv a16, iv (own_K b0 b1 b2 kf), iv (own_K b0 b1 b2 (own_kt kf bb)), iv (own_K b0 b1 b2 (own_ko kf bb)), iv ei, own_lv (0 : Int64), .second, iv (-1 : Int32), iv (-1 : Int32), .unset, .unset, .unset, .unset, .unset, .unset] []) := by
      intro t kt
      refine XS.iload X18.here hx rfl (hb hby at_238) rfl ?_
      show own_S p e below T18 m 240 #[iv xk, iv xa, iv xb, iv xc, rv a2, iv fr, iv to, iv oo, iv (own_bi bv), iv (own_bi bw), iv ss, rv a16, iv (own_K b0 b1 b2 kf), iv (own_K b0 b1 b2 (own_kt kf bb)), iv (own_K b0 b1 b2 (own_ko kf bb)), iv ei, own_lv (0 : Int64), .second, iv (-1 : Int32), iv (-1 : Int32), .unset, .unset, .unset, .unset, .unset, .unset] [(.int ss)] _
      refine XS.iconst X18.here hx rfl (hb hby at_240) ?_
      show own_S p e below T18 m 241 #[iv xk, iv xa, iv xb, iv xc, rv a2, iv fr, iv to, iv oo, iv (own_bi bv), iv (own_bi bw), iv ss, rv a16, iv (own_K b0 b1 b2 kf), iv (own_K b0 b1 b2 (own_kt kf bb)), iv (own_K b0 b1 b2 (own_ko kf bb)), iv ei, own_lv (0 : Int64), .second, iv (-1 : Int32), iv (-1 : Int32), .unset, .unset, .unset, .unset, .unset, .unset] [(.int (3 : Int32)), (.int ss)] _
      exact kt
    refine own_st sg166 ?_
    have hc167 : ss = (3 : Int32) := by rw [hs4]
    have sg168 : own_V p e below T18 (mkF m 244 #[iv xk, iv xa, iv xb, iv xc, rv a2, iv fr, iv to, iv oo, iv (own_bi bv), iv (own_bi bw), iv ss, rv a16, iv (own_K b0 b1 b2 kf), iv (own_K b0 b1 b2 (own_kt kf bb)), iv (own_K b0 b1 b2 (own_ko kf bb)), iv ei, own_lv (0 : Int64), .second, iv (-1 : Int32), iv (-1 : Int32), .unset, .unset, .unset, .unset, .unset, .unset] []) (mkF m 241 #[iv xk, iv xa, iv xb, iv xc, rv a2, iv fr, iv to, iv oo, iv (own_bi bv), iv (own_bi bw), iv ss, rv a16, iv (own_K b0 b1 b2 kf), iv (own_K b0 b1 b2 (own_kt kf bb)), iv (own_K b0 b1 b2 (own_ko kf bb)), iv ei, own_lv (0 : Int64), .second, iv (-1 : Int32), iv (-1 : Int32), .unset, .unset, .unset, .unset, .unset, .unset] [(.int (3 : Int32)), (.int ss)]) := by
      intro t kt
      refine XS.icmpNo X18.here hx rfl (hb hby at_241) rfl (teq hc167).2 ?_
      exact kt
    refine own_st sg168 ?_
    have sg169 : own_V p e below T18 (mkF m 252 #[iv xk, iv xa, iv xb, iv xc, rv a2, iv fr, iv to, iv oo, iv (own_bi bv), iv (own_bi bw), iv ss, rv a16, iv (own_K b0 b1 b2 kf), iv (own_K b0 b1 b2 (own_kt kf bb)), iv (own_K b0 b1 b2 (own_ko kf bb)), iv ei, own_lv (0 : Int64), .second, iv (-1 : Int32), iv (-1 : Int32), .unset, .unset, .unset, .unset, .unset, .unset] [(.int (own_bi bw)), (.int oo), (.int fr), (.ref a16)]) (mkF m 244 #[iv xk, iv xa, iv xb, iv xc, rv a2, iv fr, iv to, iv oo, iv (own_bi bv), iv (own_bi bw), iv ss, rv a16, iv (own_K b0 b1 b2 kf), iv (own_K b0 b1 b2 (own_kt kf bb)), iv (own_K b0 b1 b2 (own_ko kf bb)), iv ei, own_lv (0 : Int64), .second, iv (-1 : Int32), iv (-1 : Int32), .unset, .unset, .unset, .unset, .unset, .unset] []) := by
      intro t kt
      refine XS.aload X18.here hx rfl (hb hby at_244) rfl rfl ?_
      show own_S p e below T18 m 246 #[iv xk, iv xa, iv xb, iv xc, rv a2, iv fr, iv to, iv oo, iv (own_bi bv), iv (own_bi bw), iv ss, rv a16, iv (own_K b0 b1 b2 kf), iv (own_K b0 b1 b2 (own_kt kf bb)), iv (own_K b0 b1 b2 (own_ko kf bb)), iv ei, own_lv (0 : Int64), .second, iv (-1 : Int32), iv (-1 : Int32), .unset, .unset, .unset, .unset, .unset, .unset] [(.ref a16)] _
      refine XS.iload X18.here hx rfl (hb hby at_246) rfl ?_
      show own_S p e below T18 m 248 #[iv xk, iv xa, iv xb, iv xc, rv a2, iv fr, iv to, iv oo, iv (own_bi bv), iv (own_bi bw), iv ss, rv a16, iv (own_K b0 b1 b2 kf), iv (own_K b0 b1 b2 (own_kt kf bb)), iv (own_K b0 b1 b2 (own_ko kf bb)), iv ei, own_lv (0 : Int64), .second, iv (-1 : Int32), iv (-1 : Int32), .unset, .unset, .unset, .unset, .unset, .unset] [(.int fr), (.ref a16)] _
      refine XS.iload X18.here hx rfl (hb hby at_248) rfl ?_
      show own_S p e below T18 m 250 #[iv xk, iv xa, iv xb, iv xc, rv a2, iv fr, iv to, iv oo, iv (own_bi bv), iv (own_bi bw), iv ss, rv a16, iv (own_K b0 b1 b2 kf), iv (own_K b0 b1 b2 (own_kt kf bb)), iv (own_K b0 b1 b2 (own_ko kf bb)), iv ei, own_lv (0 : Int64), .second, iv (-1 : Int32), iv (-1 : Int32), .unset, .unset, .unset, .unset, .unset, .unset] [(.int oo), (.int fr), (.ref a16)] _
      refine XS.iload X18.here hx rfl (hb hby at_250) rfl ?_
      show own_S p e below T18 m 252 #[iv xk, iv xa, iv xb, iv xc, rv a2, iv fr, iv to, iv oo, iv (own_bi bv), iv (own_bi bw), iv ss, rv a16, iv (own_K b0 b1 b2 kf), iv (own_K b0 b1 b2 (own_kt kf bb)), iv (own_K b0 b1 b2 (own_ko kf bb)), iv ei, own_lv (0 : Int64), .second, iv (-1 : Int32), iv (-1 : Int32), .unset, .unset, .unset, .unset, .unset, .unset] [(.int (own_bi bw)), (.int oo), (.int fr), (.ref a16)] _
      exact kt
    refine own_st sg169 ?_
    obtain ⟨_, T170, L170, X170, hQ170, st170⟩ := own_callV (y := (⟨"com/example/kingsround/kingsround/engine/Deliveries", "put", "(III)Z"⟩ : MethodName)) (y0 := (⟨"com/example/kingsround/kingsround/engine/Deliveries", "put", "(III)Z"⟩ : MethodName)) (a := a16) (C := "com/example/kingsround/kingsround/engine/Deliveries") X18 hx hZ hown HD.1 (hw _ (List.mem_of_getElem? (i := 77) rfl)) (hw _ (List.mem_of_getElem? (i := 78) rfl)) (hw _ (List.mem_of_getElem? (i := 80) rfl)) (notFace_of_selects (args := #[]) (mvT hZ (hw _ (List.mem_of_getElem? (i := 80) rfl)))) (hw _ (List.mem_of_getElem? (i := 79) rfl)) (hw _ (List.mem_of_getElem? (i := 4) rfl)) (hw _ (List.mem_of_getElem? (i := 81) rfl)) (by decide) (own_rmput l Z a0 hw a16 fr oo (own_bi bw) ib kp ta ob q r (own_K b0 b1 b2) (fun _ => -1) (fun _ => 0) (fun _ _ => -1) 0 kf (own_ko kf bb) T18.heap n0 Z18 HA HD hkf hko hf3 ho3) rfl (g := (mkF m 252 #[iv xk, iv xa, iv xb, iv xc, rv a2, iv fr, iv to, iv oo, iv (own_bi bv), iv (own_bi bw), iv ss, rv a16, iv (own_K b0 b1 b2 kf), iv (own_K b0 b1 b2 (own_kt kf bb)), iv (own_K b0 b1 b2 (own_ko kf bb)), iv ei, own_lv (0 : Int64), .second, iv (-1 : Int32), iv (-1 : Int32), .unset, .unset, .unset, .unset, .unset, .unset] [(.int (own_bi bw)), (.int oo), (.int fr), (.ref a16)])) rfl (by rw [hml]; rfl) (argsL := [(.int fr), (.int oo), (.int (own_bi bw))]) (rest := []) (lenOf own_pd7 rfl) rfl (W := 0) (by show 2 * 0 + _ ≤ _; exact Nat.le_of_eq rfl) (hb hby at_252) (by decide) (by decide) (by decide) (by decide)
    obtain ⟨rfl, Nq170, Sz170, HD170⟩ := hQ170
    refine own_st st170 ?_
    have Z170 : n0 ≤ T170.heap.size := Nat.le_trans Z18 Sz170
    have N170 := Fr.app N18 Nq170
    show own_Go p e below _ T170 (mkF m 255 #[iv xk, iv xa, iv xb, iv xc, rv a2, iv fr, iv to, iv oo, iv (own_bi bv), iv (own_bi bw), iv ss, rv a16, iv (own_K b0 b1 b2 kf), iv (own_K b0 b1 b2 (own_kt kf bb)), iv (own_K b0 b1 b2 (own_ko kf bb)), iv ei, own_lv (0 : Int64), .second, iv (-1 : Int32), iv (-1 : Int32), .unset, .unset, .unset, .unset, .unset, .unset] [(.int (own_pr (own_K b0 b1 b2) (fun _ => -1) (fun _ _ => -1) kf (own_ko kf bb)))])
    obtain ⟨pre3, hpre3⟩ : ∃ z : Int64, z = (if (own_K b0 b1 b2 kf) = (0 : Int32) then (if (own_K b0 b1 b2 (own_ko kf bb)) = (0 : Int32) then (0 : Int64) else (1 : Int64)) else (1 : Int64)) := ⟨_, rfl⟩
    obtain ⟨pfo3, hpfo3⟩ : ∃ z : Int32, z = (if (own_K b0 b1 b2 kf) = (0 : Int32) then (if (own_K b0 b1 b2 (own_ko kf bb)) = (0 : Int32) then (-1 : Int32) else (own_bi bw)) else (own_bi bw)) := ⟨_, rfl⟩
    have sg173 : own_V p e below T170 (mkF m 273 #[iv xk, iv xa, iv xb, iv xc, rv a2, iv fr, iv to, iv oo, iv (own_bi bv), iv (own_bi bw), iv ss, rv a16, iv (own_K b0 b1 b2 kf), iv (own_K b0 b1 b2 (own_kt kf bb)), iv (own_K b0 b1 b2 (own_ko kf bb)), iv ei, own_lv pre3, .second, iv (-1 : Int32), iv pfo3, .unset, .unset, .unset, .unset, .unset, .unset] []) (mkF m 255 #[iv xk, iv xa, iv xb, iv xc, rv a2, iv fr, iv to, iv oo, iv (own_bi bv), iv (own_bi bw), iv ss, rv a16, iv (own_K b0 b1 b2 kf), iv (own_K b0 b1 b2 (own_kt kf bb)), iv (own_K b0 b1 b2 (own_ko kf bb)), iv ei, own_lv (0 : Int64), .second, iv (-1 : Int32), iv (-1 : Int32), .unset, .unset, .unset, .unset, .unset, .unset] [(.int (own_pr (own_K b0 b1 b2) (fun _ => -1) (fun _ _ => -1) kf (own_ko kf bb)))]) := by
      intro t kt
      refine XS.pop X170.here hx rfl (hb hby at_255) rfl rfl ?_
      show own_S p e below T170 m 256 #[iv xk, iv xa, iv xb, iv xc, rv a2, iv fr, iv to, iv oo, iv (own_bi bv), iv (own_bi bw), iv ss, rv a16, iv (own_K b0 b1 b2 kf), iv (own_K b0 b1 b2 (own_kt kf bb)), iv (own_K b0 b1 b2 (own_ko kf bb)), iv ei, own_lv (0 : Int64), .second, iv (-1 : Int32), iv (-1 : Int32), .unset, .unset, .unset, .unset, .unset, .unset] [] _
      refine XS.iload X170.here hx rfl (hb hby at_256) rfl ?_
      show own_S p e below T170 m 258 #[iv xk, iv xa, iv xb, iv xc, rv a2, iv fr, iv to, iv oo, iv (own_bi bv), iv (own_bi bw), iv ss, rv a16, iv (own_K b0 b1 b2 kf), iv (own_K b0 b1 b2 (own_kt kf bb)), iv (own_K b0 b1 b2 (own_ko kf bb)), iv ei, own_lv (0 : Int64), .second, iv (-1 : Int32), iv (-1 : Int32), .unset, .unset, .unset, .unset, .unset, .unset] [(.int (own_K b0 b1 b2 kf))] _
      by_cases hc171 : (own_K b0 b1 b2 kf) = (0 : Int32)
      · refine XS.ifNo X170.here hx rfl (hb hby at_258) rfl ((if0 _ _).trans (teq hc171).2) ?_
        show own_S p e below T170 m 261 #[iv xk, iv xa, iv xb, iv xc, rv a2, iv fr, iv to, iv oo, iv (own_bi bv), iv (own_bi bw), iv ss, rv a16, iv (own_K b0 b1 b2 kf), iv (own_K b0 b1 b2 (own_kt kf bb)), iv (own_K b0 b1 b2 (own_ko kf bb)), iv ei, own_lv (0 : Int64), .second, iv (-1 : Int32), iv (-1 : Int32), .unset, .unset, .unset, .unset, .unset, .unset] [] _
        refine XS.iload X170.here hx rfl (hb hby at_261) rfl ?_
        show own_S p e below T170 m 263 #[iv xk, iv xa, iv xb, iv xc, rv a2, iv fr, iv to, iv oo, iv (own_bi bv), iv (own_bi bw), iv ss, rv a16, iv (own_K b0 b1 b2 kf), iv (own_K b0 b1 b2 (own_kt kf bb)), iv (own_K b0 b1 b2 (own_ko kf bb)), iv ei, own_lv (0 : Int64), .second, iv (-1 : Int32), iv (-1 : Int32), .unset, .unset, .unset, .unset, .unset, .unset] [(.int (own_K b0 b1 b2 (own_ko kf bb)))] _
        by_cases hc172 : (own_K b0 b1 b2 (own_ko kf bb)) = (0 : Int32)
        · refine XS.ifYes X170.here hx rfl (pc0 := 263) (pc' := 273) rfl (hb hby at_263) rfl ((if0 _ _).trans (teq hc172).1) (by decide) (by decide) ?_
          show own_S p e below T170 m 273 #[iv xk, iv xa, iv xb, iv xc, rv a2, iv fr, iv to, iv oo, iv (own_bi bv), iv (own_bi bw), iv ss, rv a16, iv (own_K b0 b1 b2 kf), iv (own_K b0 b1 b2 (own_kt kf bb)), iv (own_K b0 b1 b2 (own_ko kf bb)), iv ei, own_lv (0 : Int64), .second, iv (-1 : Int32), iv (-1 : Int32), .unset, .unset, .unset, .unset, .unset, .unset] [] _
          rw [show pre3 = (0 : Int64) from by rw [hpre3, if_pos hc171, if_pos hc172]] at kt
          rw [show pfo3 = (-1 : Int32) from by rw [hpfo3, if_pos hc171, if_pos hc172]] at kt
          exact kt
        · refine XS.ifNo X170.here hx rfl (hb hby at_263) rfl ((if0 _ _).trans (feq hc172).1) ?_
          show own_S p e below T170 m 266 #[iv xk, iv xa, iv xb, iv xc, rv a2, iv fr, iv to, iv oo, iv (own_bi bv), iv (own_bi bw), iv ss, rv a16, iv (own_K b0 b1 b2 kf), iv (own_K b0 b1 b2 (own_kt kf bb)), iv (own_K b0 b1 b2 (own_ko kf bb)), iv ei, own_lv (0 : Int64), .second, iv (-1 : Int32), iv (-1 : Int32), .unset, .unset, .unset, .unset, .unset, .unset] [] _
          refine XS.lconst X170.here hx rfl (hb hby at_266) ?_
          show own_S p e below T170 m 267 #[iv xk, iv xa, iv xb, iv xc, rv a2, iv fr, iv to, iv oo, iv (own_bi bv), iv (own_bi bw), iv ss, rv a16, iv (own_K b0 b1 b2 kf), iv (own_K b0 b1 b2 (own_kt kf bb)), iv (own_K b0 b1 b2 (own_ko kf bb)), iv ei, own_lv (0 : Int64), .second, iv (-1 : Int32), iv (-1 : Int32), .unset, .unset, .unset, .unset, .unset, .unset] [(.long (1 : Int64))] _
          refine XS.lstore X170.here hx rfl (hb hby at_267) rfl (l' := #[iv xk, iv xa, iv xb, iv xc, rv a2, iv fr, iv to, iv oo, iv (own_bi bv), iv (own_bi bw), iv ss, rv a16, iv (own_K b0 b1 b2 kf), iv (own_K b0 b1 b2 (own_kt kf bb)), iv (own_K b0 b1 b2 (own_ko kf bb)), iv ei, own_lv (1 : Int64), .second, iv (-1 : Int32), iv (-1 : Int32), .unset, .unset, .unset, .unset, .unset, .unset]) rfl ?_
          show own_S p e below T170 m 269 #[iv xk, iv xa, iv xb, iv xc, rv a2, iv fr, iv to, iv oo, iv (own_bi bv), iv (own_bi bw), iv ss, rv a16, iv (own_K b0 b1 b2 kf), iv (own_K b0 b1 b2 (own_kt kf bb)), iv (own_K b0 b1 b2 (own_ko kf bb)), iv ei, own_lv (1 : Int64), .second, iv (-1 : Int32), iv (-1 : Int32), .unset, .unset, .unset, .unset, .unset, .unset] [] _
          refine XS.iload X170.here hx rfl (hb hby at_269) rfl ?_
          show own_S p e below T170 m 271 #[iv xk, iv xa, iv xb, iv xc, rv a2, iv fr, iv to, iv oo, iv (own_bi bv), iv (own_bi bw), iv ss, rv a16, iv (own_K b0 b1 b2 kf), iv (own_K b0 b1 b2 (own_kt kf bb)), iv (own_K b0 b1 b2 (own_ko kf bb)), iv ei, own_lv (1 : Int64), .second, iv (-1 : Int32), iv (-1 : Int32), .unset, .unset, .unset, .unset, .unset, .unset] [(.int (own_bi bw))] _
          refine XS.istore X170.here hx rfl (hb hby at_271) rfl (l' := #[iv xk, iv xa, iv xb, iv xc, rv a2, iv fr, iv to, iv oo, iv (own_bi bv), iv (own_bi bw), iv ss, rv a16, iv (own_K b0 b1 b2 kf), iv (own_K b0 b1 b2 (own_kt kf bb)), iv (own_K b0 b1 b2 (own_ko kf bb)), iv ei, own_lv (1 : Int64), .second, iv (-1 : Int32), iv (own_bi bw), .unset, .unset, .unset, .unset, .unset, .unset]) rfl ?_
          show own_S p e below T170 m 273 #[iv xk, iv xa, iv xb, iv xc, rv a2, iv fr, iv to, iv oo, iv (own_bi bv), iv (own_bi bw), iv ss, rv a16, iv (own_K b0 b1 b2 kf), iv (own_K b0 b1 b2 (own_kt kf bb)), iv (own_K b0 b1 b2 (own_ko kf bb)), iv ei, own_lv (1 : Int64), .second, iv (-1 : Int32), iv (own_bi bw), .unset, .unset, .unset, .unset, .unset, .unset] [] _
          rw [show pre3 = (1 : Int64) from by rw [hpre3, if_pos hc171, if_neg hc172]] at kt
          rw [show pfo3 = (own_bi bw) from by rw [hpfo3, if_pos hc171, if_neg hc172]] at kt
          exact kt
      · refine XS.ifYes X170.here hx rfl (pc0 := 258) (pc' := 266) rfl (hb hby at_258) rfl ((if0 _ _).trans (feq hc171).2) (by decide) (by decide) ?_
        show own_S p e below T170 m 266 #[iv xk, iv xa, iv xb, iv xc, rv a2, iv fr, iv to, iv oo, iv (own_bi bv), iv (own_bi bw), iv ss, rv a16, iv (own_K b0 b1 b2 kf), iv (own_K b0 b1 b2 (own_kt kf bb)), iv (own_K b0 b1 b2 (own_ko kf bb)), iv ei, own_lv (0 : Int64), .second, iv (-1 : Int32), iv (-1 : Int32), .unset, .unset, .unset, .unset, .unset, .unset] [] _
        refine XS.lconst X170.here hx rfl (hb hby at_266) ?_
        show own_S p e below T170 m 267 #[iv xk, iv xa, iv xb, iv xc, rv a2, iv fr, iv to, iv oo, iv (own_bi bv), iv (own_bi bw), iv ss, rv a16, iv (own_K b0 b1 b2 kf), iv (own_K b0 b1 b2 (own_kt kf bb)), iv (own_K b0 b1 b2 (own_ko kf bb)), iv ei, own_lv (0 : Int64), .second, iv (-1 : Int32), iv (-1 : Int32), .unset, .unset, .unset, .unset, .unset, .unset] [(.long (1 : Int64))] _
        refine XS.lstore X170.here hx rfl (hb hby at_267) rfl (l' := #[iv xk, iv xa, iv xb, iv xc, rv a2, iv fr, iv to, iv oo, iv (own_bi bv), iv (own_bi bw), iv ss, rv a16, iv (own_K b0 b1 b2 kf), iv (own_K b0 b1 b2 (own_kt kf bb)), iv (own_K b0 b1 b2 (own_ko kf bb)), iv ei, own_lv (1 : Int64), .second, iv (-1 : Int32), iv (-1 : Int32), .unset, .unset, .unset, .unset, .unset, .unset]) rfl ?_
        show own_S p e below T170 m 269 #[iv xk, iv xa, iv xb, iv xc, rv a2, iv fr, iv to, iv oo, iv (own_bi bv), iv (own_bi bw), iv ss, rv a16, iv (own_K b0 b1 b2 kf), iv (own_K b0 b1 b2 (own_kt kf bb)), iv (own_K b0 b1 b2 (own_ko kf bb)), iv ei, own_lv (1 : Int64), .second, iv (-1 : Int32), iv (-1 : Int32), .unset, .unset, .unset, .unset, .unset, .unset] [] _
        refine XS.iload X170.here hx rfl (hb hby at_269) rfl ?_
        show own_S p e below T170 m 271 #[iv xk, iv xa, iv xb, iv xc, rv a2, iv fr, iv to, iv oo, iv (own_bi bv), iv (own_bi bw), iv ss, rv a16, iv (own_K b0 b1 b2 kf), iv (own_K b0 b1 b2 (own_kt kf bb)), iv (own_K b0 b1 b2 (own_ko kf bb)), iv ei, own_lv (1 : Int64), .second, iv (-1 : Int32), iv (-1 : Int32), .unset, .unset, .unset, .unset, .unset, .unset] [(.int (own_bi bw))] _
        refine XS.istore X170.here hx rfl (hb hby at_271) rfl (l' := #[iv xk, iv xa, iv xb, iv xc, rv a2, iv fr, iv to, iv oo, iv (own_bi bv), iv (own_bi bw), iv ss, rv a16, iv (own_K b0 b1 b2 kf), iv (own_K b0 b1 b2 (own_kt kf bb)), iv (own_K b0 b1 b2 (own_ko kf bb)), iv ei, own_lv (1 : Int64), .second, iv (-1 : Int32), iv (own_bi bw), .unset, .unset, .unset, .unset, .unset, .unset]) rfl ?_
        show own_S p e below T170 m 273 #[iv xk, iv xa, iv xb, iv xc, rv a2, iv fr, iv to, iv oo, iv (own_bi bv), iv (own_bi bw), iv ss, rv a16, iv (own_K b0 b1 b2 kf), iv (own_K b0 b1 b2 (own_kt kf bb)), iv (own_K b0 b1 b2 (own_ko kf bb)), iv ei, own_lv (1 : Int64), .second, iv (-1 : Int32), iv (own_bi bw), .unset, .unset, .unset, .unset, .unset, .unset] [] _
        rw [show pre3 = (1 : Int64) from by rw [hpre3, if_neg hc171]] at kt
        rw [show pfo3 = (own_bi bw) from by rw [hpfo3, if_neg hc171]] at kt
        exact kt
    refine own_st sg173 ?_
    obtain ⟨bls3, hbls3⟩ : ∃ z : Int32, z = (0 : Int32) := ⟨_, rfl⟩
    have sg174 : own_V p e below T170 (mkF m 284 #[iv xk, iv xa, iv xb, iv xc, rv a2, iv fr, iv to, iv oo, iv (own_bi bv), iv (own_bi bw), iv ss, rv a16, iv (own_K b0 b1 b2 kf), iv (own_K b0 b1 b2 (own_kt kf bb)), iv (own_K b0 b1 b2 (own_ko kf bb)), iv ei, own_lv pre3, .second, iv (-1 : Int32), iv pfo3, .unset, .unset, .unset, .unset, .unset, .unset] [(.int bls3)]) (mkF m 273 #[iv xk, iv xa, iv xb, iv xc, rv a2, iv fr, iv to, iv oo, iv (own_bi bv), iv (own_bi bw), iv ss, rv a16, iv (own_K b0 b1 b2 kf), iv (own_K b0 b1 b2 (own_kt kf bb)), iv (own_K b0 b1 b2 (own_ko kf bb)), iv ei, own_lv pre3, .second, iv (-1 : Int32), iv pfo3, .unset, .unset, .unset, .unset, .unset, .unset] []) := by
      intro t kt
      refine XS.iload X170.here hx rfl (hb hby at_273) rfl ?_
      show own_S p e below T170 m 275 #[iv xk, iv xa, iv xb, iv xc, rv a2, iv fr, iv to, iv oo, iv (own_bi bv), iv (own_bi bw), iv ss, rv a16, iv (own_K b0 b1 b2 kf), iv (own_K b0 b1 b2 (own_kt kf bb)), iv (own_K b0 b1 b2 (own_ko kf bb)), iv ei, own_lv pre3, .second, iv (-1 : Int32), iv pfo3, .unset, .unset, .unset, .unset, .unset, .unset] [(.int (-1 : Int32))] _
      refine XS.iconst X170.here hx rfl (hb hby at_275) ?_
      show own_S p e below T170 m 276 #[iv xk, iv xa, iv xb, iv xc, rv a2, iv fr, iv to, iv oo, iv (own_bi bv), iv (own_bi bw), iv ss, rv a16, iv (own_K b0 b1 b2 kf), iv (own_K b0 b1 b2 (own_kt kf bb)), iv (own_K b0 b1 b2 (own_ko kf bb)), iv ei, own_lv pre3, .second, iv (-1 : Int32), iv pfo3, .unset, .unset, .unset, .unset, .unset, .unset] [(.int (-1 : Int32)), (.int (-1 : Int32))] _
      refine XS.icmpYes X170.here hx rfl (pc0 := 276) (pc' := 283) rfl (hb hby at_276) rfl (teq (by decide : (-1 : Int32) = (-1 : Int32))).1 (by decide) (by decide) ?_
      show own_S p e below T170 m 283 #[iv xk, iv xa, iv xb, iv xc, rv a2, iv fr, iv to, iv oo, iv (own_bi bv), iv (own_bi bw), iv ss, rv a16, iv (own_K b0 b1 b2 kf), iv (own_K b0 b1 b2 (own_kt kf bb)), iv (own_K b0 b1 b2 (own_ko kf bb)), iv ei, own_lv pre3, .second, iv (-1 : Int32), iv pfo3, .unset, .unset, .unset, .unset, .unset, .unset] [] _
      refine XS.iconst X170.here hx rfl (hb hby at_283) ?_
      show own_S p e below T170 m 284 #[iv xk, iv xa, iv xb, iv xc, rv a2, iv fr, iv to, iv oo, iv (own_bi bv), iv (own_bi bw), iv ss, rv a16, iv (own_K b0 b1 b2 kf), iv (own_K b0 b1 b2 (own_kt kf bb)), iv (own_K b0 b1 b2 (own_ko kf bb)), iv ei, own_lv pre3, .second, iv (-1 : Int32), iv pfo3, .unset, .unset, .unset, .unset, .unset, .unset] [(.int (0 : Int32))] _
      rw [hbls3] at kt
      exact kt
    refine own_st sg174 ?_
    obtain ⟨sos3, hsos3⟩ : ∃ z : Int32, z = (if ei = (0 : Int32) then (0 : Int32) else (if bls3 = (0 : Int32) then (1 : Int32) else (0 : Int32))) := ⟨_, rfl⟩
    have sg177 : own_V p e below T170 (mkF m 301 #[iv xk, iv xa, iv xb, iv xc, rv a2, iv fr, iv to, iv oo, iv (own_bi bv), iv (own_bi bw), iv ss, rv a16, iv (own_K b0 b1 b2 kf), iv (own_K b0 b1 b2 (own_kt kf bb)), iv (own_K b0 b1 b2 (own_ko kf bb)), iv ei, own_lv pre3, .second, iv (-1 : Int32), iv pfo3, iv bls3, .unset, .unset, .unset, .unset, .unset] [(.int sos3)]) (mkF m 284 #[iv xk, iv xa, iv xb, iv xc, rv a2, iv fr, iv to, iv oo, iv (own_bi bv), iv (own_bi bw), iv ss, rv a16, iv (own_K b0 b1 b2 kf), iv (own_K b0 b1 b2 (own_kt kf bb)), iv (own_K b0 b1 b2 (own_ko kf bb)), iv ei, own_lv pre3, .second, iv (-1 : Int32), iv pfo3, .unset, .unset, .unset, .unset, .unset, .unset] [(.int bls3)]) := by
      intro t kt
      refine XS.istore X170.here hx rfl (hb hby at_284) rfl (l' := #[iv xk, iv xa, iv xb, iv xc, rv a2, iv fr, iv to, iv oo, iv (own_bi bv), iv (own_bi bw), iv ss, rv a16, iv (own_K b0 b1 b2 kf), iv (own_K b0 b1 b2 (own_kt kf bb)), iv (own_K b0 b1 b2 (own_ko kf bb)), iv ei, own_lv pre3, .second, iv (-1 : Int32), iv pfo3, iv bls3, .unset, .unset, .unset, .unset, .unset]) rfl ?_
      show own_S p e below T170 m 286 #[iv xk, iv xa, iv xb, iv xc, rv a2, iv fr, iv to, iv oo, iv (own_bi bv), iv (own_bi bw), iv ss, rv a16, iv (own_K b0 b1 b2 kf), iv (own_K b0 b1 b2 (own_kt kf bb)), iv (own_K b0 b1 b2 (own_ko kf bb)), iv ei, own_lv pre3, .second, iv (-1 : Int32), iv pfo3, iv bls3, .unset, .unset, .unset, .unset, .unset] [] _
      refine XS.iload X170.here hx rfl (hb hby at_286) rfl ?_
      show own_S p e below T170 m 288 #[iv xk, iv xa, iv xb, iv xc, rv a2, iv fr, iv to, iv oo, iv (own_bi bv), iv (own_bi bw), iv ss, rv a16, iv (own_K b0 b1 b2 kf), iv (own_K b0 b1 b2 (own_kt kf bb)), iv (own_K b0 b1 b2 (own_ko kf bb)), iv ei, own_lv pre3, .second, iv (-1 : Int32), iv pfo3, iv bls3, .unset, .unset, .unset, .unset, .unset] [(.int ei)] _
      by_cases hc175 : ei = (0 : Int32)
      · refine XS.ifYes X170.here hx rfl (pc0 := 288) (pc' := 300) rfl (hb hby at_288) rfl ((if0 _ _).trans (teq hc175).1) (by decide) (by decide) ?_
        show own_S p e below T170 m 300 #[iv xk, iv xa, iv xb, iv xc, rv a2, iv fr, iv to, iv oo, iv (own_bi bv), iv (own_bi bw), iv ss, rv a16, iv (own_K b0 b1 b2 kf), iv (own_K b0 b1 b2 (own_kt kf bb)), iv (own_K b0 b1 b2 (own_ko kf bb)), iv ei, own_lv pre3, .second, iv (-1 : Int32), iv pfo3, iv bls3, .unset, .unset, .unset, .unset, .unset] [] _
        refine XS.iconst X170.here hx rfl (hb hby at_300) ?_
        show own_S p e below T170 m 301 #[iv xk, iv xa, iv xb, iv xc, rv a2, iv fr, iv to, iv oo, iv (own_bi bv), iv (own_bi bw), iv ss, rv a16, iv (own_K b0 b1 b2 kf), iv (own_K b0 b1 b2 (own_kt kf bb)), iv (own_K b0 b1 b2 (own_ko kf bb)), iv ei, own_lv pre3, .second, iv (-1 : Int32), iv pfo3, iv bls3, .unset, .unset, .unset, .unset, .unset] [(.int (0 : Int32))] _
        rw [show sos3 = (0 : Int32) from by rw [hsos3, if_pos hc175]] at kt
        exact kt
      · refine XS.ifNo X170.here hx rfl (hb hby at_288) rfl ((if0 _ _).trans (feq hc175).1) ?_
        show own_S p e below T170 m 291 #[iv xk, iv xa, iv xb, iv xc, rv a2, iv fr, iv to, iv oo, iv (own_bi bv), iv (own_bi bw), iv ss, rv a16, iv (own_K b0 b1 b2 kf), iv (own_K b0 b1 b2 (own_kt kf bb)), iv (own_K b0 b1 b2 (own_ko kf bb)), iv ei, own_lv pre3, .second, iv (-1 : Int32), iv pfo3, iv bls3, .unset, .unset, .unset, .unset, .unset] [] _
        refine XS.iload X170.here hx rfl (hb hby at_291) rfl ?_
        show own_S p e below T170 m 293 #[iv xk, iv xa, iv xb, iv xc, rv a2, iv fr, iv to, iv oo, iv (own_bi bv), iv (own_bi bw), iv ss, rv a16, iv (own_K b0 b1 b2 kf), iv (own_K b0 b1 b2 (own_kt kf bb)), iv (own_K b0 b1 b2 (own_ko kf bb)), iv ei, own_lv pre3, .second, iv (-1 : Int32), iv pfo3, iv bls3, .unset, .unset, .unset, .unset, .unset] [(.int bls3)] _
        by_cases hc176 : bls3 = (0 : Int32)
        · refine XS.ifNo X170.here hx rfl (hb hby at_293) rfl ((if0 _ _).trans (teq hc176).2) ?_
          show own_S p e below T170 m 296 #[iv xk, iv xa, iv xb, iv xc, rv a2, iv fr, iv to, iv oo, iv (own_bi bv), iv (own_bi bw), iv ss, rv a16, iv (own_K b0 b1 b2 kf), iv (own_K b0 b1 b2 (own_kt kf bb)), iv (own_K b0 b1 b2 (own_ko kf bb)), iv ei, own_lv pre3, .second, iv (-1 : Int32), iv pfo3, iv bls3, .unset, .unset, .unset, .unset, .unset] [] _
          refine XS.iconst X170.here hx rfl (hb hby at_296) ?_
          show own_S p e below T170 m 297 #[iv xk, iv xa, iv xb, iv xc, rv a2, iv fr, iv to, iv oo, iv (own_bi bv), iv (own_bi bw), iv ss, rv a16, iv (own_K b0 b1 b2 kf), iv (own_K b0 b1 b2 (own_kt kf bb)), iv (own_K b0 b1 b2 (own_ko kf bb)), iv ei, own_lv pre3, .second, iv (-1 : Int32), iv pfo3, iv bls3, .unset, .unset, .unset, .unset, .unset] [(.int (1 : Int32))] _
          refine XS.goto X170.here hx rfl (pc0 := 297) (pc' := 301) rfl (hb hby at_297) (by decide) (by decide) ?_
          show own_S p e below T170 m 301 #[iv xk, iv xa, iv xb, iv xc, rv a2, iv fr, iv to, iv oo, iv (own_bi bv), iv (own_bi bw), iv ss, rv a16, iv (own_K b0 b1 b2 kf), iv (own_K b0 b1 b2 (own_kt kf bb)), iv (own_K b0 b1 b2 (own_ko kf bb)), iv ei, own_lv pre3, .second, iv (-1 : Int32), iv pfo3, iv bls3, .unset, .unset, .unset, .unset, .unset] [(.int (1 : Int32))] _
          rw [show sos3 = (1 : Int32) from by rw [hsos3, if_neg hc175, if_pos hc176]] at kt
          exact kt
        · refine XS.ifYes X170.here hx rfl (pc0 := 293) (pc' := 300) rfl (hb hby at_293) rfl ((if0 _ _).trans (feq hc176).2) (by decide) (by decide) ?_
          show own_S p e below T170 m 300 #[iv xk, iv xa, iv xb, iv xc, rv a2, iv fr, iv to, iv oo, iv (own_bi bv), iv (own_bi bw), iv ss, rv a16, iv (own_K b0 b1 b2 kf), iv (own_K b0 b1 b2 (own_kt kf bb)), iv (own_K b0 b1 b2 (own_ko kf bb)), iv ei, own_lv pre3, .second, iv (-1 : Int32), iv pfo3, iv bls3, .unset, .unset, .unset, .unset, .unset] [] _
          refine XS.iconst X170.here hx rfl (hb hby at_300) ?_
          show own_S p e below T170 m 301 #[iv xk, iv xa, iv xb, iv xc, rv a2, iv fr, iv to, iv oo, iv (own_bi bv), iv (own_bi bw), iv ss, rv a16, iv (own_K b0 b1 b2 kf), iv (own_K b0 b1 b2 (own_kt kf bb)), iv (own_K b0 b1 b2 (own_ko kf bb)), iv ei, own_lv pre3, .second, iv (-1 : Int32), iv pfo3, iv bls3, .unset, .unset, .unset, .unset, .unset] [(.int (0 : Int32))] _
          rw [show sos3 = (0 : Int32) from by rw [hsos3, if_neg hc175, if_neg hc176]] at kt
          exact kt
    refine own_st sg177 ?_
    have sg178 : own_V p e below T170 (mkF m 311 #[iv xk, iv xa, iv xb, iv xc, rv a2, iv fr, iv to, iv oo, iv (own_bi bv), iv (own_bi bw), iv ss, rv a16, iv (own_K b0 b1 b2 kf), iv (own_K b0 b1 b2 (own_kt kf bb)), iv (own_K b0 b1 b2 (own_ko kf bb)), iv ei, own_lv pre3, .second, iv (-1 : Int32), iv pfo3, iv bls3, iv sos3, .unset, .unset, .unset, .unset] [(.int (own_bi bv)), (.int to), (.int fr), (.ref a16)]) (mkF m 301 #[iv xk, iv xa, iv xb, iv xc, rv a2, iv fr, iv to, iv oo, iv (own_bi bv), iv (own_bi bw), iv ss, rv a16, iv (own_K b0 b1 b2 kf), iv (own_K b0 b1 b2 (own_kt kf bb)), iv (own_K b0 b1 b2 (own_ko kf bb)), iv ei, own_lv pre3, .second, iv (-1 : Int32), iv pfo3, iv bls3, .unset, .unset, .unset, .unset, .unset] [(.int sos3)]) := by
      intro t kt
      refine XS.istore X170.here hx rfl (hb hby at_301) rfl (l' := #[iv xk, iv xa, iv xb, iv xc, rv a2, iv fr, iv to, iv oo, iv (own_bi bv), iv (own_bi bw), iv ss, rv a16, iv (own_K b0 b1 b2 kf), iv (own_K b0 b1 b2 (own_kt kf bb)), iv (own_K b0 b1 b2 (own_ko kf bb)), iv ei, own_lv pre3, .second, iv (-1 : Int32), iv pfo3, iv bls3, iv sos3, .unset, .unset, .unset, .unset]) rfl ?_
      show own_S p e below T170 m 303 #[iv xk, iv xa, iv xb, iv xc, rv a2, iv fr, iv to, iv oo, iv (own_bi bv), iv (own_bi bw), iv ss, rv a16, iv (own_K b0 b1 b2 kf), iv (own_K b0 b1 b2 (own_kt kf bb)), iv (own_K b0 b1 b2 (own_ko kf bb)), iv ei, own_lv pre3, .second, iv (-1 : Int32), iv pfo3, iv bls3, iv sos3, .unset, .unset, .unset, .unset] [] _
      refine XS.aload X170.here hx rfl (hb hby at_303) rfl rfl ?_
      show own_S p e below T170 m 305 #[iv xk, iv xa, iv xb, iv xc, rv a2, iv fr, iv to, iv oo, iv (own_bi bv), iv (own_bi bw), iv ss, rv a16, iv (own_K b0 b1 b2 kf), iv (own_K b0 b1 b2 (own_kt kf bb)), iv (own_K b0 b1 b2 (own_ko kf bb)), iv ei, own_lv pre3, .second, iv (-1 : Int32), iv pfo3, iv bls3, iv sos3, .unset, .unset, .unset, .unset] [(.ref a16)] _
      refine XS.iload X170.here hx rfl (hb hby at_305) rfl ?_
      show own_S p e below T170 m 307 #[iv xk, iv xa, iv xb, iv xc, rv a2, iv fr, iv to, iv oo, iv (own_bi bv), iv (own_bi bw), iv ss, rv a16, iv (own_K b0 b1 b2 kf), iv (own_K b0 b1 b2 (own_kt kf bb)), iv (own_K b0 b1 b2 (own_ko kf bb)), iv ei, own_lv pre3, .second, iv (-1 : Int32), iv pfo3, iv bls3, iv sos3, .unset, .unset, .unset, .unset] [(.int fr), (.ref a16)] _
      refine XS.iload X170.here hx rfl (hb hby at_307) rfl ?_
      show own_S p e below T170 m 309 #[iv xk, iv xa, iv xb, iv xc, rv a2, iv fr, iv to, iv oo, iv (own_bi bv), iv (own_bi bw), iv ss, rv a16, iv (own_K b0 b1 b2 kf), iv (own_K b0 b1 b2 (own_kt kf bb)), iv (own_K b0 b1 b2 (own_ko kf bb)), iv ei, own_lv pre3, .second, iv (-1 : Int32), iv pfo3, iv bls3, iv sos3, .unset, .unset, .unset, .unset] [(.int to), (.int fr), (.ref a16)] _
      refine XS.iload X170.here hx rfl (hb hby at_309) rfl ?_
      show own_S p e below T170 m 311 #[iv xk, iv xa, iv xb, iv xc, rv a2, iv fr, iv to, iv oo, iv (own_bi bv), iv (own_bi bw), iv ss, rv a16, iv (own_K b0 b1 b2 kf), iv (own_K b0 b1 b2 (own_kt kf bb)), iv (own_K b0 b1 b2 (own_ko kf bb)), iv ei, own_lv pre3, .second, iv (-1 : Int32), iv pfo3, iv bls3, iv sos3, .unset, .unset, .unset, .unset] [(.int (own_bi bv)), (.int to), (.int fr), (.ref a16)] _
      exact kt
    refine own_st sg178 ?_
    obtain ⟨_, T179, L179, X179, hQ179, st179⟩ := own_callV (y := (⟨"com/example/kingsround/kingsround/engine/Deliveries", "put", "(III)Z"⟩ : MethodName)) (y0 := (⟨"com/example/kingsround/kingsround/engine/Deliveries", "put", "(III)Z"⟩ : MethodName)) (a := a16) (C := "com/example/kingsround/kingsround/engine/Deliveries") X170 hx hZ hown HD170.1 (hw _ (List.mem_of_getElem? (i := 77) rfl)) (hw _ (List.mem_of_getElem? (i := 78) rfl)) (hw _ (List.mem_of_getElem? (i := 80) rfl)) (notFace_of_selects (args := #[]) (mvT hZ (hw _ (List.mem_of_getElem? (i := 80) rfl)))) (hw _ (List.mem_of_getElem? (i := 79) rfl)) (hw _ (List.mem_of_getElem? (i := 4) rfl)) (hw _ (List.mem_of_getElem? (i := 81) rfl)) (by decide) (own_rmput l Z a0 hw a16 fr to (own_bi bv) ib kp ta ob q r (own_K b0 b1 b2) (fun _ => -1) (own_pO (own_K b0 b1 b2) (fun _ => -1) (fun _ => 0) (fun _ _ => -1) kf (own_ko kf bb)) (own_pR (own_K b0 b1 b2) (fun _ => -1) (fun _ _ => -1) kf (own_ko kf bb) (own_bi bw)) (own_pc (own_K b0 b1 b2) (fun _ => -1) (fun _ _ => -1) kf (own_ko kf bb) 0) kf (own_kt kf bb) T170.heap n0 Z170 HA HD170 hkf hkt hf3 ht3) rfl (g := (mkF m 311 #[iv xk, iv xa, iv xb, iv xc, rv a2, iv fr, iv to, iv oo, iv (own_bi bv), iv (own_bi bw), iv ss, rv a16, iv (own_K b0 b1 b2 kf), iv (own_K b0 b1 b2 (own_kt kf bb)), iv (own_K b0 b1 b2 (own_ko kf bb)), iv ei, own_lv pre3, .second, iv (-1 : Int32), iv pfo3, iv bls3, iv sos3, .unset, .unset, .unset, .unset] [(.int (own_bi bv)), (.int to), (.int fr), (.ref a16)])) rfl (by rw [hml]; rfl) (argsL := [(.int fr), (.int to), (.int (own_bi bv))]) (rest := []) (lenOf own_pd7 rfl) rfl (W := 0) (by show 2 * 0 + _ ≤ _; exact Nat.le_of_eq rfl) (hb hby at_311) (by decide) (by decide) (by decide) (by decide)
    obtain ⟨rfl, Nq179, Sz179, HD179⟩ := hQ179
    refine own_st st179 ?_
    have Z179 : n0 ≤ T179.heap.size := Nat.le_trans Z170 Sz179
    have N179 := Fr.app N170 Nq179
    show own_Go p e below _ T179 (mkF m 314 #[iv xk, iv xa, iv xb, iv xc, rv a2, iv fr, iv to, iv oo, iv (own_bi bv), iv (own_bi bw), iv ss, rv a16, iv (own_K b0 b1 b2 kf), iv (own_K b0 b1 b2 (own_kt kf bb)), iv (own_K b0 b1 b2 (own_ko kf bb)), iv ei, own_lv pre3, .second, iv (-1 : Int32), iv pfo3, iv bls3, iv sos3, .unset, .unset, .unset, .unset] [(.int (own_pr (own_K b0 b1 b2) (fun _ => -1) (own_pR (own_K b0 b1 b2) (fun _ => -1) (fun _ _ => -1) kf (own_ko kf bb) (own_bi bw)) kf (own_kt kf bb)))])
    obtain ⟨pls3, hpls3⟩ : ∃ z : Int64, z = (if sos3 = (0 : Int32) then (0 : Int64) else (1 : Int64)) := ⟨_, rfl⟩
    have sg181 : own_V p e below T179 (mkF m 328 #[iv xk, iv xa, iv xb, iv xc, rv a2, iv fr, iv to, iv oo, iv (own_bi bv), iv (own_bi bw), iv ss, rv a16, iv (own_K b0 b1 b2 kf), iv (own_K b0 b1 b2 (own_kt kf bb)), iv (own_K b0 b1 b2 (own_ko kf bb)), iv ei, own_lv pre3, .second, iv (-1 : Int32), iv pfo3, iv bls3, iv sos3, iv (own_pr (own_K b0 b1 b2) (fun _ => -1) (own_pR (own_K b0 b1 b2) (fun _ => -1) (fun _ _ => -1) kf (own_ko kf bb) (own_bi bw)) kf (own_kt kf bb)), .unset, .unset, .unset] [(.long pls3), (.long pre3)]) (mkF m 314 #[iv xk, iv xa, iv xb, iv xc, rv a2, iv fr, iv to, iv oo, iv (own_bi bv), iv (own_bi bw), iv ss, rv a16, iv (own_K b0 b1 b2 kf), iv (own_K b0 b1 b2 (own_kt kf bb)), iv (own_K b0 b1 b2 (own_ko kf bb)), iv ei, own_lv pre3, .second, iv (-1 : Int32), iv pfo3, iv bls3, iv sos3, .unset, .unset, .unset, .unset] [(.int (own_pr (own_K b0 b1 b2) (fun _ => -1) (own_pR (own_K b0 b1 b2) (fun _ => -1) (fun _ _ => -1) kf (own_ko kf bb) (own_bi bw)) kf (own_kt kf bb)))]) := by
      intro t kt
      refine XS.istore X179.here hx rfl (hb hby at_314) rfl (l' := #[iv xk, iv xa, iv xb, iv xc, rv a2, iv fr, iv to, iv oo, iv (own_bi bv), iv (own_bi bw), iv ss, rv a16, iv (own_K b0 b1 b2 kf), iv (own_K b0 b1 b2 (own_kt kf bb)), iv (own_K b0 b1 b2 (own_ko kf bb)), iv ei, own_lv pre3, .second, iv (-1 : Int32), iv pfo3, iv bls3, iv sos3, iv (own_pr (own_K b0 b1 b2) (fun _ => -1) (own_pR (own_K b0 b1 b2) (fun _ => -1) (fun _ _ => -1) kf (own_ko kf bb) (own_bi bw)) kf (own_kt kf bb)), .unset, .unset, .unset]) rfl ?_
      show own_S p e below T179 m 316 #[iv xk, iv xa, iv xb, iv xc, rv a2, iv fr, iv to, iv oo, iv (own_bi bv), iv (own_bi bw), iv ss, rv a16, iv (own_K b0 b1 b2 kf), iv (own_K b0 b1 b2 (own_kt kf bb)), iv (own_K b0 b1 b2 (own_ko kf bb)), iv ei, own_lv pre3, .second, iv (-1 : Int32), iv pfo3, iv bls3, iv sos3, iv (own_pr (own_K b0 b1 b2) (fun _ => -1) (own_pR (own_K b0 b1 b2) (fun _ => -1) (fun _ _ => -1) kf (own_ko kf bb) (own_bi bw)) kf (own_kt kf bb)), .unset, .unset, .unset] [] _
      refine XS.lload X179.here hx rfl (hb hby at_316) rfl ?_
      show own_S p e below T179 m 318 #[iv xk, iv xa, iv xb, iv xc, rv a2, iv fr, iv to, iv oo, iv (own_bi bv), iv (own_bi bw), iv ss, rv a16, iv (own_K b0 b1 b2 kf), iv (own_K b0 b1 b2 (own_kt kf bb)), iv (own_K b0 b1 b2 (own_ko kf bb)), iv ei, own_lv pre3, .second, iv (-1 : Int32), iv pfo3, iv bls3, iv sos3, iv (own_pr (own_K b0 b1 b2) (fun _ => -1) (own_pR (own_K b0 b1 b2) (fun _ => -1) (fun _ _ => -1) kf (own_ko kf bb) (own_bi bw)) kf (own_kt kf bb)), .unset, .unset, .unset] [(.long pre3)] _
      refine XS.iload X179.here hx rfl (hb hby at_318) rfl ?_
      show own_S p e below T179 m 320 #[iv xk, iv xa, iv xb, iv xc, rv a2, iv fr, iv to, iv oo, iv (own_bi bv), iv (own_bi bw), iv ss, rv a16, iv (own_K b0 b1 b2 kf), iv (own_K b0 b1 b2 (own_kt kf bb)), iv (own_K b0 b1 b2 (own_ko kf bb)), iv ei, own_lv pre3, .second, iv (-1 : Int32), iv pfo3, iv bls3, iv sos3, iv (own_pr (own_K b0 b1 b2) (fun _ => -1) (own_pR (own_K b0 b1 b2) (fun _ => -1) (fun _ _ => -1) kf (own_ko kf bb) (own_bi bw)) kf (own_kt kf bb)), .unset, .unset, .unset] [(.int sos3), (.long pre3)] _
      by_cases hc180 : sos3 = (0 : Int32)
      · refine XS.ifYes X179.here hx rfl (pc0 := 320) (pc' := 327) rfl (hb hby at_320) rfl ((if0 _ _).trans (teq hc180).1) (by decide) (by decide) ?_
        show own_S p e below T179 m 327 #[iv xk, iv xa, iv xb, iv xc, rv a2, iv fr, iv to, iv oo, iv (own_bi bv), iv (own_bi bw), iv ss, rv a16, iv (own_K b0 b1 b2 kf), iv (own_K b0 b1 b2 (own_kt kf bb)), iv (own_K b0 b1 b2 (own_ko kf bb)), iv ei, own_lv pre3, .second, iv (-1 : Int32), iv pfo3, iv bls3, iv sos3, iv (own_pr (own_K b0 b1 b2) (fun _ => -1) (own_pR (own_K b0 b1 b2) (fun _ => -1) (fun _ _ => -1) kf (own_ko kf bb) (own_bi bw)) kf (own_kt kf bb)), .unset, .unset, .unset] [(.long pre3)] _
        refine XS.lconst X179.here hx rfl (hb hby at_327) ?_
        show own_S p e below T179 m 328 #[iv xk, iv xa, iv xb, iv xc, rv a2, iv fr, iv to, iv oo, iv (own_bi bv), iv (own_bi bw), iv ss, rv a16, iv (own_K b0 b1 b2 kf), iv (own_K b0 b1 b2 (own_kt kf bb)), iv (own_K b0 b1 b2 (own_ko kf bb)), iv ei, own_lv pre3, .second, iv (-1 : Int32), iv pfo3, iv bls3, iv sos3, iv (own_pr (own_K b0 b1 b2) (fun _ => -1) (own_pR (own_K b0 b1 b2) (fun _ => -1) (fun _ _ => -1) kf (own_ko kf bb) (own_bi bw)) kf (own_kt kf bb)), .unset, .unset, .unset] [(.long (0 : Int64)), (.long pre3)] _
        rw [show pls3 = (0 : Int64) from by rw [hpls3, if_pos hc180]] at kt
        exact kt
      · refine XS.ifNo X179.here hx rfl (hb hby at_320) rfl ((if0 _ _).trans (feq hc180).1) ?_
        show own_S p e below T179 m 323 #[iv xk, iv xa, iv xb, iv xc, rv a2, iv fr, iv to, iv oo, iv (own_bi bv), iv (own_bi bw), iv ss, rv a16, iv (own_K b0 b1 b2 kf), iv (own_K b0 b1 b2 (own_kt kf bb)), iv (own_K b0 b1 b2 (own_ko kf bb)), iv ei, own_lv pre3, .second, iv (-1 : Int32), iv pfo3, iv bls3, iv sos3, iv (own_pr (own_K b0 b1 b2) (fun _ => -1) (own_pR (own_K b0 b1 b2) (fun _ => -1) (fun _ _ => -1) kf (own_ko kf bb) (own_bi bw)) kf (own_kt kf bb)), .unset, .unset, .unset] [(.long pre3)] _
        refine XS.lconst X179.here hx rfl (hb hby at_323) ?_
        show own_S p e below T179 m 324 #[iv xk, iv xa, iv xb, iv xc, rv a2, iv fr, iv to, iv oo, iv (own_bi bv), iv (own_bi bw), iv ss, rv a16, iv (own_K b0 b1 b2 kf), iv (own_K b0 b1 b2 (own_kt kf bb)), iv (own_K b0 b1 b2 (own_ko kf bb)), iv ei, own_lv pre3, .second, iv (-1 : Int32), iv pfo3, iv bls3, iv sos3, iv (own_pr (own_K b0 b1 b2) (fun _ => -1) (own_pR (own_K b0 b1 b2) (fun _ => -1) (fun _ _ => -1) kf (own_ko kf bb) (own_bi bw)) kf (own_kt kf bb)), .unset, .unset, .unset] [(.long (1 : Int64)), (.long pre3)] _
        refine XS.goto X179.here hx rfl (pc0 := 324) (pc' := 328) rfl (hb hby at_324) (by decide) (by decide) ?_
        show own_S p e below T179 m 328 #[iv xk, iv xa, iv xb, iv xc, rv a2, iv fr, iv to, iv oo, iv (own_bi bv), iv (own_bi bw), iv ss, rv a16, iv (own_K b0 b1 b2 kf), iv (own_K b0 b1 b2 (own_kt kf bb)), iv (own_K b0 b1 b2 (own_ko kf bb)), iv ei, own_lv pre3, .second, iv (-1 : Int32), iv pfo3, iv bls3, iv sos3, iv (own_pr (own_K b0 b1 b2) (fun _ => -1) (own_pR (own_K b0 b1 b2) (fun _ => -1) (fun _ _ => -1) kf (own_ko kf bb) (own_bi bw)) kf (own_kt kf bb)), .unset, .unset, .unset] [(.long (1 : Int64)), (.long pre3)] _
        rw [show pls3 = (1 : Int64) from by rw [hpls3, if_neg hc180]] at kt
        exact kt
    refine own_st sg181 ?_
    obtain ⟨ecs3, hecs3⟩ : ∃ z : Int64, z = (pre3 + pls3) := ⟨_, rfl⟩
    obtain ⟨efts3, hefts3⟩ : ∃ z : Int32, z = (if sos3 = (0 : Int32) then (-1 : Int32) else (own_bi bv)) := ⟨_, rfl⟩
    have sg183 : own_V p e below T179 (mkF m 343 #[iv xk, iv xa, iv xb, iv xc, rv a2, iv fr, iv to, iv oo, iv (own_bi bv), iv (own_bi bw), iv ss, rv a16, iv (own_K b0 b1 b2 kf), iv (own_K b0 b1 b2 (own_kt kf bb)), iv (own_K b0 b1 b2 (own_ko kf bb)), iv ei, own_lv pre3, .second, iv (-1 : Int32), iv pfo3, iv bls3, iv sos3, iv (own_pr (own_K b0 b1 b2) (fun _ => -1) (own_pR (own_K b0 b1 b2) (fun _ => -1) (fun _ _ => -1) kf (own_ko kf bb) (own_bi bw)) kf (own_kt kf bb)), own_lv ecs3, .second, .unset] [(.int efts3)]) (mkF m 328 #[iv xk, iv xa, iv xb, iv xc, rv a2, iv fr, iv to, iv oo, iv (own_bi bv), iv (own_bi bw), iv ss, rv a16, iv (own_K b0 b1 b2 kf), iv (own_K b0 b1 b2 (own_kt kf bb)), iv (own_K b0 b1 b2 (own_ko kf bb)), iv ei, own_lv pre3, .second, iv (-1 : Int32), iv pfo3, iv bls3, iv sos3, iv (own_pr (own_K b0 b1 b2) (fun _ => -1) (own_pR (own_K b0 b1 b2) (fun _ => -1) (fun _ _ => -1) kf (own_ko kf bb) (own_bi bw)) kf (own_kt kf bb)), .unset, .unset, .unset] [(.long pls3), (.long pre3)]) := by
      intro t kt
      refine XS.ladd X179.here hx rfl (hb hby at_328) rfl ?_
      show own_S p e below T179 m 329 #[iv xk, iv xa, iv xb, iv xc, rv a2, iv fr, iv to, iv oo, iv (own_bi bv), iv (own_bi bw), iv ss, rv a16, iv (own_K b0 b1 b2 kf), iv (own_K b0 b1 b2 (own_kt kf bb)), iv (own_K b0 b1 b2 (own_ko kf bb)), iv ei, own_lv pre3, .second, iv (-1 : Int32), iv pfo3, iv bls3, iv sos3, iv (own_pr (own_K b0 b1 b2) (fun _ => -1) (own_pR (own_K b0 b1 b2) (fun _ => -1) (fun _ _ => -1) kf (own_ko kf bb) (own_bi bw)) kf (own_kt kf bb)), .unset, .unset, .unset] [(.long (pre3 + pls3))] _
      refine XS.lstore X179.here hx rfl (hb hby at_329) rfl (l' := #[iv xk, iv xa, iv xb, iv xc, rv a2, iv fr, iv to, iv oo, iv (own_bi bv), iv (own_bi bw), iv ss, rv a16, iv (own_K b0 b1 b2 kf), iv (own_K b0 b1 b2 (own_kt kf bb)), iv (own_K b0 b1 b2 (own_ko kf bb)), iv ei, own_lv pre3, .second, iv (-1 : Int32), iv pfo3, iv bls3, iv sos3, iv (own_pr (own_K b0 b1 b2) (fun _ => -1) (own_pR (own_K b0 b1 b2) (fun _ => -1) (fun _ _ => -1) kf (own_ko kf bb) (own_bi bw)) kf (own_kt kf bb)), own_lv (pre3 + pls3), .second, .unset]) rfl ?_
      show own_S p e below T179 m 331 #[iv xk, iv xa, iv xb, iv xc, rv a2, iv fr, iv to, iv oo, iv (own_bi bv), iv (own_bi bw), iv ss, rv a16, iv (own_K b0 b1 b2 kf), iv (own_K b0 b1 b2 (own_kt kf bb)), iv (own_K b0 b1 b2 (own_ko kf bb)), iv ei, own_lv pre3, .second, iv (-1 : Int32), iv pfo3, iv bls3, iv sos3, iv (own_pr (own_K b0 b1 b2) (fun _ => -1) (own_pR (own_K b0 b1 b2) (fun _ => -1) (fun _ _ => -1) kf (own_ko kf bb) (own_bi bw)) kf (own_kt kf bb)), own_lv (pre3 + pls3), .second, .unset] [] _
      refine XS.iload X179.here hx rfl (hb hby at_331) rfl ?_
      show own_S p e below T179 m 333 #[iv xk, iv xa, iv xb, iv xc, rv a2, iv fr, iv to, iv oo, iv (own_bi bv), iv (own_bi bw), iv ss, rv a16, iv (own_K b0 b1 b2 kf), iv (own_K b0 b1 b2 (own_kt kf bb)), iv (own_K b0 b1 b2 (own_ko kf bb)), iv ei, own_lv pre3, .second, iv (-1 : Int32), iv pfo3, iv bls3, iv sos3, iv (own_pr (own_K b0 b1 b2) (fun _ => -1) (own_pR (own_K b0 b1 b2) (fun _ => -1) (fun _ _ => -1) kf (own_ko kf bb) (own_bi bw)) kf (own_kt kf bb)), own_lv (pre3 + pls3), .second, .unset] [(.int sos3)] _
      by_cases hc182 : sos3 = (0 : Int32)
      · refine XS.ifYes X179.here hx rfl (pc0 := 333) (pc' := 341) rfl (hb hby at_333) rfl ((if0 _ _).trans (teq hc182).1) (by decide) (by decide) ?_
        show own_S p e below T179 m 341 #[iv xk, iv xa, iv xb, iv xc, rv a2, iv fr, iv to, iv oo, iv (own_bi bv), iv (own_bi bw), iv ss, rv a16, iv (own_K b0 b1 b2 kf), iv (own_K b0 b1 b2 (own_kt kf bb)), iv (own_K b0 b1 b2 (own_ko kf bb)), iv ei, own_lv pre3, .second, iv (-1 : Int32), iv pfo3, iv bls3, iv sos3, iv (own_pr (own_K b0 b1 b2) (fun _ => -1) (own_pR (own_K b0 b1 b2) (fun _ => -1) (fun _ _ => -1) kf (own_ko kf bb) (own_bi bw)) kf (own_kt kf bb)), own_lv (pre3 + pls3), .second, .unset] [] _
        refine XS.iload X179.here hx rfl (hb hby at_341) rfl ?_
        show own_S p e below T179 m 343 #[iv xk, iv xa, iv xb, iv xc, rv a2, iv fr, iv to, iv oo, iv (own_bi bv), iv (own_bi bw), iv ss, rv a16, iv (own_K b0 b1 b2 kf), iv (own_K b0 b1 b2 (own_kt kf bb)), iv (own_K b0 b1 b2 (own_ko kf bb)), iv ei, own_lv pre3, .second, iv (-1 : Int32), iv pfo3, iv bls3, iv sos3, iv (own_pr (own_K b0 b1 b2) (fun _ => -1) (own_pR (own_K b0 b1 b2) (fun _ => -1) (fun _ _ => -1) kf (own_ko kf bb) (own_bi bw)) kf (own_kt kf bb)), own_lv (pre3 + pls3), .second, .unset] [(.int (-1 : Int32))] _
        rw [hecs3] at kt
        rw [show efts3 = (-1 : Int32) from by rw [hefts3, if_pos hc182]] at kt
        exact kt
      · refine XS.ifNo X179.here hx rfl (hb hby at_333) rfl ((if0 _ _).trans (feq hc182).1) ?_
        show own_S p e below T179 m 336 #[iv xk, iv xa, iv xb, iv xc, rv a2, iv fr, iv to, iv oo, iv (own_bi bv), iv (own_bi bw), iv ss, rv a16, iv (own_K b0 b1 b2 kf), iv (own_K b0 b1 b2 (own_kt kf bb)), iv (own_K b0 b1 b2 (own_ko kf bb)), iv ei, own_lv pre3, .second, iv (-1 : Int32), iv pfo3, iv bls3, iv sos3, iv (own_pr (own_K b0 b1 b2) (fun _ => -1) (own_pR (own_K b0 b1 b2) (fun _ => -1) (fun _ _ => -1) kf (own_ko kf bb) (own_bi bw)) kf (own_kt kf bb)), own_lv (pre3 + pls3), .second, .unset] [] _
        refine XS.iload X179.here hx rfl (hb hby at_336) rfl ?_
        show own_S p e below T179 m 338 #[iv xk, iv xa, iv xb, iv xc, rv a2, iv fr, iv to, iv oo, iv (own_bi bv), iv (own_bi bw), iv ss, rv a16, iv (own_K b0 b1 b2 kf), iv (own_K b0 b1 b2 (own_kt kf bb)), iv (own_K b0 b1 b2 (own_ko kf bb)), iv ei, own_lv pre3, .second, iv (-1 : Int32), iv pfo3, iv bls3, iv sos3, iv (own_pr (own_K b0 b1 b2) (fun _ => -1) (own_pR (own_K b0 b1 b2) (fun _ => -1) (fun _ _ => -1) kf (own_ko kf bb) (own_bi bw)) kf (own_kt kf bb)), own_lv (pre3 + pls3), .second, .unset] [(.int (own_bi bv))] _
        refine XS.goto X179.here hx rfl (pc0 := 338) (pc' := 343) rfl (hb hby at_338) (by decide) (by decide) ?_
        show own_S p e below T179 m 343 #[iv xk, iv xa, iv xb, iv xc, rv a2, iv fr, iv to, iv oo, iv (own_bi bv), iv (own_bi bw), iv ss, rv a16, iv (own_K b0 b1 b2 kf), iv (own_K b0 b1 b2 (own_kt kf bb)), iv (own_K b0 b1 b2 (own_ko kf bb)), iv ei, own_lv pre3, .second, iv (-1 : Int32), iv pfo3, iv bls3, iv sos3, iv (own_pr (own_K b0 b1 b2) (fun _ => -1) (own_pR (own_K b0 b1 b2) (fun _ => -1) (fun _ _ => -1) kf (own_ko kf bb) (own_bi bw)) kf (own_kt kf bb)), own_lv (pre3 + pls3), .second, .unset] [(.int (own_bi bv))] _
        rw [hecs3] at kt
        rw [show efts3 = (own_bi bv) from by rw [hefts3, if_neg hc182]] at kt
        exact kt
    refine own_st sg183 ?_
    obtain ⟨nbs3, hnbs3⟩ : ∃ z : Int32, z = (if bls3 = (0 : Int32) then (1 : Int32) else (0 : Int32)) := ⟨_, rfl⟩
    have sg185 : own_V p e below T179 (mkF m 357 #[iv xk, iv xa, iv xb, iv xc, rv a2, iv fr, iv to, iv oo, iv (own_bi bv), iv (own_bi bw), iv ss, rv a16, iv (own_K b0 b1 b2 kf), iv (own_K b0 b1 b2 (own_kt kf bb)), iv (own_K b0 b1 b2 (own_ko kf bb)), iv ei, own_lv pre3, .second, iv (-1 : Int32), iv pfo3, iv bls3, iv sos3, iv (own_pr (own_K b0 b1 b2) (fun _ => -1) (own_pR (own_K b0 b1 b2) (fun _ => -1) (fun _ _ => -1) kf (own_ko kf bb) (own_bi bw)) kf (own_kt kf bb)), own_lv ecs3, .second, iv efts3] [(.int nbs3), (.int (own_pr (own_K b0 b1 b2) (fun _ => -1) (own_pR (own_K b0 b1 b2) (fun _ => -1) (fun _ _ => -1) kf (own_ko kf bb) (own_bi bw)) kf (own_kt kf bb)))]) (mkF m 343 #[iv xk, iv xa, iv xb, iv xc, rv a2, iv fr, iv to, iv oo, iv (own_bi bv), iv (own_bi bw), iv ss, rv a16, iv (own_K b0 b1 b2 kf), iv (own_K b0 b1 b2 (own_kt kf bb)), iv (own_K b0 b1 b2 (own_ko kf bb)), iv ei, own_lv pre3, .second, iv (-1 : Int32), iv pfo3, iv bls3, iv sos3, iv (own_pr (own_K b0 b1 b2) (fun _ => -1) (own_pR (own_K b0 b1 b2) (fun _ => -1) (fun _ _ => -1) kf (own_ko kf bb) (own_bi bw)) kf (own_kt kf bb)), own_lv ecs3, .second, .unset] [(.int efts3)]) := by
      intro t kt
      refine XS.istore X179.here hx rfl (hb hby at_343) rfl (l' := #[iv xk, iv xa, iv xb, iv xc, rv a2, iv fr, iv to, iv oo, iv (own_bi bv), iv (own_bi bw), iv ss, rv a16, iv (own_K b0 b1 b2 kf), iv (own_K b0 b1 b2 (own_kt kf bb)), iv (own_K b0 b1 b2 (own_ko kf bb)), iv ei, own_lv pre3, .second, iv (-1 : Int32), iv pfo3, iv bls3, iv sos3, iv (own_pr (own_K b0 b1 b2) (fun _ => -1) (own_pR (own_K b0 b1 b2) (fun _ => -1) (fun _ _ => -1) kf (own_ko kf bb) (own_bi bw)) kf (own_kt kf bb)), own_lv ecs3, .second, iv efts3]) rfl ?_
      show own_S p e below T179 m 345 #[iv xk, iv xa, iv xb, iv xc, rv a2, iv fr, iv to, iv oo, iv (own_bi bv), iv (own_bi bw), iv ss, rv a16, iv (own_K b0 b1 b2 kf), iv (own_K b0 b1 b2 (own_kt kf bb)), iv (own_K b0 b1 b2 (own_ko kf bb)), iv ei, own_lv pre3, .second, iv (-1 : Int32), iv pfo3, iv bls3, iv sos3, iv (own_pr (own_K b0 b1 b2) (fun _ => -1) (own_pR (own_K b0 b1 b2) (fun _ => -1) (fun _ _ => -1) kf (own_ko kf bb) (own_bi bw)) kf (own_kt kf bb)), own_lv ecs3, .second, iv efts3] [] _
      refine XS.iload X179.here hx rfl (hb hby at_345) rfl ?_
      show own_S p e below T179 m 347 #[iv xk, iv xa, iv xb, iv xc, rv a2, iv fr, iv to, iv oo, iv (own_bi bv), iv (own_bi bw), iv ss, rv a16, iv (own_K b0 b1 b2 kf), iv (own_K b0 b1 b2 (own_kt kf bb)), iv (own_K b0 b1 b2 (own_ko kf bb)), iv ei, own_lv pre3, .second, iv (-1 : Int32), iv pfo3, iv bls3, iv sos3, iv (own_pr (own_K b0 b1 b2) (fun _ => -1) (own_pR (own_K b0 b1 b2) (fun _ => -1) (fun _ _ => -1) kf (own_ko kf bb) (own_bi bw)) kf (own_kt kf bb)), own_lv ecs3, .second, iv efts3] [(.int (own_pr (own_K b0 b1 b2) (fun _ => -1) (own_pR (own_K b0 b1 b2) (fun _ => -1) (fun _ _ => -1) kf (own_ko kf bb) (own_bi bw)) kf (own_kt kf bb)))] _
      refine XS.iload X179.here hx rfl (hb hby at_347) rfl ?_
      show own_S p e below T179 m 349 #[iv xk, iv xa, iv xb, iv xc, rv a2, iv fr, iv to, iv oo, iv (own_bi bv), iv (own_bi bw), iv ss, rv a16, iv (own_K b0 b1 b2 kf), iv (own_K b0 b1 b2 (own_kt kf bb)), iv (own_K b0 b1 b2 (own_ko kf bb)), iv ei, own_lv pre3, .second, iv (-1 : Int32), iv pfo3, iv bls3, iv sos3, iv (own_pr (own_K b0 b1 b2) (fun _ => -1) (own_pR (own_K b0 b1 b2) (fun _ => -1) (fun _ _ => -1) kf (own_ko kf bb) (own_bi bw)) kf (own_kt kf bb)), own_lv ecs3, .second, iv efts3] [(.int bls3), (.int (own_pr (own_K b0 b1 b2) (fun _ => -1) (own_pR (own_K b0 b1 b2) (fun _ => -1) (fun _ _ => -1) kf (own_ko kf bb) (own_bi bw)) kf (own_kt kf bb)))] _
      by_cases hc184 : bls3 = (0 : Int32)
      · refine XS.ifNo X179.here hx rfl (hb hby at_349) rfl ((if0 _ _).trans (teq hc184).2) ?_
        show own_S p e below T179 m 352 #[iv xk, iv xa, iv xb, iv xc, rv a2, iv fr, iv to, iv oo, iv (own_bi bv), iv (own_bi bw), iv ss, rv a16, iv (own_K b0 b1 b2 kf), iv (own_K b0 b1 b2 (own_kt kf bb)), iv (own_K b0 b1 b2 (own_ko kf bb)), iv ei, own_lv pre3, .second, iv (-1 : Int32), iv pfo3, iv bls3, iv sos3, iv (own_pr (own_K b0 b1 b2) (fun _ => -1) (own_pR (own_K b0 b1 b2) (fun _ => -1) (fun _ _ => -1) kf (own_ko kf bb) (own_bi bw)) kf (own_kt kf bb)), own_lv ecs3, .second, iv efts3] [(.int (own_pr (own_K b0 b1 b2) (fun _ => -1) (own_pR (own_K b0 b1 b2) (fun _ => -1) (fun _ _ => -1) kf (own_ko kf bb) (own_bi bw)) kf (own_kt kf bb)))] _
        refine XS.iconst X179.here hx rfl (hb hby at_352) ?_
        show own_S p e below T179 m 353 #[iv xk, iv xa, iv xb, iv xc, rv a2, iv fr, iv to, iv oo, iv (own_bi bv), iv (own_bi bw), iv ss, rv a16, iv (own_K b0 b1 b2 kf), iv (own_K b0 b1 b2 (own_kt kf bb)), iv (own_K b0 b1 b2 (own_ko kf bb)), iv ei, own_lv pre3, .second, iv (-1 : Int32), iv pfo3, iv bls3, iv sos3, iv (own_pr (own_K b0 b1 b2) (fun _ => -1) (own_pR (own_K b0 b1 b2) (fun _ => -1) (fun _ _ => -1) kf (own_ko kf bb) (own_bi bw)) kf (own_kt kf bb)), own_lv ecs3, .second, iv efts3] [(.int (1 : Int32)), (.int (own_pr (own_K b0 b1 b2) (fun _ => -1) (own_pR (own_K b0 b1 b2) (fun _ => -1) (fun _ _ => -1) kf (own_ko kf bb) (own_bi bw)) kf (own_kt kf bb)))] _
        refine XS.goto X179.here hx rfl (pc0 := 353) (pc' := 357) rfl (hb hby at_353) (by decide) (by decide) ?_
        show own_S p e below T179 m 357 #[iv xk, iv xa, iv xb, iv xc, rv a2, iv fr, iv to, iv oo, iv (own_bi bv), iv (own_bi bw), iv ss, rv a16, iv (own_K b0 b1 b2 kf), iv (own_K b0 b1 b2 (own_kt kf bb)), iv (own_K b0 b1 b2 (own_ko kf bb)), iv ei, own_lv pre3, .second, iv (-1 : Int32), iv pfo3, iv bls3, iv sos3, iv (own_pr (own_K b0 b1 b2) (fun _ => -1) (own_pR (own_K b0 b1 b2) (fun _ => -1) (fun _ _ => -1) kf (own_ko kf bb) (own_bi bw)) kf (own_kt kf bb)), own_lv ecs3, .second, iv efts3] [(.int (1 : Int32)), (.int (own_pr (own_K b0 b1 b2) (fun _ => -1) (own_pR (own_K b0 b1 b2) (fun _ => -1) (fun _ _ => -1) kf (own_ko kf bb) (own_bi bw)) kf (own_kt kf bb)))] _
        rw [show nbs3 = (1 : Int32) from by rw [hnbs3, if_pos hc184]] at kt
        exact kt
      · refine XS.ifYes X179.here hx rfl (pc0 := 349) (pc' := 356) rfl (hb hby at_349) rfl ((if0 _ _).trans (feq hc184).2) (by decide) (by decide) ?_
        show own_S p e below T179 m 356 #[iv xk, iv xa, iv xb, iv xc, rv a2, iv fr, iv to, iv oo, iv (own_bi bv), iv (own_bi bw), iv ss, rv a16, iv (own_K b0 b1 b2 kf), iv (own_K b0 b1 b2 (own_kt kf bb)), iv (own_K b0 b1 b2 (own_ko kf bb)), iv ei, own_lv pre3, .second, iv (-1 : Int32), iv pfo3, iv bls3, iv sos3, iv (own_pr (own_K b0 b1 b2) (fun _ => -1) (own_pR (own_K b0 b1 b2) (fun _ => -1) (fun _ _ => -1) kf (own_ko kf bb) (own_bi bw)) kf (own_kt kf bb)), own_lv ecs3, .second, iv efts3] [(.int (own_pr (own_K b0 b1 b2) (fun _ => -1) (own_pR (own_K b0 b1 b2) (fun _ => -1) (fun _ _ => -1) kf (own_ko kf bb) (own_bi bw)) kf (own_kt kf bb)))] _
        refine XS.iconst X179.here hx rfl (hb hby at_356) ?_
        show own_S p e below T179 m 357 #[iv xk, iv xa, iv xb, iv xc, rv a2, iv fr, iv to, iv oo, iv (own_bi bv), iv (own_bi bw), iv ss, rv a16, iv (own_K b0 b1 b2 kf), iv (own_K b0 b1 b2 (own_kt kf bb)), iv (own_K b0 b1 b2 (own_ko kf bb)), iv ei, own_lv pre3, .second, iv (-1 : Int32), iv pfo3, iv bls3, iv sos3, iv (own_pr (own_K b0 b1 b2) (fun _ => -1) (own_pR (own_K b0 b1 b2) (fun _ => -1) (fun _ _ => -1) kf (own_ko kf bb) (own_bi bw)) kf (own_kt kf bb)), own_lv ecs3, .second, iv efts3] [(.int (0 : Int32)), (.int (own_pr (own_K b0 b1 b2) (fun _ => -1) (own_pR (own_K b0 b1 b2) (fun _ => -1) (fun _ _ => -1) kf (own_ko kf bb) (own_bi bw)) kf (own_kt kf bb)))] _
        rw [show nbs3 = (0 : Int32) from by rw [hnbs3, if_neg hc184]] at kt
        exact kt
    refine own_st sg185 ?_
    have FINs3 := own_fins3 b0 b1 b2 ⟨kf, hf3⟩ bb bv bw
    have hd_ei : ei = own_f_ei b0 b1 b2 kf bb bv bw := by subst hei; rfl
    have hd_pre3 : pre3 = own_f_pre3 b0 b1 b2 kf bb bv bw := by subst hpre3 hei; rfl
    have hd_pfo3 : pfo3 = own_f_pfo3 b0 b1 b2 kf bb bv bw := by subst hpfo3 hpre3 hei; rfl
    have hd_bls3 : bls3 = own_f_bls3 b0 b1 b2 kf bb bv bw := by subst hbls3 hpfo3 hpre3 hei; rfl
    have hd_sos3 : sos3 = own_f_sos3 b0 b1 b2 kf bb bv bw := by subst hsos3 hbls3 hpfo3 hpre3 hei; rfl
    have hd_pls3 : pls3 = own_f_pls3 b0 b1 b2 kf bb bv bw := by subst hpls3 hsos3 hbls3 hpfo3 hpre3 hei; rfl
    have hd_ecs3 : ecs3 = own_f_ecs3 b0 b1 b2 kf bb bv bw := by subst hecs3 hpls3 hsos3 hbls3 hpfo3 hpre3 hei; rfl
    have hd_efts3 : efts3 = own_f_efts3 b0 b1 b2 kf bb bv bw := by subst hefts3 hecs3 hpls3 hsos3 hbls3 hpfo3 hpre3 hei; rfl
    have hd_nbs3 : nbs3 = own_f_nbs3 b0 b1 b2 kf bb bv bw := by subst hnbs3 hefts3 hecs3 hpls3 hsos3 hbls3 hpfo3 hpre3 hei; rfl
    have hc186 : (own_pr (own_K b0 b1 b2) (fun _ => -1) (own_pR (own_K b0 b1 b2) (fun _ => -1) (fun _ _ => -1) kf (own_ko kf bb) (own_bi bw)) kf (own_kt kf bb)) = nbs3 := by rw [hd_nbs3]; exact FINs3.1
    have sg187 : own_V p e below T179 (mkF m 360 #[iv xk, iv xa, iv xb, iv xc, rv a2, iv fr, iv to, iv oo, iv (own_bi bv), iv (own_bi bw), iv ss, rv a16, iv (own_K b0 b1 b2 kf), iv (own_K b0 b1 b2 (own_kt kf bb)), iv (own_K b0 b1 b2 (own_ko kf bb)), iv ei, own_lv pre3, .second, iv (-1 : Int32), iv pfo3, iv bls3, iv sos3, iv (own_pr (own_K b0 b1 b2) (fun _ => -1) (own_pR (own_K b0 b1 b2) (fun _ => -1) (fun _ _ => -1) kf (own_ko kf bb) (own_bi bw)) kf (own_kt kf bb)), own_lv ecs3, .second, iv efts3] []) (mkF m 357 #[iv xk, iv xa, iv xb, iv xc, rv a2, iv fr, iv to, iv oo, iv (own_bi bv), iv (own_bi bw), iv ss, rv a16, iv (own_K b0 b1 b2 kf), iv (own_K b0 b1 b2 (own_kt kf bb)), iv (own_K b0 b1 b2 (own_ko kf bb)), iv ei, own_lv pre3, .second, iv (-1 : Int32), iv pfo3, iv bls3, iv sos3, iv (own_pr (own_K b0 b1 b2) (fun _ => -1) (own_pR (own_K b0 b1 b2) (fun _ => -1) (fun _ _ => -1) kf (own_ko kf bb) (own_bi bw)) kf (own_kt kf bb)), own_lv ecs3, .second, iv efts3] [(.int nbs3), (.int (own_pr (own_K b0 b1 b2) (fun _ => -1) (own_pR (own_K b0 b1 b2) (fun _ => -1) (fun _ _ => -1) kf (own_ko kf bb) (own_bi bw)) kf (own_kt kf bb)))]) := by
      intro t kt
      refine XS.icmpNo X179.here hx rfl (hb hby at_357) rfl (teq hc186).2 ?_
      exact kt
    refine own_st sg187 ?_
    obtain ⟨v188, hv188⟩ : ∃ z : Int32, z = (own_pr (own_K b0 b1 b2) (fun _ => -1) (own_pR (own_K b0 b1 b2) (fun _ => -1) (fun _ _ => -1) kf (own_ko kf bb) (own_bi bw)) kf (own_kt kf bb)) := ⟨_, rfl⟩
    have sg189 : own_V p e below T179 (mkF m 362 #[iv xk, iv xa, iv xb, iv xc, rv a2, iv fr, iv to, iv oo, iv (own_bi bv), iv (own_bi bw), iv ss, rv a16, iv (own_K b0 b1 b2 kf), iv (own_K b0 b1 b2 (own_kt kf bb)), iv (own_K b0 b1 b2 (own_ko kf bb)), iv ei, own_lv pre3, .second, iv (-1 : Int32), iv pfo3, iv bls3, iv sos3, iv v188, own_lv ecs3, .second, iv efts3] [(.ref a16)]) (mkF m 360 #[iv xk, iv xa, iv xb, iv xc, rv a2, iv fr, iv to, iv oo, iv (own_bi bv), iv (own_bi bw), iv ss, rv a16, iv (own_K b0 b1 b2 kf), iv (own_K b0 b1 b2 (own_kt kf bb)), iv (own_K b0 b1 b2 (own_ko kf bb)), iv ei, own_lv pre3, .second, iv (-1 : Int32), iv pfo3, iv bls3, iv sos3, iv (own_pr (own_K b0 b1 b2) (fun _ => -1) (own_pR (own_K b0 b1 b2) (fun _ => -1) (fun _ _ => -1) kf (own_ko kf bb) (own_bi bw)) kf (own_kt kf bb)), own_lv ecs3, .second, iv efts3] []) := by
      intro t kt
      refine XS.aload X179.here hx rfl (hb hby at_360) rfl rfl ?_
      show own_S p e below T179 m 362 #[iv xk, iv xa, iv xb, iv xc, rv a2, iv fr, iv to, iv oo, iv (own_bi bv), iv (own_bi bw), iv ss, rv a16, iv (own_K b0 b1 b2 kf), iv (own_K b0 b1 b2 (own_kt kf bb)), iv (own_K b0 b1 b2 (own_ko kf bb)), iv ei, own_lv pre3, .second, iv (-1 : Int32), iv pfo3, iv bls3, iv sos3, iv (own_pr (own_K b0 b1 b2) (fun _ => -1) (own_pR (own_K b0 b1 b2) (fun _ => -1) (fun _ _ => -1) kf (own_ko kf bb) (own_bi bw)) kf (own_kt kf bb)), own_lv ecs3, .second, iv efts3] [(.ref a16)] _
      rw [hv188] at kt
      exact kt
    refine own_st sg189 ?_
    obtain ⟨_, T190, L190, X190, hQ190, st190⟩ := own_callV (y := (⟨"com/example/kingsround/kingsround/engine/Deliveries", "count", "()J"⟩ : MethodName)) (y0 := (⟨"com/example/kingsround/kingsround/engine/Deliveries", "count", "()J"⟩ : MethodName)) (a := a16) (C := "com/example/kingsround/kingsround/engine/Deliveries") X179 hx hZ hown HD179.1 (hw _ (List.mem_of_getElem? (i := 82) rfl)) (hw _ (List.mem_of_getElem? (i := 83) rfl)) (hw _ (List.mem_of_getElem? (i := 85) rfl)) (notFace_of_selects (args := #[]) (mvT hZ (hw _ (List.mem_of_getElem? (i := 85) rfl)))) (hw _ (List.mem_of_getElem? (i := 84) rfl)) (hw _ (List.mem_of_getElem? (i := 4) rfl)) (hw _ (List.mem_of_getElem? (i := 86) rfl)) (by decide) (own_rmcnt l Z a0 hw a16  ib kp ta ob q r (own_K b0 b1 b2) (fun _ => -1) (own_pO (own_K b0 b1 b2) (fun _ => -1) (own_pO (own_K b0 b1 b2) (fun _ => -1) (fun _ => 0) (fun _ _ => -1) kf (own_ko kf bb)) (own_pR (own_K b0 b1 b2) (fun _ => -1) (fun _ _ => -1) kf (own_ko kf bb) (own_bi bw)) kf (own_kt kf bb)) (own_pR (own_K b0 b1 b2) (fun _ => -1) (own_pR (own_K b0 b1 b2) (fun _ => -1) (fun _ _ => -1) kf (own_ko kf bb) (own_bi bw)) kf (own_kt kf bb) (own_bi bv)) (own_pc (own_K b0 b1 b2) (fun _ => -1) (own_pR (own_K b0 b1 b2) (fun _ => -1) (fun _ _ => -1) kf (own_ko kf bb) (own_bi bw)) kf (own_kt kf bb) (own_pc (own_K b0 b1 b2) (fun _ => -1) (fun _ _ => -1) kf (own_ko kf bb) 0))  T179.heap n0 Z179 HA HD179 ) rfl (g := (mkF m 362 #[iv xk, iv xa, iv xb, iv xc, rv a2, iv fr, iv to, iv oo, iv (own_bi bv), iv (own_bi bw), iv ss, rv a16, iv (own_K b0 b1 b2 kf), iv (own_K b0 b1 b2 (own_kt kf bb)), iv (own_K b0 b1 b2 (own_ko kf bb)), iv ei, own_lv pre3, .second, iv (-1 : Int32), iv pfo3, iv bls3, iv sos3, iv v188, own_lv ecs3, .second, iv efts3] [(.ref a16)])) rfl (by rw [hml]; rfl) (argsL := []) (rest := []) (lenOf own_pd8 rfl) rfl (W := 0) (by show 2 * 0 + _ ≤ _; exact Nat.le_of_eq rfl) (hb hby at_362) (by decide) (by decide) (by decide) (by decide)
    obtain ⟨rfl, Nq190, e190⟩ := hQ190
    refine own_st st190 ?_
    have N190 := Fr.app N179 Nq190
    show own_Go p e below _ T190 (mkF m 365 #[iv xk, iv xa, iv xb, iv xc, rv a2, iv fr, iv to, iv oo, iv (own_bi bv), iv (own_bi bw), iv ss, rv a16, iv (own_K b0 b1 b2 kf), iv (own_K b0 b1 b2 (own_kt kf bb)), iv (own_K b0 b1 b2 (own_ko kf bb)), iv ei, own_lv pre3, .second, iv (-1 : Int32), iv pfo3, iv bls3, iv sos3, iv v188, own_lv ecs3, .second, iv efts3] [(.long (own_pc (own_K b0 b1 b2) (fun _ => -1) (own_pR (own_K b0 b1 b2) (fun _ => -1) (fun _ _ => -1) kf (own_ko kf bb) (own_bi bw)) kf (own_kt kf bb) (own_pc (own_K b0 b1 b2) (fun _ => -1) (fun _ _ => -1) kf (own_ko kf bb) 0)))])
    have sg191 : own_V p e below T190 (mkF m 368 #[iv xk, iv xa, iv xb, iv xc, rv a2, iv fr, iv to, iv oo, iv (own_bi bv), iv (own_bi bw), iv ss, rv a16, iv (own_K b0 b1 b2 kf), iv (own_K b0 b1 b2 (own_kt kf bb)), iv (own_K b0 b1 b2 (own_ko kf bb)), iv ei, own_lv pre3, .second, iv (-1 : Int32), iv pfo3, iv bls3, iv sos3, iv v188, own_lv ecs3, .second, iv efts3] [(.int (lcmpW (own_pc (own_K b0 b1 b2) (fun _ => -1) (own_pR (own_K b0 b1 b2) (fun _ => -1) (fun _ _ => -1) kf (own_ko kf bb) (own_bi bw)) kf (own_kt kf bb) (own_pc (own_K b0 b1 b2) (fun _ => -1) (fun _ _ => -1) kf (own_ko kf bb) 0)) ecs3))]) (mkF m 365 #[iv xk, iv xa, iv xb, iv xc, rv a2, iv fr, iv to, iv oo, iv (own_bi bv), iv (own_bi bw), iv ss, rv a16, iv (own_K b0 b1 b2 kf), iv (own_K b0 b1 b2 (own_kt kf bb)), iv (own_K b0 b1 b2 (own_ko kf bb)), iv ei, own_lv pre3, .second, iv (-1 : Int32), iv pfo3, iv bls3, iv sos3, iv v188, own_lv ecs3, .second, iv efts3] [(.long (own_pc (own_K b0 b1 b2) (fun _ => -1) (own_pR (own_K b0 b1 b2) (fun _ => -1) (fun _ _ => -1) kf (own_ko kf bb) (own_bi bw)) kf (own_kt kf bb) (own_pc (own_K b0 b1 b2) (fun _ => -1) (fun _ _ => -1) kf (own_ko kf bb) 0)))]) := by
      intro t kt
      refine XS.lload X190.here hx rfl (hb hby at_365) rfl ?_
      show own_S p e below T190 m 367 #[iv xk, iv xa, iv xb, iv xc, rv a2, iv fr, iv to, iv oo, iv (own_bi bv), iv (own_bi bw), iv ss, rv a16, iv (own_K b0 b1 b2 kf), iv (own_K b0 b1 b2 (own_kt kf bb)), iv (own_K b0 b1 b2 (own_ko kf bb)), iv ei, own_lv pre3, .second, iv (-1 : Int32), iv pfo3, iv bls3, iv sos3, iv v188, own_lv ecs3, .second, iv efts3] [(.long ecs3), (.long (own_pc (own_K b0 b1 b2) (fun _ => -1) (own_pR (own_K b0 b1 b2) (fun _ => -1) (fun _ _ => -1) kf (own_ko kf bb) (own_bi bw)) kf (own_kt kf bb) (own_pc (own_K b0 b1 b2) (fun _ => -1) (fun _ _ => -1) kf (own_ko kf bb) 0)))] _
      refine XS.lcmp X190.here hx rfl (hb hby at_367) rfl ?_
      show own_S p e below T190 m 368 #[iv xk, iv xa, iv xb, iv xc, rv a2, iv fr, iv to, iv oo, iv (own_bi bv), iv (own_bi bw), iv ss, rv a16, iv (own_K b0 b1 b2 kf), iv (own_K b0 b1 b2 (own_kt kf bb)), iv (own_K b0 b1 b2 (own_ko kf bb)), iv ei, own_lv pre3, .second, iv (-1 : Int32), iv pfo3, iv bls3, iv sos3, iv v188, own_lv ecs3, .second, iv efts3] [(.int (lcmpW (own_pc (own_K b0 b1 b2) (fun _ => -1) (own_pR (own_K b0 b1 b2) (fun _ => -1) (fun _ _ => -1) kf (own_ko kf bb) (own_bi bw)) kf (own_kt kf bb) (own_pc (own_K b0 b1 b2) (fun _ => -1) (fun _ _ => -1) kf (own_ko kf bb) 0)) ecs3))] _
      exact kt
    refine own_st sg191 ?_
    have hc192 : (own_pc (own_K b0 b1 b2) (fun _ => -1) (own_pR (own_K b0 b1 b2) (fun _ => -1) (fun _ _ => -1) kf (own_ko kf bb) (own_bi bw)) kf (own_kt kf bb) (own_pc (own_K b0 b1 b2) (fun _ => -1) (fun _ _ => -1) kf (own_ko kf bb) 0)) = ecs3 := by rw [hd_ecs3]; exact FINs3.2.1
    have sg193 : own_V p e below T190 (mkF m 371 #[iv xk, iv xa, iv xb, iv xc, rv a2, iv fr, iv to, iv oo, iv (own_bi bv), iv (own_bi bw), iv ss, rv a16, iv (own_K b0 b1 b2 kf), iv (own_K b0 b1 b2 (own_kt kf bb)), iv (own_K b0 b1 b2 (own_ko kf bb)), iv ei, own_lv pre3, .second, iv (-1 : Int32), iv pfo3, iv bls3, iv sos3, iv v188, own_lv ecs3, .second, iv efts3] []) (mkF m 368 #[iv xk, iv xa, iv xb, iv xc, rv a2, iv fr, iv to, iv oo, iv (own_bi bv), iv (own_bi bw), iv ss, rv a16, iv (own_K b0 b1 b2 kf), iv (own_K b0 b1 b2 (own_kt kf bb)), iv (own_K b0 b1 b2 (own_ko kf bb)), iv ei, own_lv pre3, .second, iv (-1 : Int32), iv pfo3, iv bls3, iv sos3, iv v188, own_lv ecs3, .second, iv efts3] [(.int (lcmpW (own_pc (own_K b0 b1 b2) (fun _ => -1) (own_pR (own_K b0 b1 b2) (fun _ => -1) (fun _ _ => -1) kf (own_ko kf bb) (own_bi bw)) kf (own_kt kf bb) (own_pc (own_K b0 b1 b2) (fun _ => -1) (fun _ _ => -1) kf (own_ko kf bb) 0)) ecs3))]) := by
      intro t kt
      refine XS.ifNo X190.here hx rfl (hb hby at_368) rfl (own_teqL hc192).2 ?_
      exact kt
    refine own_st sg193 ?_
    have sg194 : own_V p e below T190 (mkF m 377 #[iv xk, iv xa, iv xb, iv xc, rv a2, iv fr, iv to, iv oo, iv (own_bi bv), iv (own_bi bw), iv ss, rv a16, iv (own_K b0 b1 b2 kf), iv (own_K b0 b1 b2 (own_kt kf bb)), iv (own_K b0 b1 b2 (own_ko kf bb)), iv ei, own_lv pre3, .second, iv (-1 : Int32), iv pfo3, iv bls3, iv sos3, iv v188, own_lv ecs3, .second, iv efts3] [(.int to), (.int fr), (.ref a16)]) (mkF m 371 #[iv xk, iv xa, iv xb, iv xc, rv a2, iv fr, iv to, iv oo, iv (own_bi bv), iv (own_bi bw), iv ss, rv a16, iv (own_K b0 b1 b2 kf), iv (own_K b0 b1 b2 (own_kt kf bb)), iv (own_K b0 b1 b2 (own_ko kf bb)), iv ei, own_lv pre3, .second, iv (-1 : Int32), iv pfo3, iv bls3, iv sos3, iv v188, own_lv ecs3, .second, iv efts3] []) := by
      intro t kt
      refine XS.aload X190.here hx rfl (hb hby at_371) rfl rfl ?_
      show own_S p e below T190 m 373 #[iv xk, iv xa, iv xb, iv xc, rv a2, iv fr, iv to, iv oo, iv (own_bi bv), iv (own_bi bw), iv ss, rv a16, iv (own_K b0 b1 b2 kf), iv (own_K b0 b1 b2 (own_kt kf bb)), iv (own_K b0 b1 b2 (own_ko kf bb)), iv ei, own_lv pre3, .second, iv (-1 : Int32), iv pfo3, iv bls3, iv sos3, iv v188, own_lv ecs3, .second, iv efts3] [(.ref a16)] _
      refine XS.iload X190.here hx rfl (hb hby at_373) rfl ?_
      show own_S p e below T190 m 375 #[iv xk, iv xa, iv xb, iv xc, rv a2, iv fr, iv to, iv oo, iv (own_bi bv), iv (own_bi bw), iv ss, rv a16, iv (own_K b0 b1 b2 kf), iv (own_K b0 b1 b2 (own_kt kf bb)), iv (own_K b0 b1 b2 (own_ko kf bb)), iv ei, own_lv pre3, .second, iv (-1 : Int32), iv pfo3, iv bls3, iv sos3, iv v188, own_lv ecs3, .second, iv efts3] [(.int fr), (.ref a16)] _
      refine XS.iload X190.here hx rfl (hb hby at_375) rfl ?_
      show own_S p e below T190 m 377 #[iv xk, iv xa, iv xb, iv xc, rv a2, iv fr, iv to, iv oo, iv (own_bi bv), iv (own_bi bw), iv ss, rv a16, iv (own_K b0 b1 b2 kf), iv (own_K b0 b1 b2 (own_kt kf bb)), iv (own_K b0 b1 b2 (own_ko kf bb)), iv ei, own_lv pre3, .second, iv (-1 : Int32), iv pfo3, iv bls3, iv sos3, iv v188, own_lv ecs3, .second, iv efts3] [(.int to), (.int fr), (.ref a16)] _
      exact kt
    refine own_st sg194 ?_
    obtain ⟨_, T195, L195, X195, hQ195, st195⟩ := own_callV (y := (⟨"com/example/kingsround/kingsround/engine/Deliveries", "value", "(II)I"⟩ : MethodName)) (y0 := (⟨"com/example/kingsround/kingsround/engine/Deliveries", "value", "(II)I"⟩ : MethodName)) (a := a16) (C := "com/example/kingsround/kingsround/engine/Deliveries") X190 hx hZ hown HD179.1 (hw _ (List.mem_of_getElem? (i := 89) rfl)) (hw _ (List.mem_of_getElem? (i := 90) rfl)) (hw _ (List.mem_of_getElem? (i := 92) rfl)) (notFace_of_selects (args := #[]) (mvT hZ (hw _ (List.mem_of_getElem? (i := 92) rfl)))) (hw _ (List.mem_of_getElem? (i := 91) rfl)) (hw _ (List.mem_of_getElem? (i := 4) rfl)) (hw _ (List.mem_of_getElem? (i := 93) rfl)) (by decide) (own_rmval l Z a0 hw a16 fr to ib kp ta ob q r (own_K b0 b1 b2) (fun _ => -1) (own_pO (own_K b0 b1 b2) (fun _ => -1) (own_pO (own_K b0 b1 b2) (fun _ => -1) (fun _ => 0) (fun _ _ => -1) kf (own_ko kf bb)) (own_pR (own_K b0 b1 b2) (fun _ => -1) (fun _ _ => -1) kf (own_ko kf bb) (own_bi bw)) kf (own_kt kf bb)) (own_pR (own_K b0 b1 b2) (fun _ => -1) (own_pR (own_K b0 b1 b2) (fun _ => -1) (fun _ _ => -1) kf (own_ko kf bb) (own_bi bw)) kf (own_kt kf bb) (own_bi bv)) (own_pc (own_K b0 b1 b2) (fun _ => -1) (own_pR (own_K b0 b1 b2) (fun _ => -1) (fun _ _ => -1) kf (own_ko kf bb) (own_bi bw)) kf (own_kt kf bb) (own_pc (own_K b0 b1 b2) (fun _ => -1) (fun _ _ => -1) kf (own_ko kf bb) 0)) kf (own_kt kf bb) T179.heap n0 Z179 HA HD179 hkf hkt hf3 ht3) e190 (g := (mkF m 377 #[iv xk, iv xa, iv xb, iv xc, rv a2, iv fr, iv to, iv oo, iv (own_bi bv), iv (own_bi bw), iv ss, rv a16, iv (own_K b0 b1 b2 kf), iv (own_K b0 b1 b2 (own_kt kf bb)), iv (own_K b0 b1 b2 (own_ko kf bb)), iv ei, own_lv pre3, .second, iv (-1 : Int32), iv pfo3, iv bls3, iv sos3, iv v188, own_lv ecs3, .second, iv efts3] [(.int to), (.int fr), (.ref a16)])) rfl (by rw [hml]; rfl) (argsL := [(.int fr), (.int to)]) (rest := []) (lenOf own_pd9 rfl) rfl (W := 0) (by show 2 * 0 + _ ≤ _; exact Nat.le_of_eq rfl) (hb hby at_377) (by decide) (by decide) (by decide) (by decide)
    obtain ⟨rfl, Nq195, e195⟩ := hQ195
    refine own_st st195 ?_
    have N195 := Fr.app N190 Nq195
    show own_Go p e below _ T195 (mkF m 380 #[iv xk, iv xa, iv xb, iv xc, rv a2, iv fr, iv to, iv oo, iv (own_bi bv), iv (own_bi bw), iv ss, rv a16, iv (own_K b0 b1 b2 kf), iv (own_K b0 b1 b2 (own_kt kf bb)), iv (own_K b0 b1 b2 (own_ko kf bb)), iv ei, own_lv pre3, .second, iv (-1 : Int32), iv pfo3, iv bls3, iv sos3, iv v188, own_lv ecs3, .second, iv efts3] [(.int (own_val (fun _ => -1) (own_pR (own_K b0 b1 b2) (fun _ => -1) (own_pR (own_K b0 b1 b2) (fun _ => -1) (fun _ _ => -1) kf (own_ko kf bb) (own_bi bw)) kf (own_kt kf bb) (own_bi bv)) kf (own_kt kf bb)))])
    have sg196 : own_V p e below T195 (mkF m 382 #[iv xk, iv xa, iv xb, iv xc, rv a2, iv fr, iv to, iv oo, iv (own_bi bv), iv (own_bi bw), iv ss, rv a16, iv (own_K b0 b1 b2 kf), iv (own_K b0 b1 b2 (own_kt kf bb)), iv (own_K b0 b1 b2 (own_ko kf bb)), iv ei, own_lv pre3, .second, iv (-1 : Int32), iv pfo3, iv bls3, iv sos3, iv v188, own_lv ecs3, .second, iv efts3] [(.int efts3), (.int (own_val (fun _ => -1) (own_pR (own_K b0 b1 b2) (fun _ => -1) (own_pR (own_K b0 b1 b2) (fun _ => -1) (fun _ _ => -1) kf (own_ko kf bb) (own_bi bw)) kf (own_kt kf bb) (own_bi bv)) kf (own_kt kf bb)))]) (mkF m 380 #[iv xk, iv xa, iv xb, iv xc, rv a2, iv fr, iv to, iv oo, iv (own_bi bv), iv (own_bi bw), iv ss, rv a16, iv (own_K b0 b1 b2 kf), iv (own_K b0 b1 b2 (own_kt kf bb)), iv (own_K b0 b1 b2 (own_ko kf bb)), iv ei, own_lv pre3, .second, iv (-1 : Int32), iv pfo3, iv bls3, iv sos3, iv v188, own_lv ecs3, .second, iv efts3] [(.int (own_val (fun _ => -1) (own_pR (own_K b0 b1 b2) (fun _ => -1) (own_pR (own_K b0 b1 b2) (fun _ => -1) (fun _ _ => -1) kf (own_ko kf bb) (own_bi bw)) kf (own_kt kf bb) (own_bi bv)) kf (own_kt kf bb)))]) := by
      intro t kt
      refine XS.iload X195.here hx rfl (hb hby at_380) rfl ?_
      show own_S p e below T195 m 382 #[iv xk, iv xa, iv xb, iv xc, rv a2, iv fr, iv to, iv oo, iv (own_bi bv), iv (own_bi bw), iv ss, rv a16, iv (own_K b0 b1 b2 kf), iv (own_K b0 b1 b2 (own_kt kf bb)), iv (own_K b0 b1 b2 (own_ko kf bb)), iv ei, own_lv pre3, .second, iv (-1 : Int32), iv pfo3, iv bls3, iv sos3, iv v188, own_lv ecs3, .second, iv efts3] [(.int efts3), (.int (own_val (fun _ => -1) (own_pR (own_K b0 b1 b2) (fun _ => -1) (own_pR (own_K b0 b1 b2) (fun _ => -1) (fun _ _ => -1) kf (own_ko kf bb) (own_bi bw)) kf (own_kt kf bb) (own_bi bv)) kf (own_kt kf bb)))] _
      exact kt
    refine own_st sg196 ?_
    have hc197 : (own_val (fun _ => -1) (own_pR (own_K b0 b1 b2) (fun _ => -1) (own_pR (own_K b0 b1 b2) (fun _ => -1) (fun _ _ => -1) kf (own_ko kf bb) (own_bi bw)) kf (own_kt kf bb) (own_bi bv)) kf (own_kt kf bb)) = efts3 := by rw [hd_efts3]; exact FINs3.2.2.1
    have sg198 : own_V p e below T195 (mkF m 385 #[iv xk, iv xa, iv xb, iv xc, rv a2, iv fr, iv to, iv oo, iv (own_bi bv), iv (own_bi bw), iv ss, rv a16, iv (own_K b0 b1 b2 kf), iv (own_K b0 b1 b2 (own_kt kf bb)), iv (own_K b0 b1 b2 (own_ko kf bb)), iv ei, own_lv pre3, .second, iv (-1 : Int32), iv pfo3, iv bls3, iv sos3, iv v188, own_lv ecs3, .second, iv efts3] []) (mkF m 382 #[iv xk, iv xa, iv xb, iv xc, rv a2, iv fr, iv to, iv oo, iv (own_bi bv), iv (own_bi bw), iv ss, rv a16, iv (own_K b0 b1 b2 kf), iv (own_K b0 b1 b2 (own_kt kf bb)), iv (own_K b0 b1 b2 (own_ko kf bb)), iv ei, own_lv pre3, .second, iv (-1 : Int32), iv pfo3, iv bls3, iv sos3, iv v188, own_lv ecs3, .second, iv efts3] [(.int efts3), (.int (own_val (fun _ => -1) (own_pR (own_K b0 b1 b2) (fun _ => -1) (own_pR (own_K b0 b1 b2) (fun _ => -1) (fun _ _ => -1) kf (own_ko kf bb) (own_bi bw)) kf (own_kt kf bb) (own_bi bv)) kf (own_kt kf bb)))]) := by
      intro t kt
      refine XS.icmpNo X195.here hx rfl (hb hby at_382) rfl (teq hc197).2 ?_
      exact kt
    refine own_st sg198 ?_
    have sg199 : own_V p e below T195 (mkF m 391 #[iv xk, iv xa, iv xb, iv xc, rv a2, iv fr, iv to, iv oo, iv (own_bi bv), iv (own_bi bw), iv ss, rv a16, iv (own_K b0 b1 b2 kf), iv (own_K b0 b1 b2 (own_kt kf bb)), iv (own_K b0 b1 b2 (own_ko kf bb)), iv ei, own_lv pre3, .second, iv (-1 : Int32), iv pfo3, iv bls3, iv sos3, iv v188, own_lv ecs3, .second, iv efts3] [(.int oo), (.int fr), (.ref a16)]) (mkF m 385 #[iv xk, iv xa, iv xb, iv xc, rv a2, iv fr, iv to, iv oo, iv (own_bi bv), iv (own_bi bw), iv ss, rv a16, iv (own_K b0 b1 b2 kf), iv (own_K b0 b1 b2 (own_kt kf bb)), iv (own_K b0 b1 b2 (own_ko kf bb)), iv ei, own_lv pre3, .second, iv (-1 : Int32), iv pfo3, iv bls3, iv sos3, iv v188, own_lv ecs3, .second, iv efts3] []) := by
      intro t kt
      refine XS.aload X195.here hx rfl (hb hby at_385) rfl rfl ?_
      show own_S p e below T195 m 387 #[iv xk, iv xa, iv xb, iv xc, rv a2, iv fr, iv to, iv oo, iv (own_bi bv), iv (own_bi bw), iv ss, rv a16, iv (own_K b0 b1 b2 kf), iv (own_K b0 b1 b2 (own_kt kf bb)), iv (own_K b0 b1 b2 (own_ko kf bb)), iv ei, own_lv pre3, .second, iv (-1 : Int32), iv pfo3, iv bls3, iv sos3, iv v188, own_lv ecs3, .second, iv efts3] [(.ref a16)] _
      refine XS.iload X195.here hx rfl (hb hby at_387) rfl ?_
      show own_S p e below T195 m 389 #[iv xk, iv xa, iv xb, iv xc, rv a2, iv fr, iv to, iv oo, iv (own_bi bv), iv (own_bi bw), iv ss, rv a16, iv (own_K b0 b1 b2 kf), iv (own_K b0 b1 b2 (own_kt kf bb)), iv (own_K b0 b1 b2 (own_ko kf bb)), iv ei, own_lv pre3, .second, iv (-1 : Int32), iv pfo3, iv bls3, iv sos3, iv v188, own_lv ecs3, .second, iv efts3] [(.int fr), (.ref a16)] _
      refine XS.iload X195.here hx rfl (hb hby at_389) rfl ?_
      show own_S p e below T195 m 391 #[iv xk, iv xa, iv xb, iv xc, rv a2, iv fr, iv to, iv oo, iv (own_bi bv), iv (own_bi bw), iv ss, rv a16, iv (own_K b0 b1 b2 kf), iv (own_K b0 b1 b2 (own_kt kf bb)), iv (own_K b0 b1 b2 (own_ko kf bb)), iv ei, own_lv pre3, .second, iv (-1 : Int32), iv pfo3, iv bls3, iv sos3, iv v188, own_lv ecs3, .second, iv efts3] [(.int oo), (.int fr), (.ref a16)] _
      exact kt
    refine own_st sg199 ?_
    obtain ⟨_, T200, L200, X200, hQ200, st200⟩ := own_callV (y := (⟨"com/example/kingsround/kingsround/engine/Deliveries", "value", "(II)I"⟩ : MethodName)) (y0 := (⟨"com/example/kingsround/kingsround/engine/Deliveries", "value", "(II)I"⟩ : MethodName)) (a := a16) (C := "com/example/kingsround/kingsround/engine/Deliveries") X195 hx hZ hown HD179.1 (hw _ (List.mem_of_getElem? (i := 89) rfl)) (hw _ (List.mem_of_getElem? (i := 90) rfl)) (hw _ (List.mem_of_getElem? (i := 92) rfl)) (notFace_of_selects (args := #[]) (mvT hZ (hw _ (List.mem_of_getElem? (i := 92) rfl)))) (hw _ (List.mem_of_getElem? (i := 91) rfl)) (hw _ (List.mem_of_getElem? (i := 4) rfl)) (hw _ (List.mem_of_getElem? (i := 93) rfl)) (by decide) (own_rmval l Z a0 hw a16 fr oo ib kp ta ob q r (own_K b0 b1 b2) (fun _ => -1) (own_pO (own_K b0 b1 b2) (fun _ => -1) (own_pO (own_K b0 b1 b2) (fun _ => -1) (fun _ => 0) (fun _ _ => -1) kf (own_ko kf bb)) (own_pR (own_K b0 b1 b2) (fun _ => -1) (fun _ _ => -1) kf (own_ko kf bb) (own_bi bw)) kf (own_kt kf bb)) (own_pR (own_K b0 b1 b2) (fun _ => -1) (own_pR (own_K b0 b1 b2) (fun _ => -1) (fun _ _ => -1) kf (own_ko kf bb) (own_bi bw)) kf (own_kt kf bb) (own_bi bv)) (own_pc (own_K b0 b1 b2) (fun _ => -1) (own_pR (own_K b0 b1 b2) (fun _ => -1) (fun _ _ => -1) kf (own_ko kf bb) (own_bi bw)) kf (own_kt kf bb) (own_pc (own_K b0 b1 b2) (fun _ => -1) (fun _ _ => -1) kf (own_ko kf bb) 0)) kf (own_ko kf bb) T179.heap n0 Z179 HA HD179 hkf hko hf3 ho3) e195 (g := (mkF m 391 #[iv xk, iv xa, iv xb, iv xc, rv a2, iv fr, iv to, iv oo, iv (own_bi bv), iv (own_bi bw), iv ss, rv a16, iv (own_K b0 b1 b2 kf), iv (own_K b0 b1 b2 (own_kt kf bb)), iv (own_K b0 b1 b2 (own_ko kf bb)), iv ei, own_lv pre3, .second, iv (-1 : Int32), iv pfo3, iv bls3, iv sos3, iv v188, own_lv ecs3, .second, iv efts3] [(.int oo), (.int fr), (.ref a16)])) rfl (by rw [hml]; rfl) (argsL := [(.int fr), (.int oo)]) (rest := []) (lenOf own_pd9 rfl) rfl (W := 0) (by show 2 * 0 + _ ≤ _; exact Nat.le_of_eq rfl) (hb hby at_391) (by decide) (by decide) (by decide) (by decide)
    obtain ⟨rfl, Nq200, e200⟩ := hQ200
    refine own_st st200 ?_
    have N200 := Fr.app N195 Nq200
    show own_Go p e below _ T200 (mkF m 394 #[iv xk, iv xa, iv xb, iv xc, rv a2, iv fr, iv to, iv oo, iv (own_bi bv), iv (own_bi bw), iv ss, rv a16, iv (own_K b0 b1 b2 kf), iv (own_K b0 b1 b2 (own_kt kf bb)), iv (own_K b0 b1 b2 (own_ko kf bb)), iv ei, own_lv pre3, .second, iv (-1 : Int32), iv pfo3, iv bls3, iv sos3, iv v188, own_lv ecs3, .second, iv efts3] [(.int (own_val (fun _ => -1) (own_pR (own_K b0 b1 b2) (fun _ => -1) (own_pR (own_K b0 b1 b2) (fun _ => -1) (fun _ _ => -1) kf (own_ko kf bb) (own_bi bw)) kf (own_kt kf bb) (own_bi bv)) kf (own_ko kf bb)))])
    have sg201 : own_V p e below T200 (mkF m 396 #[iv xk, iv xa, iv xb, iv xc, rv a2, iv fr, iv to, iv oo, iv (own_bi bv), iv (own_bi bw), iv ss, rv a16, iv (own_K b0 b1 b2 kf), iv (own_K b0 b1 b2 (own_kt kf bb)), iv (own_K b0 b1 b2 (own_ko kf bb)), iv ei, own_lv pre3, .second, iv (-1 : Int32), iv pfo3, iv bls3, iv sos3, iv v188, own_lv ecs3, .second, iv efts3] [(.int pfo3), (.int (own_val (fun _ => -1) (own_pR (own_K b0 b1 b2) (fun _ => -1) (own_pR (own_K b0 b1 b2) (fun _ => -1) (fun _ _ => -1) kf (own_ko kf bb) (own_bi bw)) kf (own_kt kf bb) (own_bi bv)) kf (own_ko kf bb)))]) (mkF m 394 #[iv xk, iv xa, iv xb, iv xc, rv a2, iv fr, iv to, iv oo, iv (own_bi bv), iv (own_bi bw), iv ss, rv a16, iv (own_K b0 b1 b2 kf), iv (own_K b0 b1 b2 (own_kt kf bb)), iv (own_K b0 b1 b2 (own_ko kf bb)), iv ei, own_lv pre3, .second, iv (-1 : Int32), iv pfo3, iv bls3, iv sos3, iv v188, own_lv ecs3, .second, iv efts3] [(.int (own_val (fun _ => -1) (own_pR (own_K b0 b1 b2) (fun _ => -1) (own_pR (own_K b0 b1 b2) (fun _ => -1) (fun _ _ => -1) kf (own_ko kf bb) (own_bi bw)) kf (own_kt kf bb) (own_bi bv)) kf (own_ko kf bb)))]) := by
      intro t kt
      refine XS.iload X200.here hx rfl (hb hby at_394) rfl ?_
      show own_S p e below T200 m 396 #[iv xk, iv xa, iv xb, iv xc, rv a2, iv fr, iv to, iv oo, iv (own_bi bv), iv (own_bi bw), iv ss, rv a16, iv (own_K b0 b1 b2 kf), iv (own_K b0 b1 b2 (own_kt kf bb)), iv (own_K b0 b1 b2 (own_ko kf bb)), iv ei, own_lv pre3, .second, iv (-1 : Int32), iv pfo3, iv bls3, iv sos3, iv v188, own_lv ecs3, .second, iv efts3] [(.int pfo3), (.int (own_val (fun _ => -1) (own_pR (own_K b0 b1 b2) (fun _ => -1) (own_pR (own_K b0 b1 b2) (fun _ => -1) (fun _ _ => -1) kf (own_ko kf bb) (own_bi bw)) kf (own_kt kf bb) (own_bi bv)) kf (own_ko kf bb)))] _
      exact kt
    refine own_st sg201 ?_
    have hc202 : (own_val (fun _ => -1) (own_pR (own_K b0 b1 b2) (fun _ => -1) (own_pR (own_K b0 b1 b2) (fun _ => -1) (fun _ _ => -1) kf (own_ko kf bb) (own_bi bw)) kf (own_kt kf bb) (own_bi bv)) kf (own_ko kf bb)) = pfo3 := by rw [hd_pfo3]; exact FINs3.2.2.2.1
    have sg203 : own_V p e below T200 (mkF m 399 #[iv xk, iv xa, iv xb, iv xc, rv a2, iv fr, iv to, iv oo, iv (own_bi bv), iv (own_bi bw), iv ss, rv a16, iv (own_K b0 b1 b2 kf), iv (own_K b0 b1 b2 (own_kt kf bb)), iv (own_K b0 b1 b2 (own_ko kf bb)), iv ei, own_lv pre3, .second, iv (-1 : Int32), iv pfo3, iv bls3, iv sos3, iv v188, own_lv ecs3, .second, iv efts3] []) (mkF m 396 #[iv xk, iv xa, iv xb, iv xc, rv a2, iv fr, iv to, iv oo, iv (own_bi bv), iv (own_bi bw), iv ss, rv a16, iv (own_K b0 b1 b2 kf), iv (own_K b0 b1 b2 (own_kt kf bb)), iv (own_K b0 b1 b2 (own_ko kf bb)), iv ei, own_lv pre3, .second, iv (-1 : Int32), iv pfo3, iv bls3, iv sos3, iv v188, own_lv ecs3, .second, iv efts3] [(.int pfo3), (.int (own_val (fun _ => -1) (own_pR (own_K b0 b1 b2) (fun _ => -1) (own_pR (own_K b0 b1 b2) (fun _ => -1) (fun _ _ => -1) kf (own_ko kf bb) (own_bi bw)) kf (own_kt kf bb) (own_bi bv)) kf (own_ko kf bb)))]) := by
      intro t kt
      refine XS.icmpNo X200.here hx rfl (hb hby at_396) rfl (teq hc202).2 ?_
      exact kt
    refine own_st sg203 ?_
    have sg204 : own_V p e below T200 (mkF m 405 #[iv xk, iv xa, iv xb, iv xc, rv a2, iv fr, iv to, iv oo, iv (own_bi bv), iv (own_bi bw), iv ss, rv a16, iv (own_K b0 b1 b2 kf), iv (own_K b0 b1 b2 (own_kt kf bb)), iv (own_K b0 b1 b2 (own_ko kf bb)), iv ei, own_lv pre3, .second, iv (-1 : Int32), iv pfo3, iv bls3, iv sos3, iv v188, own_lv ecs3, .second, iv efts3] [(.int fr), (.int to), (.ref a16)]) (mkF m 399 #[iv xk, iv xa, iv xb, iv xc, rv a2, iv fr, iv to, iv oo, iv (own_bi bv), iv (own_bi bw), iv ss, rv a16, iv (own_K b0 b1 b2 kf), iv (own_K b0 b1 b2 (own_kt kf bb)), iv (own_K b0 b1 b2 (own_ko kf bb)), iv ei, own_lv pre3, .second, iv (-1 : Int32), iv pfo3, iv bls3, iv sos3, iv v188, own_lv ecs3, .second, iv efts3] []) := by
      intro t kt
      refine XS.aload X200.here hx rfl (hb hby at_399) rfl rfl ?_
      show own_S p e below T200 m 401 #[iv xk, iv xa, iv xb, iv xc, rv a2, iv fr, iv to, iv oo, iv (own_bi bv), iv (own_bi bw), iv ss, rv a16, iv (own_K b0 b1 b2 kf), iv (own_K b0 b1 b2 (own_kt kf bb)), iv (own_K b0 b1 b2 (own_ko kf bb)), iv ei, own_lv pre3, .second, iv (-1 : Int32), iv pfo3, iv bls3, iv sos3, iv v188, own_lv ecs3, .second, iv efts3] [(.ref a16)] _
      refine XS.iload X200.here hx rfl (hb hby at_401) rfl ?_
      show own_S p e below T200 m 403 #[iv xk, iv xa, iv xb, iv xc, rv a2, iv fr, iv to, iv oo, iv (own_bi bv), iv (own_bi bw), iv ss, rv a16, iv (own_K b0 b1 b2 kf), iv (own_K b0 b1 b2 (own_kt kf bb)), iv (own_K b0 b1 b2 (own_ko kf bb)), iv ei, own_lv pre3, .second, iv (-1 : Int32), iv pfo3, iv bls3, iv sos3, iv v188, own_lv ecs3, .second, iv efts3] [(.int to), (.ref a16)] _
      refine XS.iload X200.here hx rfl (hb hby at_403) rfl ?_
      show own_S p e below T200 m 405 #[iv xk, iv xa, iv xb, iv xc, rv a2, iv fr, iv to, iv oo, iv (own_bi bv), iv (own_bi bw), iv ss, rv a16, iv (own_K b0 b1 b2 kf), iv (own_K b0 b1 b2 (own_kt kf bb)), iv (own_K b0 b1 b2 (own_ko kf bb)), iv ei, own_lv pre3, .second, iv (-1 : Int32), iv pfo3, iv bls3, iv sos3, iv v188, own_lv ecs3, .second, iv efts3] [(.int fr), (.int to), (.ref a16)] _
      exact kt
    refine own_st sg204 ?_
    obtain ⟨_, T205, L205, X205, hQ205, st205⟩ := own_callV (y := (⟨"com/example/kingsround/kingsround/engine/Deliveries", "value", "(II)I"⟩ : MethodName)) (y0 := (⟨"com/example/kingsround/kingsround/engine/Deliveries", "value", "(II)I"⟩ : MethodName)) (a := a16) (C := "com/example/kingsround/kingsround/engine/Deliveries") X200 hx hZ hown HD179.1 (hw _ (List.mem_of_getElem? (i := 89) rfl)) (hw _ (List.mem_of_getElem? (i := 90) rfl)) (hw _ (List.mem_of_getElem? (i := 92) rfl)) (notFace_of_selects (args := #[]) (mvT hZ (hw _ (List.mem_of_getElem? (i := 92) rfl)))) (hw _ (List.mem_of_getElem? (i := 91) rfl)) (hw _ (List.mem_of_getElem? (i := 4) rfl)) (hw _ (List.mem_of_getElem? (i := 93) rfl)) (by decide) (own_rmval l Z a0 hw a16 to fr ib kp ta ob q r (own_K b0 b1 b2) (fun _ => -1) (own_pO (own_K b0 b1 b2) (fun _ => -1) (own_pO (own_K b0 b1 b2) (fun _ => -1) (fun _ => 0) (fun _ _ => -1) kf (own_ko kf bb)) (own_pR (own_K b0 b1 b2) (fun _ => -1) (fun _ _ => -1) kf (own_ko kf bb) (own_bi bw)) kf (own_kt kf bb)) (own_pR (own_K b0 b1 b2) (fun _ => -1) (own_pR (own_K b0 b1 b2) (fun _ => -1) (fun _ _ => -1) kf (own_ko kf bb) (own_bi bw)) kf (own_kt kf bb) (own_bi bv)) (own_pc (own_K b0 b1 b2) (fun _ => -1) (own_pR (own_K b0 b1 b2) (fun _ => -1) (fun _ _ => -1) kf (own_ko kf bb) (own_bi bw)) kf (own_kt kf bb) (own_pc (own_K b0 b1 b2) (fun _ => -1) (fun _ _ => -1) kf (own_ko kf bb) 0)) (own_kt kf bb) kf T179.heap n0 Z179 HA HD179 hkt hkf ht3 hf3) e200 (g := (mkF m 405 #[iv xk, iv xa, iv xb, iv xc, rv a2, iv fr, iv to, iv oo, iv (own_bi bv), iv (own_bi bw), iv ss, rv a16, iv (own_K b0 b1 b2 kf), iv (own_K b0 b1 b2 (own_kt kf bb)), iv (own_K b0 b1 b2 (own_ko kf bb)), iv ei, own_lv pre3, .second, iv (-1 : Int32), iv pfo3, iv bls3, iv sos3, iv v188, own_lv ecs3, .second, iv efts3] [(.int fr), (.int to), (.ref a16)])) rfl (by rw [hml]; rfl) (argsL := [(.int to), (.int fr)]) (rest := []) (lenOf own_pd9 rfl) rfl (W := 0) (by show 2 * 0 + _ ≤ _; exact Nat.le_of_eq rfl) (hb hby at_405) (by decide) (by decide) (by decide) (by decide)
    obtain ⟨rfl, Nq205, e205⟩ := hQ205
    refine own_st st205 ?_
    have N205 := Fr.app N200 Nq205
    show own_Go p e below _ T205 (mkF m 408 #[iv xk, iv xa, iv xb, iv xc, rv a2, iv fr, iv to, iv oo, iv (own_bi bv), iv (own_bi bw), iv ss, rv a16, iv (own_K b0 b1 b2 kf), iv (own_K b0 b1 b2 (own_kt kf bb)), iv (own_K b0 b1 b2 (own_ko kf bb)), iv ei, own_lv pre3, .second, iv (-1 : Int32), iv pfo3, iv bls3, iv sos3, iv v188, own_lv ecs3, .second, iv efts3] [(.int (own_val (fun _ => -1) (own_pR (own_K b0 b1 b2) (fun _ => -1) (own_pR (own_K b0 b1 b2) (fun _ => -1) (fun _ _ => -1) kf (own_ko kf bb) (own_bi bw)) kf (own_kt kf bb) (own_bi bv)) (own_kt kf bb) kf))])
    have sg206 : own_V p e below T205 (mkF m 409 #[iv xk, iv xa, iv xb, iv xc, rv a2, iv fr, iv to, iv oo, iv (own_bi bv), iv (own_bi bw), iv ss, rv a16, iv (own_K b0 b1 b2 kf), iv (own_K b0 b1 b2 (own_kt kf bb)), iv (own_K b0 b1 b2 (own_ko kf bb)), iv ei, own_lv pre3, .second, iv (-1 : Int32), iv pfo3, iv bls3, iv sos3, iv v188, own_lv ecs3, .second, iv efts3] [(.int (-1 : Int32)), (.int (own_val (fun _ => -1) (own_pR (own_K b0 b1 b2) (fun _ => -1) (own_pR (own_K b0 b1 b2) (fun _ => -1) (fun _ _ => -1) kf (own_ko kf bb) (own_bi bw)) kf (own_kt kf bb) (own_bi bv)) (own_kt kf bb) kf))]) (mkF m 408 #[iv xk, iv xa, iv xb, iv xc, rv a2, iv fr, iv to, iv oo, iv (own_bi bv), iv (own_bi bw), iv ss, rv a16, iv (own_K b0 b1 b2 kf), iv (own_K b0 b1 b2 (own_kt kf bb)), iv (own_K b0 b1 b2 (own_ko kf bb)), iv ei, own_lv pre3, .second, iv (-1 : Int32), iv pfo3, iv bls3, iv sos3, iv v188, own_lv ecs3, .second, iv efts3] [(.int (own_val (fun _ => -1) (own_pR (own_K b0 b1 b2) (fun _ => -1) (own_pR (own_K b0 b1 b2) (fun _ => -1) (fun _ _ => -1) kf (own_ko kf bb) (own_bi bw)) kf (own_kt kf bb) (own_bi bv)) (own_kt kf bb) kf))]) := by
      intro t kt
      refine XS.iconst X205.here hx rfl (hb hby at_408) ?_
      show own_S p e below T205 m 409 #[iv xk, iv xa, iv xb, iv xc, rv a2, iv fr, iv to, iv oo, iv (own_bi bv), iv (own_bi bw), iv ss, rv a16, iv (own_K b0 b1 b2 kf), iv (own_K b0 b1 b2 (own_kt kf bb)), iv (own_K b0 b1 b2 (own_ko kf bb)), iv ei, own_lv pre3, .second, iv (-1 : Int32), iv pfo3, iv bls3, iv sos3, iv v188, own_lv ecs3, .second, iv efts3] [(.int (-1 : Int32)), (.int (own_val (fun _ => -1) (own_pR (own_K b0 b1 b2) (fun _ => -1) (own_pR (own_K b0 b1 b2) (fun _ => -1) (fun _ _ => -1) kf (own_ko kf bb) (own_bi bw)) kf (own_kt kf bb) (own_bi bv)) (own_kt kf bb) kf))] _
      exact kt
    refine own_st sg206 ?_
    have hc207 : (own_val (fun _ => -1) (own_pR (own_K b0 b1 b2) (fun _ => -1) (own_pR (own_K b0 b1 b2) (fun _ => -1) (fun _ _ => -1) kf (own_ko kf bb) (own_bi bw)) kf (own_kt kf bb) (own_bi bv)) (own_kt kf bb) kf) = (-1 : Int32) := FINs3.2.2.2.2.1
    have sg208 : own_V p e below T205 (mkF m 412 #[iv xk, iv xa, iv xb, iv xc, rv a2, iv fr, iv to, iv oo, iv (own_bi bv), iv (own_bi bw), iv ss, rv a16, iv (own_K b0 b1 b2 kf), iv (own_K b0 b1 b2 (own_kt kf bb)), iv (own_K b0 b1 b2 (own_ko kf bb)), iv ei, own_lv pre3, .second, iv (-1 : Int32), iv pfo3, iv bls3, iv sos3, iv v188, own_lv ecs3, .second, iv efts3] []) (mkF m 409 #[iv xk, iv xa, iv xb, iv xc, rv a2, iv fr, iv to, iv oo, iv (own_bi bv), iv (own_bi bw), iv ss, rv a16, iv (own_K b0 b1 b2 kf), iv (own_K b0 b1 b2 (own_kt kf bb)), iv (own_K b0 b1 b2 (own_ko kf bb)), iv ei, own_lv pre3, .second, iv (-1 : Int32), iv pfo3, iv bls3, iv sos3, iv v188, own_lv ecs3, .second, iv efts3] [(.int (-1 : Int32)), (.int (own_val (fun _ => -1) (own_pR (own_K b0 b1 b2) (fun _ => -1) (own_pR (own_K b0 b1 b2) (fun _ => -1) (fun _ _ => -1) kf (own_ko kf bb) (own_bi bw)) kf (own_kt kf bb) (own_bi bv)) (own_kt kf bb) kf))]) := by
      intro t kt
      refine XS.icmpNo X205.here hx rfl (hb hby at_409) rfl (teq hc207).2 ?_
      exact kt
    refine own_st sg208 ?_
    have sg209 : own_V p e below T205 (mkF m 417 #[iv xk, iv xa, iv xb, iv xc, rv a2, iv fr, iv to, iv oo, iv (own_bi bv), iv (own_bi bw), iv ss, rv a16, iv (own_K b0 b1 b2 kf), iv (own_K b0 b1 b2 (own_kt kf bb)), iv (own_K b0 b1 b2 (own_ko kf bb)), iv ei, own_lv pre3, .second, iv (-1 : Int32), iv pfo3, iv bls3, iv sos3, iv v188, own_lv ecs3, .second, iv efts3] [(.int (1 : Int32))]) (mkF m 412 #[iv xk, iv xa, iv xb, iv xc, rv a2, iv fr, iv to, iv oo, iv (own_bi bv), iv (own_bi bw), iv ss, rv a16, iv (own_K b0 b1 b2 kf), iv (own_K b0 b1 b2 (own_kt kf bb)), iv (own_K b0 b1 b2 (own_ko kf bb)), iv ei, own_lv pre3, .second, iv (-1 : Int32), iv pfo3, iv bls3, iv sos3, iv v188, own_lv ecs3, .second, iv efts3] []) := by
      intro t kt
      refine XS.iconst X205.here hx rfl (hb hby at_412) ?_
      show own_S p e below T205 m 413 #[iv xk, iv xa, iv xb, iv xc, rv a2, iv fr, iv to, iv oo, iv (own_bi bv), iv (own_bi bw), iv ss, rv a16, iv (own_K b0 b1 b2 kf), iv (own_K b0 b1 b2 (own_kt kf bb)), iv (own_K b0 b1 b2 (own_ko kf bb)), iv ei, own_lv pre3, .second, iv (-1 : Int32), iv pfo3, iv bls3, iv sos3, iv v188, own_lv ecs3, .second, iv efts3] [(.int (1 : Int32))] _
      refine XS.goto X205.here hx rfl (pc0 := 413) (pc' := 417) rfl (hb hby at_413) (by decide) (by decide) ?_
      show own_S p e below T205 m 417 #[iv xk, iv xa, iv xb, iv xc, rv a2, iv fr, iv to, iv oo, iv (own_bi bv), iv (own_bi bw), iv ss, rv a16, iv (own_K b0 b1 b2 kf), iv (own_K b0 b1 b2 (own_kt kf bb)), iv (own_K b0 b1 b2 (own_ko kf bb)), iv ei, own_lv pre3, .second, iv (-1 : Int32), iv pfo3, iv bls3, iv sos3, iv v188, own_lv ecs3, .second, iv efts3] [(.int (1 : Int32))] _
      exact kt
    refine own_st sg209 ?_
    exact own_retZ X205 hx Bd.notSynchronized Bd.returns (hb hby at_417) (by decide) (by decide) (by decide) e205 ⟨rfl, N205⟩
set_option maxRecDepth 65536 in
set_option maxHeartbeats 40000000 in
theorem comes_1 {Post : Tables → Env → Array Value → State → Outcome → State → Prop} (hpost : ∀ tb e args s v u, (limb_1_1.after args s (.returned v) u = true ∧ limb_1_2.after args s (.returned v) u = true ∧ True) → FrameEnd s (.returned v) u (Jvm.fieldLocs frame_1_writes args s ++ Jvm.arrayLocs frame_1_arrays args s ++ Jvm.staticLocs frame_1_statics s) 40 192 → Post tb e args s (.returned v) u) :
    ArmFor flags0 classFile x code maxLocals ret World_1 tables_1 room_1 Calls_1 rest_1 Pre_1 Post := by
  intro l hfl _ _ p e ha hc hk s m args below hf hA hF happ hP
  obtain ⟨hcalls, hrest, hpre⟩ := hP
  obtain ⟨-, -, -, hnamed, -, -, -, hat⟩ := (Spec.applies_iff hf).mp happ
  obtain ⟨hg, hn⟩ := and_e (Cond.before_iff.mp (show (Jvm.Cond.and given_1 narrow_1).before args s = true from hpre))
  obtain ⟨g1, g2⟩ := and_e hg
  obtain ⟨g3, g4⟩ := and_e g2
  obtain ⟨g5, g6⟩ := and_e g4
  obtain ⟨g7, g8⟩ := and_e g6
  obtain ⟨w0, w1, w2, w3, rfl⟩ : ∃ w0 w1 w2 w3 : Value, args = #[w0, w1, w2, w3] := by
    have hs : args.size = 4 := by simpa [Cond.value, given_1] using g1
    obtain ⟨L⟩ := args
    match L, hs with
    | [w0, w1, w2, w3], _ => exact ⟨w0, w1, w2, w3, rfl⟩
  have hw := fun d (hd : d ∈ tables_1) => atoms_spec (ws := Jvm.Cond.code x code maxLocals ret :: tables_1) hat d (List.mem_cons_of_mem _ hd)
  have hfit : Fit s := fun {y c} hc i hi => by
    obtain ⟨ha, rfl⟩ := Array.getElem?_eq_some_iff.mp hc
    have q := List.all_eq_true.mp ((Array.all_eq_true_iff_forall_mem.mp hF) _ (Array.getElem_mem ha)) i (List.mem_range.mpr hi)
    simpa [Array.getElem?_eq_getElem hi] using q
  obtain ⟨i0, ei0⟩ := is_v g3
  obtain rfl : w0 = (.int i0) := Option.some.inj ei0
  obtain ⟨i1, ei1⟩ := is_v g5
  obtain rfl : w1 = (.int i1) := Option.some.inj ei1
  obtain ⟨i2, ei2⟩ := is_v g7
  obtain rfl : w2 = (.int i2) := Option.some.inj ei2
  obtain ⟨i3, ei3⟩ := is_v g8
  obtain rfl : w3 = (.int i3) := Option.some.inj ei3
  obtain ⟨n, o, h1, h2, h3, _, L, rfl, ⟨rfl, N⟩, hq⟩ := own_rmlaw l s _ hw i0 i1 i2 i3 s.heap s.heap.size (Nat.le_refl _) p e ha hc hk s m _ below hf ((Spec.applies_iff_loose hf).mp happ).1 ⟨rfl, State.Warmed39.refl s, rfl⟩ trivial
  refine ⟨n, _, h1, h2, h3, hpost _ _ _ _ _ _ ⟨Cond.after_iff.mpr rfl, Cond.after_iff.mpr (eq_i res_at (Term.int_eval (1)) rfl), trivial⟩ ⟨hq.1, hq.2.1, (hq.2.2.sift fun y hy => Or.inr (N y hy)).mono (by decide) (by decide)⟩⟩
theorem main_1_1 : Claimed_1_1 := comes_1 fun _ _ _ _ _ _ h hF => ⟨h.1, hF⟩
theorem main_1_2 : Claimed_1_2 := comes_1 fun _ _ _ _ _ _ h hF => ⟨h.2.1, hF⟩
end Jvm.Pilot.@@N@@
namespace Jvm.Pilot.@@N@@
open Jvm Jvm.ClassFile Sem Op Lib Jvm.Free Jvm.Stand Jvm.Pilot.@@N@@.Jvm.D
/-! MADE BY PROGRAM (witnessworld.py) out of the Statement's table words and the real class files: 20 classes; the members and pool entries that the words name. The judged class is class 1, her method 1. -/
namespace start1
open Jvm.ClassFile
def u (s : String) : CpInfo := .utf8 (stringToUtf16 s)
/-- a pool by its gaps: so many unusable entries, then the entry; so many at the end -/
def gap : Nat → List CpInfo → List CpInfo
  | 0, r => r
  | n + 1, r => .unusable :: gap n r
def poolList (es : List (Nat × CpInfo)) (last : Nat) : List CpInfo := es.foldr (fun e r => gap e.1 (e.2 :: r)) (gap last [])
def pool (es : List (Nat × CpInfo)) (last : Nat) : Array CpInfo := ⟨poolList es last⟩
def fileOf (pool : Array CpInfo) (this : Nat) (attrs : Array Attribute := #[]) (ms : Array MethodInfo := #[]) (fl : Nat := 33) (sup : Nat := 0) (ifs : Array Nat := #[]) (fds : Array FieldInfo := #[]) : ClassFile where
  minorVersion := 0
  majorVersion := 65
  constantPool := pool
  accessFlags := fl
  thisClass := this
  superClass := sup
  interfaces := ifs
  fields := fds
  methods := ms
  attributes := attrs
def plain (name : String) (sup : Option ClassId) : Class where
  name := name
  kind := .ordinary
  loader := none
  accessFlags := 33
  super := sup
  interfaces := #[]
  cf := none
  fields := #[]
  methods := #[]
  instanceTypes := #[]
  staticTypes := #[]
  resolved := #[]
  callSites := []
  init := .initialized
  statics := none
  mirror := none

def pool0 : Array CpInfo := pool [(5, u "<init>"), (0, u "()V"), (1, .class_ 10), (1, u "java/lang/Object"), (85, u "clone"), (0, u "()Ljava/lang/Object;")] 26

def k0c0 : Code := { maxStack := 0, maxLocals := 1, code := object_method_1_code, exceptionTable := #[], attributes := #[] }
def k0m0 : Method := { name := "<init>", desc := "()V", sig := { parameters := [], returnType := none }, accessFlags := 1, code := some k0c0 }
def k0m1 : Method := { name := "clone", desc := "()Ljava/lang/Object;", sig := { parameters := [], returnType := some (.object "java/lang/Object") }, accessFlags := 260, code := none }
/-- java/lang/Object -/
def k0 : Class := { plain "java/lang/Object" none with
  accessFlags := 33
  interfaces := #[]
  cf := some (fileOf pool0 8 #[] #[{ accessFlags := 1, nameIndex := 5, descriptorIndex := 6, attributes := #[] }, { accessFlags := 260, nameIndex := 96, descriptorIndex := 97, attributes := #[] }] 33 0 #[] #[])
  fields := #[]
  methods := #[k0m0, k0m1]
  instanceTypes := #[]
  staticTypes := #[]
  resolved := Array.replicate 124 none
  statics := none }

def pool1 : Array CpInfo := pool [(2, .class_ 4), (1, u "java/lang/Object"), (0, u "<init>"), (0, u "()V"), (0, .integer 2147483647), (0, .class_ 9), (0, u "com/example/kingsround/kingsround/engine/Deliveries"), (0, .methodref 8 11), (0, .nameAndType 5 12), (0, u "([Z)V"), (0, .methodref 8 14), (0, .nameAndType 15 16), (0, u "put"), (0, u "(III)Z"), (0, .methodref 8 18), (0, .nameAndType 19 20), (0, u "putToAll"), (0, u "(II)Z"), (0, .long 2), (1, .methodref 8 24), (0, .nameAndType 25 26), (0, u "count"), (0, u "()J"), (0, .methodref 8 28), (0, .nameAndType 29 30), (0, u "value"), (0, u "(II)I"), (0, .class_ 32), (0, u "com/example/kingsround/kingsround/engine/DeliveriesPutPinLaw"), (2, u "law"), (0, u "(IIII)Z")] 5

def k1m0 : Method := { name := "<init>", desc := "()V", sig := { parameters := [], returnType := none }, accessFlags := 1, code := none }
def k1c1 : Code := { maxStack := 4, maxLocals := 26, code := code, exceptionTable := #[], attributes := #[] }
def k1m1 : Method := { name := "law", desc := "(IIII)Z", sig := { parameters := [.int, .int, .int, .int], returnType := some .boolean }, accessFlags := 9, code := some k1c1 }
/-- com/example/kingsround/kingsround/engine/DeliveriesPutPinLaw -/
def k1 : Class := { plain "com/example/kingsround/kingsround/engine/DeliveriesPutPinLaw" (some 0) with
  accessFlags := 49
  interfaces := #[]
  cf := some (fileOf pool1 31 #[] #[{ accessFlags := 1, nameIndex := 5, descriptorIndex := 6, attributes := #[] }, { accessFlags := 9, nameIndex := 35, descriptorIndex := 36, attributes := #[] }] 49 2 #[] #[])
  fields := #[]
  methods := #[k1m0, k1m1]
  instanceTypes := #[]
  staticTypes := #[]
  resolved := Array.replicate 42 none
  statics := none }

def pool2 : Array CpInfo := pool [(1, .class_ 2), (0, u "com/example/kingsround/kingsround/engine/Round"), (0, .class_ 4), (0, u "java/lang/Object")] 20

/-- com/example/kingsround/kingsround/engine/Round -/
def k2 : Class := { plain "com/example/kingsround/kingsround/engine/Round" (some 0) with
  accessFlags := 1536
  interfaces := #[]
  cf := some (fileOf pool2 1 #[] #[] 1536 3 #[] #[])
  fields := #[]
  methods := #[]
  instanceTypes := #[]
  staticTypes := #[]
  resolved := Array.replicate 25 none
  statics := none }

def pool3 : Array CpInfo := pool [(2, .class_ 4), (1, u "com/example/kingsround/kingsround/engine/Deliveries"), (4, u "<init>"), (0, u "([Z)V"), (0, .methodref 12 13), (0, .class_ 14), (0, .nameAndType 9 15), (0, u "java/lang/Object"), (0, u "()V"), (0, .class_ 17), (0, u "com/example/kingsround/kingsround/engine/Deliveries$Delivered"), (0, .fieldref 2 19), (0, .nameAndType 20 21), (0, u "inboxes"), (0, u "[Lcom/example/kingsround/kingsround/engine/Deliveries$Delivered;"), (0, .methodref 16 23), (0, .nameAndType 9 24), (0, u "(Lcom/example/kingsround/kingsround/engine/Deliveries;II)V"), (0, .methodref 26 27), (0, .class_ 28), (0, .nameAndType 29 30), (0, u "[Z"), (0, u "clone"), (0, u "()Ljava/lang/Object;"), (0, .fieldref 2 32), (0, .nameAndType 33 28), (0, u "kept"), (0, .methodref 2 35), (0, .nameAndType 36 37), (0, u "keptParties"), (0, u "([Z)[I"), (0, .fieldref 2 39), (0, .nameAndType 36 40), (0, u "[I"), (0, .fieldref 2 42), (0, .nameAndType 43 44), (0, u "toAll"), (0, u "[B"), (2, .methodref 48 49), (0, .class_ 50), (0, .nameAndType 51 52), (0, u "java/util/Arrays"), (0, u "fill"), (0, u "([BB)V"), (0, .fieldref 2 54), (0, .nameAndType 55 28), (0, u "oneByOne"), (0, .class_ 57), (0, u "com/example/kingsround/kingsround/engine/CheckedOutbox"), (0, .class_ 59), (0, u "com/example/kingsround/kingsround/engine/Deliveries$1"), (0, .methodref 58 61), (0, .nameAndType 9 62), (0, u "(Lcom/example/kingsround/kingsround/engine/Deliveries;)V"), (0, .methodref 56 64), (0, .nameAndType 9 65), (0, u "(ILcom/example/kingsround/kingsround/engine/CheckedOutbox$Sink;)V"), (0, .fieldref 2 67), (0, .nameAndType 68 69), (0, u "outbox"), (0, u "Lcom/example/kingsround/kingsround/engine/CheckedOutbox;"), (0, .fieldref 16 71), (0, .nameAndType 72 44), (0, u "received"), (3, .fieldref 2 77), (0, .nameAndType 78 79), (0, u "count"), (0, u "J"), (0, .methodref 16 81), (0, .nameAndType 82 83), (0, u "value"), (0, u "(I)I"), (2, u "(II)I"), (10, .class_ 98), (0, u "com/example/kingsround/kingsround/engine/Round"), (9, u "()J"), (7, u "put"), (0, u "(III)Z"), (0, u "putToAll"), (0, u "(II)Z")] 11

def k3c0 : Code := { maxStack := 7, maxLocals := 4, code := prog_65_method_2_code, exceptionTable := #[], attributes := #[] }
def k3m0 : Method := { name := "<init>", desc := "([Z)V", sig := { parameters := [(.array .boolean)], returnType := none }, accessFlags := 0, code := some k3c0 }
def k3c1 : Code := { maxStack := 2, maxLocals := 1, code := prog_65_method_4_code, exceptionTable := #[], attributes := #[] }
def k3m1 : Method := { name := "count", desc := "()J", sig := { parameters := [], returnType := some .long }, accessFlags := 1, code := some k3c1 }
def k3c2 : Code := { maxStack := 3, maxLocals := 3, code := prog_65_method_5_code, exceptionTable := #[], attributes := #[] }
def k3m2 : Method := { name := "value", desc := "(II)I", sig := { parameters := [.int, .int], returnType := some .int }, accessFlags := 1, code := some k3c2 }
def k3c3 : Code := { maxStack := 5, maxLocals := 5, code := prog_65_method_9_code, exceptionTable := #[], attributes := #[] }
def k3m3 : Method := { name := "put", desc := "(III)Z", sig := { parameters := [.int, .int, .int], returnType := some .boolean }, accessFlags := 0, code := some k3c3 }
def k3c4 : Code := { maxStack := 5, maxLocals := 3, code := prog_65_method_10_code, exceptionTable := #[], attributes := #[] }
def k3m4 : Method := { name := "putToAll", desc := "(II)Z", sig := { parameters := [.int, .int], returnType := some .boolean }, accessFlags := 0, code := some k3c4 }
def k3c5 : Code := { maxStack := 3, maxLocals := 6, code := prog_65_method_13_code, exceptionTable := #[], attributes := #[] }
def k3m5 : Method := { name := "keptParties", desc := "([Z)[I", sig := { parameters := [(.array .boolean)], returnType := some (.array .int) }, accessFlags := 10, code := some k3c5 }
/-- com/example/kingsround/kingsround/engine/Deliveries -/
def k3 : Class := { plain "com/example/kingsround/kingsround/engine/Deliveries" (some 0) with
  accessFlags := 48
  interfaces := #[2]
  cf := some (fileOf pool3 2 #[.nestMembers #[16, 58]] #[{ accessFlags := 0, nameIndex := 9, descriptorIndex := 10, attributes := #[] }, { accessFlags := 1, nameIndex := 78, descriptorIndex := 108, attributes := #[] }, { accessFlags := 1, nameIndex := 82, descriptorIndex := 86, attributes := #[] }, { accessFlags := 0, nameIndex := 116, descriptorIndex := 117, attributes := #[] }, { accessFlags := 0, nameIndex := 118, descriptorIndex := 119, attributes := #[] }, { accessFlags := 10, nameIndex := 36, descriptorIndex := 37, attributes := #[] }] 48 12 #[97] #[{ accessFlags := 18, nameIndex := 20, descriptorIndex := 21, attributes := #[] }, { accessFlags := 18, nameIndex := 33, descriptorIndex := 28, attributes := #[] }, { accessFlags := 18, nameIndex := 36, descriptorIndex := 40, attributes := #[] }, { accessFlags := 18, nameIndex := 43, descriptorIndex := 44, attributes := #[] }, { accessFlags := 18, nameIndex := 55, descriptorIndex := 28, attributes := #[] }, { accessFlags := 2, nameIndex := 78, descriptorIndex := 79, attributes := #[] }, { accessFlags := 18, nameIndex := 68, descriptorIndex := 69, attributes := #[] }])
  fields := #[{ name := "inboxes", type := (.array (.object "com/example/kingsround/kingsround/engine/Deliveries$Delivered")), accessFlags := 18, slot := 0, constantValue := 0 }, { name := "kept", type := (.array .boolean), accessFlags := 18, slot := 1, constantValue := 0 }, { name := "keptParties", type := (.array .int), accessFlags := 18, slot := 2, constantValue := 0 }, { name := "toAll", type := (.array .byte), accessFlags := 18, slot := 3, constantValue := 0 }, { name := "oneByOne", type := (.array .boolean), accessFlags := 18, slot := 4, constantValue := 0 }, { name := "count", type := .long, accessFlags := 2, slot := 5, constantValue := 0 }, { name := "outbox", type := (.object "com/example/kingsround/kingsround/engine/CheckedOutbox"), accessFlags := 18, slot := 6, constantValue := 0 }]
  methods := #[k3m0, k3m1, k3m2, k3m3, k3m4, k3m5]
  instanceTypes := #[(.array (.object "com/example/kingsround/kingsround/engine/Deliveries$Delivered")), (.array .boolean), (.array .int), (.array .byte), (.array .boolean), .long, (.object "com/example/kingsround/kingsround/engine/CheckedOutbox")]
  staticTypes := #[]
  resolved := (Array.replicate 131 none).set! 70 (some (.field 5 1))
  statics := none }

def pool4 : Array CpInfo := pool [(1, .class_ 2), (0, u "com/example/kingsround/kingsround/engine/Inbox"), (0, .class_ 4), (0, u "java/lang/Object"), (0, u "NONE"), (0, u "I"), (12, .class_ 20), (0, u "com/example/kingsround/kingsround/engine/Inbox$Receiver")] 2

/-- com/example/kingsround/kingsround/engine/Inbox -/
def k4 : Class := { plain "com/example/kingsround/kingsround/engine/Inbox" (some 0) with
  accessFlags := 1537
  interfaces := #[]
  cf := some (fileOf pool4 1 #[.nestMembers #[19]] #[] 1537 3 #[] #[{ accessFlags := 25, nameIndex := 5, descriptorIndex := 6, attributes := #[] }])
  fields := #[{ name := "NONE", type := .int, accessFlags := 25, slot := 0, constantValue := 0 }]
  methods := #[]
  instanceTypes := #[]
  staticTypes := #[.int]
  resolved := Array.replicate 23 none
  statics := none }

def pool5 : Array CpInfo := pool [(1, .fieldref 2 3), (0, .class_ 4), (0, .nameAndType 5 6), (0, u "com/example/kingsround/kingsround/engine/Deliveries$Delivered"), (0, u "this$0"), (0, u "Lcom/example/kingsround/kingsround/engine/Deliveries;"), (0, .methodref 8 9), (0, .class_ 10), (0, .nameAndType 11 12), (0, u "java/lang/Object"), (0, u "<init>"), (0, u "()V"), (0, .fieldref 2 14), (0, .nameAndType 15 16), (0, u "to"), (0, u "I"), (0, .fieldref 2 18), (0, .nameAndType 19 20), (0, u "received"), (0, u "[B"), (0, .class_ 22), (0, u "com/example/kingsround/kingsround/engine/Inbox"), (0, .methodref 24 25), (0, .class_ 26), (0, .nameAndType 27 28), (0, u "java/util/Arrays"), (0, u "fill"), (0, u "([BB)V"), (0, .fieldref 30 31), (0, .class_ 32), (0, .nameAndType 33 20), (0, u "com/example/kingsround/kingsround/engine/Deliveries"), (0, u "toAll"), (2, u "value"), (0, u "(I)I"), (6, u "(Lcom/example/kingsround/kingsround/engine/Deliveries;II)V")] 15

def k5c0 : Code := { maxStack := 2, maxLocals := 4, code := prog_67_method_1_code, exceptionTable := #[], attributes := #[] }
def k5m0 : Method := { name := "<init>", desc := "(Lcom/example/kingsround/kingsround/engine/Deliveries;II)V", sig := { parameters := [(.object "com/example/kingsround/kingsround/engine/Deliveries"), .int, .int], returnType := none }, accessFlags := 0, code := some k5c0 }
def k5c1 : Code := { maxStack := 3, maxLocals := 3, code := prog_67_method_2_code, exceptionTable := #[], attributes := #[] }
def k5m1 : Method := { name := "value", desc := "(I)I", sig := { parameters := [.int], returnType := some .int }, accessFlags := 1, code := some k5c1 }
/-- com/example/kingsround/kingsround/engine/Deliveries$Delivered -/
def k5 : Class := { plain "com/example/kingsround/kingsround/engine/Deliveries$Delivered" (some 0) with
  accessFlags := 48
  interfaces := #[4]
  cf := some (fileOf pool5 2 #[.nestHost 30] #[{ accessFlags := 0, nameIndex := 11, descriptorIndex := 44, attributes := #[] }, { accessFlags := 1, nameIndex := 36, descriptorIndex := 37, attributes := #[] }] 48 8 #[21] #[{ accessFlags := 18, nameIndex := 15, descriptorIndex := 16, attributes := #[] }, { accessFlags := 18, nameIndex := 19, descriptorIndex := 20, attributes := #[] }, { accessFlags := 4112, nameIndex := 5, descriptorIndex := 6, attributes := #[] }])
  fields := #[{ name := "to", type := .int, accessFlags := 18, slot := 0, constantValue := 0 }, { name := "received", type := (.array .byte), accessFlags := 18, slot := 1, constantValue := 0 }, { name := "this$0", type := (.object "com/example/kingsround/kingsround/engine/Deliveries"), accessFlags := 4112, slot := 2, constantValue := 0 }]
  methods := #[k5m0, k5m1]
  instanceTypes := #[.int, (.array .byte), (.object "com/example/kingsround/kingsround/engine/Deliveries")]
  staticTypes := #[]
  resolved := Array.replicate 60 none
  statics := none }

def pool6 : Array CpInfo := pool [(2, .class_ 4), (1, u "java/lang/Object"), (0, u "<init>"), (0, u "()V"), (7, .class_ 16), (1, u "java/util/Arrays"), (57, .class_ 76), (1, u "java/util/Arrays$NaturalOrder"), (36, .class_ 115), (1, u "java/util/Arrays$LegacyMergeSort"), (1, u "Z"), (257, .class_ 376), (0, u "java/util/Arrays$ArrayList"), (68, u "$assertionsDisabled"), (269, u "MIN_ARRAY_SORT_GRAN"), (0, u "I"), (2, u "INSERTIONSORT_THRESHOLD"), (120, u "fill"), (9, u "([BB)V"), (124, .class_ 976), (0, u "java/util/Arrays$ArrayItr")] 52

def k6m0 : Method := { name := "<init>", desc := "()V", sig := { parameters := [], returnType := none }, accessFlags := 2, code := none }
def k6c1 : Code := { maxStack := 3, maxLocals := 4, code := jdk_65_method_109_code, exceptionTable := #[], attributes := #[] }
def k6m1 : Method := { name := "fill", desc := "([BB)V", sig := { parameters := [(.array .byte), .byte], returnType := none }, accessFlags := 9, code := some k6c1 }
/-- java/util/Arrays -/
def k6 : Class := { plain "java/util/Arrays" (some 0) with
  accessFlags := 49
  interfaces := #[]
  cf := some (fileOf pool6 14 #[.nestMembers #[975, 375, 113, 74]] #[{ accessFlags := 2, nameIndex := 5, descriptorIndex := 6, attributes := #[] }, { accessFlags := 9, nameIndex := 840, descriptorIndex := 850, attributes := #[] }] 49 2 #[] #[{ accessFlags := 26, nameIndex := 715, descriptorIndex := 716, attributes := #[] }, { accessFlags := 26, nameIndex := 719, descriptorIndex := 716, attributes := #[] }, { accessFlags := 4120, nameIndex := 445, descriptorIndex := 117, attributes := #[] }])
  fields := #[{ name := "MIN_ARRAY_SORT_GRAN", type := .int, accessFlags := 26, slot := 0, constantValue := 0 }, { name := "INSERTIONSORT_THRESHOLD", type := .int, accessFlags := 26, slot := 1, constantValue := 0 }, { name := "$assertionsDisabled", type := .boolean, accessFlags := 4120, slot := 2, constantValue := 0 }]
  methods := #[k6m0, k6m1]
  instanceTypes := #[]
  staticTypes := #[.int, .int, .boolean]
  resolved := Array.replicate 1029 none
  statics := none }

def pool7 : Array CpInfo := pool [(1, .class_ 2), (0, u "java/lang/Cloneable"), (0, .class_ 4), (0, u "java/lang/Object")] 2

/-- java/lang/Cloneable -/
def k7 : Class := { plain "java/lang/Cloneable" (some 0) with
  accessFlags := 1537
  interfaces := #[]
  cf := some (fileOf pool7 1 #[] #[] 1537 3 #[] #[])
  fields := #[]
  methods := #[]
  instanceTypes := #[]
  staticTypes := #[]
  resolved := Array.replicate 7 none
  statics := none }

def pool8 : Array CpInfo := pool [(2, .class_ 4), (1, u "com/example/kingsround/kingsround/engine/Outbox"), (6, .class_ 12), (0, u "java/lang/Object")] 10

/-- com/example/kingsround/kingsround/engine/Outbox -/
def k8 : Class := { plain "com/example/kingsround/kingsround/engine/Outbox" (some 0) with
  accessFlags := 1537
  interfaces := #[]
  cf := some (fileOf pool8 2 #[] #[] 1537 11 #[] #[])
  fields := #[]
  methods := #[]
  instanceTypes := #[]
  staticTypes := #[]
  resolved := Array.replicate 23 none
  statics := none }

def pool9 : Array CpInfo := pool [(1, .methodref 2 3), (0, .class_ 4), (0, .nameAndType 5 6), (0, u "java/lang/Object"), (0, u "<init>"), (0, u "()V"), (0, .fieldref 8 9), (0, .class_ 10), (0, .nameAndType 11 12), (0, u "com/example/kingsround/kingsround/engine/CheckedOutbox"), (0, u "n"), (0, u "I"), (0, .fieldref 8 14), (0, .nameAndType 15 16), (0, u "sink"), (0, u "Lcom/example/kingsround/kingsround/engine/CheckedOutbox$Sink;"), (2, u "from"), (2, u "round"), (15, .class_ 40), (1, u "com/example/kingsround/kingsround/engine/CheckedOutbox$Sink"), (14, .class_ 56), (0, u "com/example/kingsround/kingsround/engine/Outbox"), (2, u "(ILcom/example/kingsround/kingsround/engine/CheckedOutbox$Sink;)V")] 35

def k9c0 : Code := { maxStack := 2, maxLocals := 3, code := prog_62_method_1_code, exceptionTable := #[], attributes := #[] }
def k9m0 : Method := { name := "<init>", desc := "(ILcom/example/kingsround/kingsround/engine/CheckedOutbox$Sink;)V", sig := { parameters := [.int, (.object "com/example/kingsround/kingsround/engine/CheckedOutbox$Sink")], returnType := none }, accessFlags := 0, code := some k9c0 }
/-- com/example/kingsround/kingsround/engine/CheckedOutbox -/
def k9 : Class := { plain "com/example/kingsround/kingsround/engine/CheckedOutbox" (some 0) with
  accessFlags := 48
  interfaces := #[8]
  cf := some (fileOf pool9 8 #[.nestMembers #[38]] #[{ accessFlags := 0, nameIndex := 5, descriptorIndex := 59, attributes := #[] }] 48 2 #[55] #[{ accessFlags := 18, nameIndex := 11, descriptorIndex := 12, attributes := #[] }, { accessFlags := 18, nameIndex := 15, descriptorIndex := 16, attributes := #[] }, { accessFlags := 2, nameIndex := 19, descriptorIndex := 12, attributes := #[] }, { accessFlags := 2, nameIndex := 22, descriptorIndex := 12, attributes := #[] }])
  fields := #[{ name := "n", type := .int, accessFlags := 18, slot := 0, constantValue := 0 }, { name := "sink", type := (.object "com/example/kingsround/kingsround/engine/CheckedOutbox$Sink"), accessFlags := 18, slot := 1, constantValue := 0 }, { name := "from", type := .int, accessFlags := 2, slot := 2, constantValue := 0 }, { name := "round", type := .int, accessFlags := 2, slot := 3, constantValue := 0 }]
  methods := #[k9m0]
  instanceTypes := #[.int, (.object "com/example/kingsround/kingsround/engine/CheckedOutbox$Sink"), .int, .int]
  staticTypes := #[]
  resolved := Array.replicate 95 none
  statics := none }

def pool10 : Array CpInfo := pool [(1, .class_ 2), (0, u "com/example/kingsround/kingsround/engine/CheckedOutbox$Sink"), (0, .class_ 4), (0, u "java/lang/Object"), (11, .class_ 17), (0, u "com/example/kingsround/kingsround/engine/CheckedOutbox")] 2

/-- com/example/kingsround/kingsround/engine/CheckedOutbox$Sink -/
def k10 : Class := { plain "com/example/kingsround/kingsround/engine/CheckedOutbox$Sink" (some 0) with
  accessFlags := 1536
  interfaces := #[]
  cf := some (fileOf pool10 1 #[.nestHost 16] #[] 1536 3 #[] #[])
  fields := #[]
  methods := #[]
  instanceTypes := #[]
  staticTypes := #[]
  resolved := Array.replicate 20 none
  statics := none }

def pool11 : Array CpInfo := pool [(1, .fieldref 2 3), (0, .class_ 4), (0, .nameAndType 5 6), (0, u "com/example/kingsround/kingsround/engine/Deliveries$1"), (0, u "this$0"), (0, u "Lcom/example/kingsround/kingsround/engine/Deliveries;"), (0, .methodref 8 9), (0, .class_ 10), (0, .nameAndType 11 12), (0, u "java/lang/Object"), (0, u "<init>"), (0, u "()V"), (1, .class_ 16), (1, u "com/example/kingsround/kingsround/engine/Deliveries"), (14, .class_ 32), (0, u "com/example/kingsround/kingsround/engine/CheckedOutbox$Sink"), (0, u "(Lcom/example/kingsround/kingsround/engine/Deliveries;)V")] 17

def k11c0 : Code := { maxStack := 2, maxLocals := 2, code := prog_66_method_1_code, exceptionTable := #[], attributes := #[] }
def k11m0 : Method := { name := "<init>", desc := "(Lcom/example/kingsround/kingsround/engine/Deliveries;)V", sig := { parameters := [(.object "com/example/kingsround/kingsround/engine/Deliveries")], returnType := none }, accessFlags := 0, code := some k11c0 }
/-- com/example/kingsround/kingsround/engine/Deliveries$1 -/
def k11 : Class := { plain "com/example/kingsround/kingsround/engine/Deliveries$1" (some 0) with
  accessFlags := 32
  interfaces := #[10]
  cf := some (fileOf pool11 2 #[.nestHost 14] #[{ accessFlags := 0, nameIndex := 11, descriptorIndex := 33, attributes := #[] }] 32 8 #[31] #[{ accessFlags := 4112, nameIndex := 5, descriptorIndex := 6, attributes := #[] }])
  fields := #[{ name := "this$0", type := (.object "com/example/kingsround/kingsround/engine/Deliveries"), accessFlags := 4112, slot := 0, constantValue := 0 }]
  methods := #[k11m0]
  instanceTypes := #[(.object "com/example/kingsround/kingsround/engine/Deliveries")]
  staticTypes := #[]
  resolved := Array.replicate 51 none
  statics := none }

def pool12 : Array CpInfo := pool [(1, u "java/io/Serializable"), (0, .class_ 1), (0, u "java/lang/Object"), (0, .class_ 3)] 3

/-- java/io/Serializable -/
def k12 : Class := { plain "java/io/Serializable" (some 0) with
  accessFlags := 1537
  interfaces := #[]
  cf := some (fileOf pool12 2 #[] #[] 1537 4 #[] #[])
  fields := #[]
  methods := #[]
  instanceTypes := #[]
  staticTypes := #[]
  resolved := Array.replicate 8 none
  statics := none }

/-- the primitive boolean -/
def k13 : Class := { plain "boolean" none with kind := .primitive 'Z', accessFlags := 0x411 }
/-- [Z -/
def k14 : Class := { plain "[Z" (some 0) with kind := .array 13 .boolean, interfaces := #[7, 12], accessFlags := 1041 }

/-- the primitive byte -/
def k15 : Class := { plain "byte" none with kind := .primitive 'B', accessFlags := 0x411 }
/-- [B -/
def k16 : Class := { plain "[B" (some 0) with kind := .array 15 .byte, interfaces := #[7, 12], accessFlags := 1041 }

/-- the primitive int -/
def k17 : Class := { plain "int" none with kind := .primitive 'I', accessFlags := 0x411 }
/-- [I -/
def k18 : Class := { plain "[I" (some 0) with kind := .array 17 .int, interfaces := #[7, 12], accessFlags := 1041 }

/-- [Lcom/example/kingsround/kingsround/engine/Deliveries$Delivered; -/
def k19 : Class := { plain "[Lcom/example/kingsround/kingsround/engine/Deliveries$Delivered;" (some 0) with kind := .array 5 (.object "com/example/kingsround/kingsround/engine/Deliveries$Delivered"), interfaces := #[7, 12], accessFlags := 1041 }

def heap : Heap := #[]
def classes : Array Class := #[k0, k1, k2, k3, k4, k5, k6, k7, k8, k9, k10, k11, k12, k13, k14, k15, k16, k17, k18, k19]
def interned : List (Array UInt16 × Addr) := []
def slotsUsed : Nat := 0
def theMethod : MethodId := ⟨1, 1⟩
def args0 : Array Value := #[.int 1, .int 1, .int 1, .int 1]
def aboutOver (below : List Frame) : State where
  vm := { classes := classes, interned := interned.toArray }
  heap := heap
  slotsUsed := slotsUsed
  threads := #[{ frames := .invoking theMethod args0 :: below }]
def below0 : List Frame := [.native { method := ⟨0, 0⟩, args := #[] }]
def about1 : State := aboutOver below0
def p0 : Program := .bare "" "" ""
def e0 : Env := launch0.env 0 0 0
theorem w_frames : about1.frames = Frame.invoking theMethod args0 :: below0 := rfl
set_option maxRecDepth 65536 in
theorem w_args : argsFit about1.vm theMethod args0 = true := by decide +kernel
set_option maxRecDepth 65536 in
theorem w_heap : heapFits about1 = true := by decide +kernel
set_option maxRecDepth 65536 in
theorem w_runnable : about1.curStatus? = some .runnable := by decide +kernel
set_option maxRecDepth 65536 in
theorem w_alone : about1.alone = true := by decide +kernel
set_option maxRecDepth 65536 in
theorem w_named : about1.methodNamed? x = some theMethod := by decide +kernel
set_option maxRecDepth 65536 in
theorem w_hears : about1.hears theMethod below0 = true := by decide +kernel
set_option maxRecDepth 65536 in
theorem w_ripe : about1.ripe theMethod args0 below0 = true := by decide +kernel
theorem w_running : about1.status = .running := rfl
set_option maxRecDepth 65536 in
theorem w_room : about1.hasRoom e0.platform room_1 = true :=
  launch0.hasRoom_least _ room_1 (by decide +kernel) (by decide +kernel) (by decide +kernel) (by decide +kernel) (by decide +kernel) (by decide +kernel)
theorem allAtoms_all (ts : List Jvm.Cond) (a : Array Jvm.Value) (st : Jvm.State) : (allAtoms ts).before a st = ts.all (fun c => c.before a st) := by
  induction ts with
  | nil => rfl
  | cons c t ih =>
    show (Jvm.Cond.and c (allAtoms t)).before a st = _
    rw [Jvm.Cond.before_and, ih, List.all_cons]
def words1 : List Jvm.Cond := Jvm.Cond.code x code maxLocals ret :: tables_1
/-- a 'code' word, met by the world's own term for the bytes: nothing is compared byte by byte -/
theorem code_word {y : MethodName} {bytes : ByteArray} {mx : Nat} {rt : Option FieldType} {a : Array Value} {s : State} {m : MethodId} {meth : Method} {c : Code} (h1 : s.methodNamed? y = some m) (h2 : s.vm.method? m = some meth) (h3 : meth.code = some c) (h4 : c.code = bytes)
    (h5 : (c.maxLocals == mx && c.exceptionTable.isEmpty && decide (c.maxStack ≤ mostOperands) && decide (meth.sig.returnType = rt) && !meth.locks && decide (parseMethodDescriptor y.desc = some meth.sig)) = true) : (Jvm.Cond.code y bytes mx rt).before a s = true := by
  simp only [Bool.and_eq_true, beq_iff_eq, Bool.not_eq_true', decide_eq_true_eq] at h5
  obtain ⟨⟨⟨⟨⟨g1, g2⟩, g3⟩, g4⟩, g5⟩, g6⟩ := h5
  simp [Cond.before, Cond.holds, Cond.value, h1, h2, h3, h4, g1, g2, g3, g4, g5, g6]
def isCode : Jvm.Cond → Bool
  | .code _ _ _ _ => true
  | _ => false
theorem all_split {L : List Jvm.Cond} {P : Jvm.Cond → Bool} (h1 : L.all (fun c => isCode c || P c) = true) (h2 : ∀ c ∈ L.filter isCode, P c = true) : L.all P = true := by
  refine List.all_eq_true.mpr fun c hc => ?_
  have h := List.all_eq_true.mp h1 c hc
  rcases Bool.eq_false_or_eq_true (isCode c) with hi | hi
  · exact h2 c (List.mem_filter.mpr ⟨hc, hi⟩)
  · simpa [hi] using h
set_option maxRecDepth 65536 in
theorem w_c0 : (Jvm.Cond.code x code maxLocals ret).before args0 about1 = true := code_word (m := ⟨1, 1⟩) (meth := k1m1) (c := k1c1) (by decide +kernel) rfl rfl rfl (by decide +kernel)
set_option maxRecDepth 65536 in
theorem w_c1 : (Jvm.Cond.code ({ cls := "com/example/kingsround/kingsround/engine/Deliveries", name := "<init>", desc := "([Z)V" } : Jvm.MethodName) prog_65_method_2_code (4 : Nat) (Option.none : Option Jvm.ClassFile.FieldType)).before args0 about1 = true := code_word (m := ⟨3, 0⟩) (meth := k3m0) (c := k3c0) (by decide +kernel) rfl rfl rfl (by decide +kernel)
set_option maxRecDepth 65536 in
theorem w_c2 : (Jvm.Cond.code ({ cls := "java/lang/Object", name := "<init>", desc := "()V" } : Jvm.MethodName) object_method_1_code (1 : Nat) (Option.none : Option Jvm.ClassFile.FieldType)).before args0 about1 = true := code_word (m := ⟨0, 0⟩) (meth := k0m0) (c := k0c0) (by decide +kernel) rfl rfl rfl (by decide +kernel)
set_option maxRecDepth 65536 in
theorem w_c3 : (Jvm.Cond.code ({ cls := "com/example/kingsround/kingsround/engine/Deliveries$Delivered", name := "<init>", desc := "(Lcom/example/kingsround/kingsround/engine/Deliveries;II)V" } : Jvm.MethodName) prog_67_method_1_code (4 : Nat) (Option.none : Option Jvm.ClassFile.FieldType)).before args0 about1 = true := code_word (m := ⟨5, 0⟩) (meth := k5m0) (c := k5c0) (by decide +kernel) rfl rfl rfl (by decide +kernel)
set_option maxRecDepth 65536 in
theorem w_c4 : (Jvm.Cond.code ({ cls := "java/util/Arrays", name := "fill", desc := "([BB)V" } : Jvm.MethodName) jdk_65_method_109_code (4 : Nat) (Option.none : Option Jvm.ClassFile.FieldType)).before args0 about1 = true := code_word (m := ⟨6, 1⟩) (meth := k6m1) (c := k6c1) (by decide +kernel) rfl rfl rfl (by decide +kernel)
set_option maxRecDepth 65536 in
theorem w_c5 : (Jvm.Cond.code ({ cls := "com/example/kingsround/kingsround/engine/Deliveries", name := "keptParties", desc := "([Z)[I" } : Jvm.MethodName) prog_65_method_13_code (6 : Nat) (Option.some (Jvm.ClassFile.FieldType.array Jvm.ClassFile.FieldType.int))).before args0 about1 = true := code_word (m := ⟨3, 5⟩) (meth := k3m5) (c := k3c5) (by decide +kernel) rfl rfl rfl (by decide +kernel)
set_option maxRecDepth 65536 in
theorem w_c6 : (Jvm.Cond.code ({ cls := "com/example/kingsround/kingsround/engine/Deliveries$1", name := "<init>", desc := "(Lcom/example/kingsround/kingsround/engine/Deliveries;)V" } : Jvm.MethodName) prog_66_method_1_code (2 : Nat) (Option.none : Option Jvm.ClassFile.FieldType)).before args0 about1 = true := code_word (m := ⟨11, 0⟩) (meth := k11m0) (c := k11c0) (by decide +kernel) rfl rfl rfl (by decide +kernel)
set_option maxRecDepth 65536 in
theorem w_c7 : (Jvm.Cond.code ({ cls := "com/example/kingsround/kingsround/engine/CheckedOutbox", name := "<init>", desc := "(ILcom/example/kingsround/kingsround/engine/CheckedOutbox$Sink;)V" } : Jvm.MethodName) prog_62_method_1_code (3 : Nat) (Option.none : Option Jvm.ClassFile.FieldType)).before args0 about1 = true := code_word (m := ⟨9, 0⟩) (meth := k9m0) (c := k9c0) (by decide +kernel) rfl rfl rfl (by decide +kernel)
set_option maxRecDepth 65536 in
theorem w_c8 : (Jvm.Cond.code ({ cls := "com/example/kingsround/kingsround/engine/Deliveries", name := "put", desc := "(III)Z" } : Jvm.MethodName) prog_65_method_9_code (5 : Nat) (Option.some Jvm.ClassFile.FieldType.boolean)).before args0 about1 = true := code_word (m := ⟨3, 3⟩) (meth := k3m3) (c := k3c3) (by decide +kernel) rfl rfl rfl (by decide +kernel)
set_option maxRecDepth 65536 in
theorem w_c9 : (Jvm.Cond.code ({ cls := "com/example/kingsround/kingsround/engine/Deliveries", name := "count", desc := "()J" } : Jvm.MethodName) prog_65_method_4_code (1 : Nat) (Option.some Jvm.ClassFile.FieldType.long)).before args0 about1 = true := code_word (m := ⟨3, 1⟩) (meth := k3m1) (c := k3c1) (by decide +kernel) rfl rfl rfl (by decide +kernel)
set_option maxRecDepth 65536 in
theorem w_c10 : (Jvm.Cond.code ({ cls := "com/example/kingsround/kingsround/engine/Deliveries", name := "value", desc := "(II)I" } : Jvm.MethodName) prog_65_method_5_code (3 : Nat) (Option.some Jvm.ClassFile.FieldType.int)).before args0 about1 = true := code_word (m := ⟨3, 2⟩) (meth := k3m2) (c := k3c2) (by decide +kernel) rfl rfl rfl (by decide +kernel)
set_option maxRecDepth 65536 in
theorem w_c11 : (Jvm.Cond.code ({ cls := "com/example/kingsround/kingsround/engine/Deliveries$Delivered", name := "value", desc := "(I)I" } : Jvm.MethodName) prog_67_method_2_code (3 : Nat) (Option.some Jvm.ClassFile.FieldType.int)).before args0 about1 = true := code_word (m := ⟨5, 1⟩) (meth := k5m1) (c := k5c1) (by decide +kernel) rfl rfl rfl (by decide +kernel)
set_option maxRecDepth 65536 in
theorem w_c12 : (Jvm.Cond.code ({ cls := "com/example/kingsround/kingsround/engine/Deliveries", name := "putToAll", desc := "(II)Z" } : Jvm.MethodName) prog_65_method_10_code (3 : Nat) (Option.some Jvm.ClassFile.FieldType.boolean)).before args0 about1 = true := code_word (m := ⟨3, 4⟩) (meth := k3m4) (c := k3c4) (by decide +kernel) rfl rfl rfl (by decide +kernel)
def codes1 : List Jvm.Cond := [Jvm.Cond.code x code maxLocals ret, Jvm.Cond.code ({ cls := "com/example/kingsround/kingsround/engine/Deliveries", name := "<init>", desc := "([Z)V" } : Jvm.MethodName) prog_65_method_2_code (4 : Nat) (Option.none : Option Jvm.ClassFile.FieldType), Jvm.Cond.code ({ cls := "java/lang/Object", name := "<init>", desc := "()V" } : Jvm.MethodName) object_method_1_code (1 : Nat) (Option.none : Option Jvm.ClassFile.FieldType), Jvm.Cond.code ({ cls := "com/example/kingsround/kingsround/engine/Deliveries$Delivered", name := "<init>", desc := "(Lcom/example/kingsround/kingsround/engine/Deliveries;II)V" } : Jvm.MethodName) prog_67_method_1_code (4 : Nat) (Option.none : Option Jvm.ClassFile.FieldType), Jvm.Cond.code ({ cls := "java/util/Arrays", name := "fill", desc := "([BB)V" } : Jvm.MethodName) jdk_65_method_109_code (4 : Nat) (Option.none : Option Jvm.ClassFile.FieldType), Jvm.Cond.code ({ cls := "com/example/kingsround/kingsround/engine/Deliveries", name := "keptParties", desc := "([Z)[I" } : Jvm.MethodName) prog_65_method_13_code (6 : Nat) (Option.some (Jvm.ClassFile.FieldType.array Jvm.ClassFile.FieldType.int)), Jvm.Cond.code ({ cls := "com/example/kingsround/kingsround/engine/Deliveries$1", name := "<init>", desc := "(Lcom/example/kingsround/kingsround/engine/Deliveries;)V" } : Jvm.MethodName) prog_66_method_1_code (2 : Nat) (Option.none : Option Jvm.ClassFile.FieldType), Jvm.Cond.code ({ cls := "com/example/kingsround/kingsround/engine/CheckedOutbox", name := "<init>", desc := "(ILcom/example/kingsround/kingsround/engine/CheckedOutbox$Sink;)V" } : Jvm.MethodName) prog_62_method_1_code (3 : Nat) (Option.none : Option Jvm.ClassFile.FieldType), Jvm.Cond.code ({ cls := "com/example/kingsround/kingsround/engine/Deliveries", name := "put", desc := "(III)Z" } : Jvm.MethodName) prog_65_method_9_code (5 : Nat) (Option.some Jvm.ClassFile.FieldType.boolean), Jvm.Cond.code ({ cls := "com/example/kingsround/kingsround/engine/Deliveries", name := "count", desc := "()J" } : Jvm.MethodName) prog_65_method_4_code (1 : Nat) (Option.some Jvm.ClassFile.FieldType.long), Jvm.Cond.code ({ cls := "com/example/kingsround/kingsround/engine/Deliveries", name := "value", desc := "(II)I" } : Jvm.MethodName) prog_65_method_5_code (3 : Nat) (Option.some Jvm.ClassFile.FieldType.int), Jvm.Cond.code ({ cls := "com/example/kingsround/kingsround/engine/Deliveries$Delivered", name := "value", desc := "(I)I" } : Jvm.MethodName) prog_67_method_2_code (3 : Nat) (Option.some Jvm.ClassFile.FieldType.int), Jvm.Cond.code ({ cls := "com/example/kingsround/kingsround/engine/Deliveries", name := "putToAll", desc := "(II)Z" } : Jvm.MethodName) prog_65_method_10_code (3 : Nat) (Option.some Jvm.ClassFile.FieldType.boolean)]
set_option maxRecDepth 65536 in
theorem codes_eq : words1.filter isCode = codes1 := rfl
theorem w_codes : ∀ c ∈ words1.filter isCode, c.before args0 about1 = true := by
  rw [codes_eq]
  intro c hc
  simp only [codes1, List.mem_cons, List.not_mem_nil, or_false] at hc
  rcases hc with rfl | rfl | rfl | rfl | rfl | rfl | rfl | rfl | rfl | rfl | rfl | rfl | rfl
  · exact w_c0
  · exact w_c1
  · exact w_c2
  · exact w_c3
  · exact w_c4
  · exact w_c5
  · exact w_c6
  · exact w_c7
  · exact w_c8
  · exact w_c9
  · exact w_c10
  · exact w_c11
  · exact w_c12
set_option maxRecDepth 65536 in
theorem w_t1 : (words1.take 24).all (fun c => isCode c || c.before args0 about1) = true := by decide +kernel
set_option maxRecDepth 65536 in
theorem w_t2 : ((words1.drop 24).take 24).all (fun c => isCode c || c.before args0 about1) = true := by decide +kernel
set_option maxRecDepth 65536 in
theorem w_t3 : (((words1.drop 24).drop 24).take 24).all (fun c => isCode c || c.before args0 about1) = true := by decide +kernel
set_option maxRecDepth 65536 in
theorem w_t4 : ((((words1.drop 24).drop 24).drop 24).take 24).all (fun c => isCode c || c.before args0 about1) = true := by decide +kernel
set_option maxRecDepth 65536 in
theorem w_t5 : ((((words1.drop 24).drop 24).drop 24).drop 24).all (fun c => isCode c || c.before args0 about1) = true := by decide +kernel
theorem w_tables : (allAtoms (Jvm.Cond.code x code maxLocals ret :: tables_1)).before args0 about1 = true := by
  rw [allAtoms_all]
  show words1.all (fun c => c.before args0 about1) = true
  refine all_split ?_ w_codes
  rw [← List.take_append_drop 24 words1, List.all_append, w_t1, ← List.take_append_drop 24 (words1.drop 24), List.all_append, w_t2, ← List.take_append_drop 24 ((words1.drop 24).drop 24), List.all_append, w_t3, ← List.take_append_drop 24 (((words1.drop 24).drop 24).drop 24), List.all_append, w_t4, w_t5]
  rfl
set_option maxRecDepth 65536 in
theorem w_case : (Jvm.Cond.and given_1 narrow_1).before args0 about1 = true := by decide +kernel
theorem w_applies : (headSpec (Jvm.Cond.code x code maxLocals ret :: tables_1) room_1).applies x e0.platform about1 = true :=
  (Spec.applies_iff w_frames).mpr ⟨w_running, w_runnable, w_alone, w_named, w_hears, w_ripe, w_room, w_tables⟩
theorem atStart : AtStart classFile x code maxLocals ret World_1 tables_1 room_1 Calls_1 rest_1 Pre_1 launch0 p0 e0 about1 theMethod args0 below0 :=
  ⟨lists_1, trivial, launch0.admits_env _ _ _, launch0.least_env, fairChoices_fair.cas, fairChoices_fair.clock, w_frames, w_args, w_heap, w_applies, trivial, trivial, w_case⟩
end start1
theorem witness_1 : WitnessClaimed_1 := ⟨start1.p0, start1.e0, start1.about1, start1.theMethod, start1.args0, start1.below0, start1.atStart⟩
end Jvm.Pilot.@@N@@
