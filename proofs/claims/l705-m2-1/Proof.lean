import JvmDerived
import JvmDerived.Pilot.@@N@@Statement
import JvmDerived.Pilot.@@N@@Code
set_option linter.unusedVariables false
set_option linter.unusedSimpArgs false
namespace Jvm.RoadKit
open Sem ClassFile Op Lib Jvm.Stand Jvm.Free Jvm.LawKit
section Own
variable {p : Program} {l : Launch} {e : Env} {R : Room} {s : State} {m : MethodId} {args : Array Value} {below : List Frame} {meth : Method} {c : Code} {T T' : State} {locs : List Loc} {cells slots : Nat} {Z : State} {a0 : Array Value} {h h' : Heap}
abbrev own_lv (x : Int64) : Slot := .val (.long x)
abbrev own_S (p : Program) (e : Env) (below : List Frame) (T : State) (m : MethodId) (pc : Nat) (L : Array Slot) (S : List Value) (t : State) : Prop := Steps p.tables e below (T.setTop (mkF m pc L S)) t
/-- in one state, from the second frame to the first -/
abbrev own_V (p : Program) (e : Env) (below : List Frame) (T : State) (f' f : JFrame) : Prop := ∀ t, Steps p.tables e below (T.setTop f') t → Steps p.tables e below (T.setTop f) t
/-- from this frame on the run comes to an end that G says -/
def own_Go (p : Program) (e : Env) (below : List Frame) (G : State → Outcome → Prop) (T : State) (f : JFrame) : Prop :=
  ∃ t o, Steps p.tables e below (T.setTop f) t ∧ G t o
theorem own_st {G : State → Outcome → Prop} {f f' : JFrame} (st : ∀ t, Steps p.tables e below (T'.setTop f') t → Steps p.tables e below (T.setTop f) t) (k : own_Go p e below G T' f') : own_Go p e below G T f := by
  obtain ⟨t, o, h1, h2⟩ := k
  exact ⟨t, o, st t h1, h2⟩
/-- from this frame on the run comes to a state and a frame that P says -/
def own_Pk (p : Program) (e : Env) (below : List Frame) (P : State → JFrame → Prop) (T : State) (f : JFrame) : Prop :=
  ∃ T' f', P T' f' ∧ ∀ t, Steps p.tables e below (T'.setTop f') t → Steps p.tables e below (T.setTop f) t
theorem own_sp {P : State → JFrame → Prop} {f f' : JFrame} (st : ∀ t, Steps p.tables e below (T'.setTop f') t → Steps p.tables e below (T.setTop f) t) (k : own_Pk p e below P T' f') : own_Pk p e below P T f := by
  obtain ⟨T2, f2, h1, h2⟩ := k
  exact ⟨T2, f2, h1, fun t q => st t (h2 t q)⟩
theorem own_pm {P P' : State → JFrame → Prop} {f : JFrame} (k : own_Pk p e below P T f) (q : ∀ T' f', P T' f' → P' T' f') : own_Pk p e below P' T f := by
  obtain ⟨T2, f2, h1, h2⟩ := k
  exact ⟨T2, f2, q _ _ h1, h2⟩
/-- it returned, Q says what, and the frame is kept -/
def own_End (s : State) (below : List Frame) (Q : Option Value → Heap → List Loc → Prop) (C S : Nat) : State → Outcome → Prop := fun t o =>
  t.status = .running ∧ Ended t below o ∧ ∃ v L, o = .returned v ∧ Q v t.heap L ∧ FrameEnd s o t L C S
theorem own_body {y : MethodName} {bytes : ByteArray} {ml : Nat} {rt : Option FieldType} {rm : Room} {as' : Array Value} {h0 : Heap} {Q : Option Value → Heap → List Loc → Prop} {C S : Nat} {ws : List Jvm.Cond} (hp : plainFor y = true)
    (H : ∀ p e s m below meth c s₁, BodyLoose p l y (head1 (Jvm.Cond.code y bytes ml rt :: ws) rm) bytes ml rt e s m as' below meth c s₁ → c.maxLocals = ml → Z.Warmed39 s.vm → s₁.heap = h0 → own_Go p e below (own_End s below Q C S) s₁ (entryFrame m as' ml)) :
    MetFree l y (head1 (Jvm.Cond.code y bytes ml rt :: ws) rm) (fun a U => a = as' ∧ Z.Warmed39 U.vm ∧ U.heap = h0) (fun _ _ _ _ _ => True) (fun _ U o U' => ∃ v L, o = .returned v ∧ Q v U'.heap L ∧ FrameEnd U o U' L C S) := by
  refine MetFree.of_bodySF hp hisR ?_
  intro p e s m args below meth c s₁ Bd hml hP hK
  obtain ⟨rfl, hZ, hh⟩ := hP
  have e0 : s₁.heap = h0 := by rw [← hh, Bd.state]; rfl
  obtain ⟨t, o, h1, h2, h3, h4⟩ := H p e s m below meth c s₁ Bd hml hZ e0
  exact ⟨t, o, h1, h2, h3, h4⟩
/-- a callee's contract -/
abbrev own_Ct (l : Launch) (Z : State) (y : MethodName) (bytes : ByteArray) (ml : Nat) (rt : Option FieldType) (rm : Room) (as' : Array Value) (h0 : Heap) (Q : Option Value → Heap → List Loc → Prop) : Prop :=
  MetFree l y (head1 [Jvm.Cond.code y bytes ml rt] rm) (fun a U => a = as' ∧ Z.Warmed39 U.vm ∧ U.heap = h0) (fun _ _ _ _ _ => True) (fun _ U o U' => ∃ v L, o = .returned v ∧ Q v U'.heap L ∧ FrameEnd U o U' L rm.cells rm.slots)
section Ret
variable {Q : Option Value → Heap → List Loc → Prop} {C S : Nat}
theorem own_out {v : Option Value} {f : JFrame} (X : Stand p l e R s m args below meth c T locs cells slots) (hv : meth.sig.returnType = none → v = none) (hlocks : meth.locks = false) (hC : cells ≤ C) (hS : slots ≤ S) (eT : T.heap = h) (hq : Q v h locs)
    (go : ∀ fs, (∀ (f : JFrame) (acts : List Action), f.method = m → f.locked = none → f.entered = [] → (doReturn e (T.setTop f) acts v).1 = T.setFrames fs) → Steps p.tables e below (T.setTop f) (T.setFrames fs)) :
    own_Go p e below (own_End s below Q C S) T f := by
  obtain ⟨fs, hr, hrun, hended, hW, hsame⟩ := X.leave (v := v) hv hlocks
  refine ⟨_, _, go fs hr, hrun, hended, _, _, rfl, ?_, ⟨_, rfl⟩, hW, hsame.mono hC hS⟩
  show Q v T.heap locs
  rw [eT]; exact hq
theorem own_retI (X : Stand p l e R s m args below meth c T locs cells slots) (hx : p.tables.exec = Jvm.exec) (hlocks : meth.locks = false) (hret : meth.sig.returnType = some .int) {pc : Nat} {Ls : Array Slot} {z : Int32} {rest : List Value} (hd : decode c.code pc = .ok (.ireturn, 1)) (hC : cells ≤ C) (hS : slots ≤ S) (eT : T.heap = h) (hq : Q (some (.int z)) h locs) :
    own_Go p e below (own_End s below Q C S) T (mkF m pc Ls (.int z :: rest)) :=
  own_out X (fun q => by rw [hret] at q; cases q) hlocks hC hS eT hq fun fs hr => retOut X hx hret rfl (Or.inl ⟨rfl, Or.inl rfl, z, rfl⟩) hd hr
theorem own_retZ (X : Stand p l e R s m args below meth c T locs cells slots) (hx : p.tables.exec = Jvm.exec) (hlocks : meth.locks = false) (hret : meth.sig.returnType = some .boolean) {pc : Nat} {Ls : Array Slot} {z : Int32} {rest : List Value} (hd : decode c.code pc = .ok (.ireturn, 1)) (hz : z = 0 ∨ z = 1) (hC : cells ≤ C) (hS : slots ≤ S) (eT : T.heap = h) (hq : Q (some (.int z)) h locs) :
    own_Go p e below (own_End s below Q C S) T (mkF m pc Ls (.int z :: rest)) :=
  own_out X (fun q => by rw [hret] at q; cases q) hlocks hC hS eT hq fun fs hr => retN X hx hret (Or.inl rfl) hd (by
    have : nar .boolean z = z := by rcases hz with rfl | rfl <;> decide
    rw [this]; exact hr)
theorem own_retB (X : Stand p l e R s m args below meth c T locs cells slots) (hx : p.tables.exec = Jvm.exec) (hlocks : meth.locks = false) (hret : meth.sig.returnType = some .byte) {pc : Nat} {Ls : Array Slot} {z : Int32} {rest : List Value} (hd : decode c.code pc = .ok (.ireturn, 1)) (hz : nar .byte z = z) (hC : cells ≤ C) (hS : slots ≤ S) (eT : T.heap = h) (hq : Q (some (.int z)) h locs) :
    own_Go p e below (own_End s below Q C S) T (mkF m pc Ls (.int z :: rest)) :=
  own_out X (fun q => by rw [hret] at q; cases q) hlocks hC hS eT hq fun fs hr => retN X hx hret (Or.inr (Or.inl rfl)) hd (by rw [hz]; exact hr)
theorem own_retJ (X : Stand p l e R s m args below meth c T locs cells slots) (hx : p.tables.exec = Jvm.exec) (hlocks : meth.locks = false) (hret : meth.sig.returnType = some .long) {pc : Nat} {Ls : Array Slot} {z : Int64} {rest : List Value} (hd : decode c.code pc = .ok (.lreturn, 1)) (hC : cells ≤ C) (hS : slots ≤ S) (eT : T.heap = h) (hq : Q (some (.long z)) h locs) :
    own_Go p e below (own_End s below Q C S) T (mkF m pc Ls (.long z :: rest)) :=
  own_out X (fun q => by rw [hret] at q; cases q) hlocks hC hS eT hq fun fs hr => retOut X hx hret rfl (Or.inr (Or.inl ⟨rfl, rfl, z, rfl⟩)) hd hr
theorem own_retR {t : FieldType} {w : Value} (X : Stand p l e R s m args below meth c T locs cells slots) (hx : p.tables.exec = Jvm.exec) (hlocks : meth.locks = false) (hret : meth.sig.returnType = some t) (ht : t.isReference = true) (hw : w.isRef = true) {pc : Nat} {Ls : Array Slot} {rest : List Value} (hd : decode c.code pc = .ok (.areturn, 1)) (hC : cells ≤ C) (hS : slots ≤ S) (eT : T.heap = h) (hq : Q (some w) h locs) :
    own_Go p e below (own_End s below Q C S) T (mkF m pc Ls (w :: rest)) :=
  own_out X (fun q => by rw [hret] at q; cases q) hlocks hC hS eT hq fun fs hr => retOut X hx hret (by cases t <;> cases w <;> first | rfl | (cases ht; done) | (cases hw; done)) (Or.inr (Or.inr (Or.inr (Or.inr ⟨rfl, ht, hw⟩)))) hd hr
theorem own_retV (X : Stand p l e R s m args below meth c T locs cells slots) (hx : p.tables.exec = Jvm.exec) (hlocks : meth.locks = false) (hret : meth.sig.returnType = none) {pc : Nat} {Ls : Array Slot} (hd : decode c.code pc = .ok (.return_, 1)) (hC : cells ≤ C) (hS : slots ≤ S) (eT : T.heap = h) (hq : Q none h locs) :
    own_Go p e below (own_End s below Q C S) T (mkF m pc Ls []) :=
  own_out X (fun _ => rfl) hlocks hC hS eT hq fun fs hr => X.returnOut hx hret hd hr
end Ret
section Call
variable {own : String} {index : Nat} {y : MethodName} {bytes : ByteArray} {ml : Nat} {rt : Option FieldType} {rm : Room} {Q : Option Value → Heap → List Loc → Prop} {g : JFrame} {argsL rest : List Value} {W : Nat}
theorem own_callS (X : Stand p l e R s m args below meth c T locs cells slots) (hx : p.tables.exec = Jvm.exec) (hZ : Z.Warmed39 s.vm) (hown : s.vm.findClass own = some m.cls)
    (w1 : (Jvm.Cond.methodLink own index y).before a0 Z = true) (w2 : (Jvm.Cond.static y).before a0 Z = true) (w3 : (Jvm.Cond.initialized y.cls).before a0 Z = true) (w4 : (Jvm.Cond.code y bytes ml rt).before a0 Z = true)
    (hy : y.cls ≠ "java/lang/invoke/MethodHandle" ∧ y.cls ≠ "java/lang/invoke/VarHandle") (ct : own_Ct l Z y bytes ml rt rm argsL.toArray h Q) (eT : T.heap = h) (hg : g.method = m) (hsize : g.locals.size = c.maxLocals)
    (hlen : ∀ sig, parseMethodDescriptor y.desc = some sig → argsL.length = sig.parameters.length) (hstack : g.stack = argsL.reverse ++ rest) (hW : 2 * g.monitorRoom + (rest.map fun v => v.category).sum ≤ W) (hdg : decode c.code g.pc = .ok (.invokestatic index, 3))
    (hf : rm.frames + 1 ≤ R.frames) (hl : W + (ml + 11) + rm.locals ≤ R.locals) (hc : cells + rm.cells ≤ R.cells) (hs : slots + rm.slots ≤ R.slots) :
    ∃ v T' L, Stand p l e R s m args below meth c T' (locs ++ L) (cells + rm.cells) (slots + rm.slots) ∧ Q v T'.heap L ∧ ∀ target, Steps p.tables e below (T'.setTop { g with pc := g.pc + 3, stack := v.toList ++ rest }) target → Steps p.tables e below (T.setTop g) target := by
  obtain ⟨v, vm1, ⟨T1, L1, k1, n1⟩, -, X1, ⟨L, hQ, h1, h2, h3⟩, st⟩ := Jvm.LawKit.callS X hx hown (mvT hZ w1) (mvT hZ w2) (mvT hZ w3) (mvT hZ w4) hy (backOf (W := W) ct hZ w4 w3 hf hl) hg hsize hlen hstack hW hdg (fun _ _ => ⟨rfl, eT, hc, hs⟩)
  dsimp only [Pt.U, Pt.locs, Pt.cells, Pt.slots] at X1 h1 h2 h3 hQ st
  subst h1 h2 h3
  exact ⟨v, T1, L, X1, hQ, st⟩
theorem own_callI {a : Addr} (X : Stand p l e R s m args below meth c T locs cells slots) (hx : p.tables.exec = Jvm.exec) (hZ : Z.Warmed39 s.vm) (hown : s.vm.findClass own = some m.cls) (hy1 : y.name = "<init>")
    (w1 : (Jvm.Cond.methodLink own index y).before a0 Z = true) (w2 : (Jvm.Cond.instanceMethod y).before a0 Z = true) (w3 : (Jvm.Cond.initialized y.cls).before a0 Z = true) (w4 : (Jvm.Cond.code y bytes ml none).before a0 Z = true)
    (hy : y.cls ≠ "java/lang/invoke/MethodHandle" ∧ y.cls ≠ "java/lang/invoke/VarHandle") (ct : own_Ct l Z y bytes ml none rm (.ref a :: argsL).toArray h Q) (eT : T.heap = h) (hg : g.method = m) (hsize : g.locals.size = c.maxLocals)
    (hlen : ∀ sig, parseMethodDescriptor y.desc = some sig → argsL.length = sig.parameters.length) (hstack : g.stack = argsL.reverse ++ .ref a :: rest) (hW : 2 * g.monitorRoom + (rest.map fun v => v.category).sum ≤ W) (hdg : decode c.code g.pc = .ok (.invokespecial index, 3))
    (hf : rm.frames + 1 ≤ R.frames) (hl : W + (ml + 11) + rm.locals ≤ R.locals) (hc : cells + rm.cells ≤ R.cells) (hs : slots + rm.slots ≤ R.slots) :
    ∃ v T' L, Stand p l e R s m args below meth c T' (locs ++ L) (cells + rm.cells) (slots + rm.slots) ∧ Q v T'.heap L ∧ ∀ target, Steps p.tables e below (T'.setTop { g with pc := g.pc + 3, stack := v.toList ++ rest }) target → Steps p.tables e below (T.setTop g) target := by
  obtain ⟨v, vm1, ⟨T1, L1, k1, n1⟩, -, X1, ⟨L, hQ, h1, h2, h3⟩, st⟩ := X.specialBack hx hy1 hown (mvT hZ w1) (mvT hZ w2) (mvT hZ w4) hy (backOf (W := W) ct hZ w4 w3 hf hl) hg hsize (Steps.refl _) hlen hstack hW hdg (fun _ _ => ⟨rfl, eT, hc, hs⟩)
  dsimp only [Pt.U, Pt.locs, Pt.cells, Pt.slots] at X1 h1 h2 h3 hQ st
  subst h1 h2 h3
  exact ⟨v, T1, L, X1, hQ, fun t k => st.trans k⟩
theorem own_callV {a : Addr} {C : String} (X : Stand p l e R s m args below meth c T locs cells slots) (hx : p.tables.exec = Jvm.exec) (hZ : Z.Warmed39 s.vm) (hown : s.vm.findClass own = some m.cls) (E : Exa Z h a C) {y0 : MethodName}
    (w1 : (Jvm.Cond.methodLink own index y0).before a0 Z = true) (w2 : (Jvm.Cond.declares y0).before a0 Z = true) (w5 : (Jvm.Cond.selects C y0 y).before a0 Z = true) (nf : NotFace s y0) (w6 : (Jvm.Cond.instanceMethod y).before a0 Z = true) (w3 : (Jvm.Cond.initialized y.cls).before a0 Z = true) (w4 : (Jvm.Cond.code y bytes ml rt).before a0 Z = true)
    (hy : y0.cls ≠ "java/lang/invoke/MethodHandle" ∧ y0.cls ≠ "java/lang/invoke/VarHandle") (ct : own_Ct l Z y bytes ml rt rm (.ref a :: argsL).toArray h Q) (eT : T.heap = h) (hg : g.method = m) (hsize : g.locals.size = c.maxLocals)
    (hlen : ∀ sig, parseMethodDescriptor y0.desc = some sig → argsL.length = sig.parameters.length) (hstack : g.stack = argsL.reverse ++ .ref a :: rest) (hW : 2 * g.monitorRoom + (rest.map fun v => v.category).sum ≤ W) (hdg : decode c.code g.pc = .ok (.invokevirtual index, 3))
    (hf : rm.frames + 1 ≤ R.frames) (hl : W + (ml + 11) + rm.locals ≤ R.locals) (hc : cells + rm.cells ≤ R.cells) (hs : slots + rm.slots ≤ R.slots) :
    ∃ v T' L, Stand p l e R s m args below meth c T' (locs ++ L) (cells + rm.cells) (slots + rm.slots) ∧ Q v T'.heap L ∧ ∀ target, Steps p.tables e below (T'.setTop { g with pc := g.pc + 3, stack := v.toList ++ rest }) target → Steps p.tables e below (T.setTop g) target := by
  obtain ⟨cq, kq, qa, qb, qc⟩ := isOf hZ eT E
  obtain ⟨v, vm1, ⟨T1, L1, k1, n1⟩, -, X1, ⟨L, hQ, h1, h2, h3⟩, st⟩ := X.virtualBack hx (y := y0) (z := y) hown (mvT hZ w1) (mvT hZ w2) nf (mvT hZ w5) (mvT hZ w6) hy (backOf (W := W) ct hZ w4 w3 hf hl) qa qc hg hsize (Steps.refl _) hlen hstack hW hdg (fun _ _ => ⟨rfl, eT, hc, hs⟩)
  dsimp only [Pt.U, Pt.locs, Pt.cells, Pt.slots] at X1 h1 h2 h3 hQ st
  subst h1 h2 h3
  exact ⟨v, T1, L, X1, hQ, fun t k => st.trans k⟩
theorem own_callP {a : Addr} {C C0 : String} {x z : MethodName} (X : Stand p l e R s m args below meth c T locs cells slots) (hx : p.tables.exec = Jvm.exec) (hZ : Z.Warmed39 s.vm) (hown : s.vm.findClass own = some m.cls) (E : Exa Z h a C0) (hz : z.cls = y.cls)
    (w1 : (Jvm.Cond.methodLink own index y).before a0 Z = true) (w2 : (Jvm.Cond.instanceMethod y).before a0 Z = true) (w5 : (Jvm.Cond.selects C x z).before a0 Z = true) (wp : (Jvm.Cond.privateMethod y).before a0 Z = true) (w3 : (Jvm.Cond.initialized y.cls).before a0 Z = true) (w4 : (Jvm.Cond.code y bytes ml rt).before a0 Z = true)
    (hy : y.cls ≠ "java/lang/invoke/MethodHandle" ∧ y.cls ≠ "java/lang/invoke/VarHandle") (ct : own_Ct l Z y bytes ml rt rm (.ref a :: argsL).toArray h Q) (eT : T.heap = h) (hg : g.method = m) (hsize : g.locals.size = c.maxLocals)
    (hlen : ∀ sig, parseMethodDescriptor y.desc = some sig → argsL.length = sig.parameters.length) (hstack : g.stack = argsL.reverse ++ .ref a :: rest) (hW : 2 * g.monitorRoom + (rest.map fun v => v.category).sum ≤ W) (hdg : decode c.code g.pc = .ok (.invokevirtual index, 3))
    (hf : rm.frames + 1 ≤ R.frames) (hl : W + (ml + 11) + rm.locals ≤ R.locals) (hc : cells + rm.cells ≤ R.cells) (hs : slots + rm.slots ≤ R.slots) :
    ∃ v T' L, Stand p l e R s m args below meth c T' (locs ++ L) (cells + rm.cells) (slots + rm.slots) ∧ Q v T'.heap L ∧ ∀ target, Steps p.tables e below (T'.setTop { g with pc := g.pc + 3, stack := v.toList ++ rest }) target → Steps p.tables e below (T.setTop g) target := by
  obtain ⟨cq, q1, q2⟩ := E.cell
  have hp : s.PrivateAt y := Cond.privateMethod_at (mvP hZ wp (args := #[]))
  have w5' : (Jvm.Cond.selects C x z).before args s = true := mvT hZ w5
  obtain ⟨c2, r2, m2, -, -, q3, -, kP, hkP, hkPi⟩ := Cond.selects_spec w5'
  have hcl : s.vm.findClass y.cls = some m2.cls := hz ▸ findClass_of_methodNamed q3
  have hsel : (Jvm.Cond.selects y.cls y y).before args s = true := selects_self_of_private hcl hkP hkPi hp (mvT hZ w2) hy
  obtain ⟨v, vm1, ⟨T1, L1, k1, n1⟩, -, X1, ⟨L, hQ, h1, h2, h3⟩, st⟩ := X.privateBack hx hown (mvT hZ w1) (mvT hZ w2) hsel hp (mvT hZ w4) hy (backOf (W := W) ct hZ w4 w3 hf hl) hg hsize (Steps.refl _) (a := a) (by rw [eT]; exact q1) q2 hlen hstack hW hdg (fun _ _ => ⟨rfl, eT, hc, hs⟩)
  dsimp only [Pt.U, Pt.locs, Pt.cells, Pt.slots] at X1 h1 h2 h3 hQ st
  subst h1 h2 h3
  exact ⟨v, T1, L, X1, hQ, fun t k => st.trans k⟩
theorem own_callF {a : Addr} {C : String} {count : Nat} (X : Stand p l e R s m args below meth c T locs cells slots) (hx : p.tables.exec = Jvm.exec) (hZ : Z.Warmed39 s.vm) (hown : s.vm.findClass own = some m.cls) (E : Exa Z h a C) {y0 : MethodName}
    (w1 : (Jvm.Cond.methodLink own index y0).before a0 Z = true) (w2 : (Jvm.Cond.declares y0).before a0 Z = true) (wf : (Jvm.Cond.interfaceMethod y0.cls y0.cls y0.name y0.desc).before args s = true) (w5 : (Jvm.Cond.selects C y0 y).before a0 Z = true) (w6 : (Jvm.Cond.instanceMethod y).before a0 Z = true) (wp : (Jvm.Cond.publicMethod y).before a0 Z = true) (wu : (Jvm.Cond.unhidden C y0.name y0.desc).before a0 Z = true) (wk : (Jvm.Cond.castable C y0.cls).before a0 Z = true) (w3 : (Jvm.Cond.initialized y.cls).before a0 Z = true) (w4 : (Jvm.Cond.code y bytes ml rt).before a0 Z = true)
    (hy : y0.cls ≠ "java/lang/invoke/MethodHandle" ∧ y0.cls ≠ "java/lang/invoke/VarHandle") (ct : own_Ct l Z y bytes ml rt rm (.ref a :: argsL).toArray h Q) (eT : T.heap = h) (hg : g.method = m) (hsize : g.locals.size = c.maxLocals)
    (hlen : ∀ sig, parseMethodDescriptor y0.desc = some sig → argsL.length = sig.parameters.length) (hstack : g.stack = argsL.reverse ++ .ref a :: rest) (hW : 2 * g.monitorRoom + (rest.map fun v => v.category).sum ≤ W) (hdg : decode c.code g.pc = .ok (.invokeinterface index count, 5))
    (hf : rm.frames + 1 ≤ R.frames) (hl : W + (ml + 11) + rm.locals ≤ R.locals) (hc : cells + rm.cells ≤ R.cells) (hs : slots + rm.slots ≤ R.slots) :
    ∃ v T' L, Stand p l e R s m args below meth c T' (locs ++ L) (cells + rm.cells) (slots + rm.slots) ∧ Q v T'.heap L ∧ ∀ target, Steps p.tables e below (T'.setTop { g with pc := g.pc + 5, stack := v.toList ++ rest }) target → Steps p.tables e below (T.setTop g) target := by
  obtain ⟨cq, kq, qa, qb, qc⟩ := isOf hZ eT E
  obtain ⟨v, vm1, ⟨T1, L1, k1, n1⟩, -, X1, ⟨L, hQ, h1, h2, h3⟩, st⟩ := X.interfaceBack hx (xi := y0) (y := y) hown (mvT hZ w1) (mvT hZ w2) wf (mvT hZ w5) (mvT hZ w6) (mvT hZ wp) (mvT hZ wu) (mvT hZ wk) hy (backOf (W := W) ct hZ w4 w3 hf hl) qa qb qc hg hsize (Steps.refl _) hlen hstack hW hdg (fun _ _ => ⟨rfl, eT, hc, hs⟩)
  dsimp only [Pt.U, Pt.locs, Pt.cells, Pt.slots] at X1 h1 h2 h3 hQ st
  subst h1 h2 h3
  exact ⟨v, T1, L, X1, hQ, fun t k => st.trans k⟩
end Call
/-- getfield by an entry that is resolved already -/
theorem own_getR {O n d : String} {a : Addr} {v : Value} (X : Stand p l e R s m args below meth c T locs cells slots) (hx : p.tables.exec = Jvm.exec) (hZ : Z.Warmed39 s.vm) {own : String} {index : Nat} (hown : s.vm.findClass own = some m.cls) (w : (Jvm.Cond.fieldRef own index O n d).before a0 Z = true) (eT : T.heap = h) (F : Fld Z h a O n d v)
    {g : JFrame} (hg : g.method = m) {rest : List Value} (hs : g.stack = .ref a :: rest) (hd : decode c.code g.pc = .ok (.getfield index, 3)) :
    ∀ t, Steps p.tables e below (T.setTop { g with pc := g.pc + 3, stack := v :: rest }) t → Steps p.tables e below (T.setTop g) t := by
  have hT : Z.Warmed39 T.vm := wtrans hZ X.warmed
  have w' := Cond.fieldRef_warmed39 hT w
  have hownT : (Z.setVm T.vm).vm.findClass own = some m.cls := by
    show T.vm.findClass own = _
    rw [X.warmed.alike.findClass]; exact hown
  obtain ⟨c1, k1, i1, f1, q1, q2⟩ := Cond.fieldRef_spec hownT w'
  obtain ⟨cell, cf, k, i, f, h1, h2, h3, h4, -, -, h7⟩ := F
  obtain ⟨k', hi, -⟩ := State.fieldFound?_setVm (s := Z) hT.alike h2
  cases q1.symm.trans hi
  exact fun t kt => (X.getfieldR hx hg q2 h3 hs (by rw [eT]; exact h1) h4 h7 hd (Steps.refl _)).trans kt
theorem own_Sta.keep {C n d : String} {v : Value} (S : Sta Z h C n d v) (K : Keep h h' []) : Sta Z h' C n d v := by
  obtain ⟨cf, i, k, f, st, cell, h1, h2, h3, h4, h5, h6, h7⟩ := S
  exact ⟨cf, i, k, f, st, cell, h1, h2, h3, h4, K.2.1 _ _ h5 nin0, h6, h7⟩
theorem own_imod (x y : Int32) : x - (x / y) * y = x % y := by
  apply Int32.toInt_inj.mp
  have h1 := rng32 (x % y)
  rw [Int32.toInt_sub, Int32.toInt_mul, Int32.toInt_div, Int.bmod_mul_bmod, Int.sub_bmod_bmod, Int.mul_comm (x.toInt.tdiv y.toInt), ← Int.tmod_def, ← Int32.toInt_mod]
  exact Int.bmod_eq_of_le_mul_two (by omega) (by omega)
theorem own_irem {T target : State} {g : JFrame} (h : At T m c below) (hx : p.tables.exec = Jvm.exec) (hg : g.method = m) {x y : Int32} {rest : List Value} (hd : decode c.code g.pc = .ok (.irem, 1)) (hs : g.stack = .int y :: .int x :: rest) (hy : y ≠ 0)
    (hr : Steps p.tables e below (T.setTop { g with pc := g.pc + 1, stack := .int (x % y) :: rest }) target) : Steps p.tables e below (T.setTop g) target := by
  refine XS.irem h hx hg hd hs hy ?_
  rw [own_imod x y]
  exact hr
section Cmp
theorem own_tltL {x y : Int64} (h : x < y) : ifCond.holds .lt (lcmpW x y) = true ∧ ifCond.holds .ge (lcmpW x y) = false := by
  rw [if0, if0]; exact ⟨(tlt ((lw_lt x y).mpr h)).1, (tlt ((lw_lt x y).mpr h)).2.1⟩
theorem own_fltL {x y : Int64} (h : ¬ x < y) : ifCond.holds .lt (lcmpW x y) = false ∧ ifCond.holds .ge (lcmpW x y) = true := by
  have q : ¬ lcmpW x y < 0 := fun q => h ((lw_lt x y).mp q)
  rw [if0, if0]; exact ⟨(flt q).1, (flt q).2.1⟩
theorem own_tgtL {x y : Int64} (h : y < x) : ifCond.holds .gt (lcmpW x y) = true ∧ ifCond.holds .le (lcmpW x y) = false := by
  rw [if0, if0]; exact ⟨(tlt ((lw_gt x y).mpr h)).2.2.1, (tlt ((lw_gt x y).mpr h)).2.2.2⟩
theorem own_fgtL {x y : Int64} (h : ¬ y < x) : ifCond.holds .gt (lcmpW x y) = false ∧ ifCond.holds .le (lcmpW x y) = true := by
  have q : ¬ 0 < lcmpW x y := fun q => h ((lw_gt x y).mp q)
  rw [if0, if0]; exact ⟨(flt q).2.2.1, (flt q).2.2.2⟩
theorem own_teqL {x y : Int64} (h : x = y) : ifCond.holds .eq (lcmpW x y) = true ∧ ifCond.holds .ne (lcmpW x y) = false := by
  rw [if0, if0]; exact ⟨(teq ((lw_eq x y).mpr h)).1, (teq ((lw_eq x y).mpr h)).2⟩
theorem own_feqL {x y : Int64} (h : ¬ x = y) : ifCond.holds .eq (lcmpW x y) = false ∧ ifCond.holds .ne (lcmpW x y) = true := by
  have q : ¬ lcmpW x y = 0 := fun q => h ((lw_eq x y).mp q)
  rw [if0, if0]; exact ⟨(feq q).1, (feq q).2⟩
end Cmp
/-- an array: its kind, its length, its values -/
def own_AV (Z : State) (h : Heap) (a : Addr) (ty : FieldType) (n : Nat) (f : Nat → Value) : Prop :=
  ∃ cl : Cell, Arr Z h a cl ty ∧ cl.slots.size = n ∧ (∀ i, i < n → cl.slots[i]? = some (f i)) ∧ ∀ i, i < n → fits ty (f i) = true
/-- an array of int-like values -/
def own_AI (Z : State) (h : Heap) (a : Addr) (ty : FieldType) (n : Nat) (f : Nat → Int32) : Prop := own_AV Z h a ty n (fun i => .int (f i))
def own_AL (Z : State) (h : Heap) (a : Addr) (n : Nat) (f : Nat → Int64) : Prop := own_AV Z h a .long n (fun i => .long (f i))
def own_updV (f : Nat → Value) (k : Nat) (v : Value) : Nat → Value := fun i => if i = k then v else f i
def own_upd (f : Nat → Int32) (k : Nat) (v : Int32) : Nat → Int32 := fun i => if i = k then v else f i
def own_updL (f : Nat → Int64) (k : Nat) (v : Int64) : Nat → Int64 := fun i => if i = k then v else f i
theorem own_idx {j : Int32} {k n : Nat} {cl : Cell} (S : cl.slots.size = n) (hj : j.toInt = (k : Int)) (hk : k < n) : ¬ (j < 0 ∨ cl.slots.size ≤ j.toNatClampNeg) ∧ j.toNatClampNeg = k := by
  have e0 : (0 : Int32).toInt = 0 := by decide
  have e1 : j.toNatClampNeg = k := by
    show j.toInt.toNat = k
    rw [hj]; rfl
  refine ⟨?_, e1⟩
  rintro (q | q)
  · rw [Int32.lt_iff_toInt_lt, e0, hj] at q; omega
  · rw [e1, S] at q; omega
section AV
variable {a b : Addr} {ty : FieldType} {n : Nat} {f : Nat → Value}
theorem own_AV.lt (A : own_AV Z h a ty n f) : a < h.size := by obtain ⟨cl, h1, -⟩ := A; exact h1.lt
theorem own_AV.ext (A : own_AV Z h a ty n f) (E : Ext h h') : own_AV Z h' a ty n f := by obtain ⟨cl, h1, r⟩ := A; exact ⟨cl, h1.ext E, r⟩
theorem own_AV.other (A : own_AV Z h b ty n f) {sl : Nat} {v : Value} (W : Wr h h' a sl v) (q : b ≠ a) : own_AV Z h' b ty n f := by obtain ⟨cl, h1, r⟩ := A; exact ⟨cl, h1.other W q, r⟩
theorem own_AV.keep {ws : List Addr} (A : own_AV Z h a ty n f) (K : Keep h h' ws) (q : a ∉ ws) : own_AV Z h' a ty n f := by obtain ⟨cl, h1, r⟩ := A; exact ⟨cl, ⟨K.2.1 a cl h1.1 q, h1.2⟩, r⟩
theorem own_AV.congr {g : Nat → Value} (A : own_AV Z h a ty n f) (q : ∀ i, i < n → f i = g i) : own_AV Z h a ty n g := by
  obtain ⟨cl, h1, h2, h3, h4⟩ := A
  exact ⟨cl, h1, h2, fun i hi => by rw [← q i hi]; exact h3 i hi, fun i hi => by rw [← q i hi]; exact h4 i hi⟩
theorem own_AV.new {cA : ClassId} {z : Int32} (A : Arr Z h a (newA cA ty z) ty) (hn : z.toNatClampNeg = n) (hf : fits ty (defaultValue ty) = true) : own_AV Z h a ty n (fun _ => defaultValue ty) :=
  ⟨_, A, by rw [sz_new, hn], fun i hi => by subst hn; simp only [newA, Array.getElem?_replicate, hi, if_true], fun _ _ => hf⟩
theorem own_AV.set {k : Nat} {v : Value} (F : own_AV Z h a ty n f) (hk : k < n) (hv : fits ty v = true) (W : Wr h h' a k v) : own_AV Z h' a ty n (own_updV f k v) := by
  obtain ⟨cl, A, S, H, G⟩ := F
  refine ⟨_, A.same W, by rw [sz_set, S], fun i hi => ?_, fun i hi => ?_⟩
  · by_cases q : i = k
    · subst q; simp [Cell.setSlot, own_updV, S, hk]
    · have q' : ¬ k = i := fun r => q r.symm
      simp only [Cell.setSlot, own_updV, q, if_false]
      rw [Array.getElem?_setIfInBounds_ne q']
      exact H i hi
  · by_cases q : i = k
    · simp only [own_updV, q, if_true]; exact hv
    · simp only [own_updV, q, if_false]; exact G i hi
end AV
theorem own_ninS {x y : Nat} {L : List Nat} (q : x ≠ y) (r : x ∉ L) : x ∉ y :: L := ninS q r
theorem own_AL.congr {a : Addr} {n : Nat} {f g : Nat → Int64} (A : own_AL Z h a n f) (q : ∀ i, i < n → f i = g i) : own_AL Z h a n g := own_AV.congr A fun i hi => congrArg Value.long (q i hi)
section AI
variable {a b : Addr} {ty : FieldType} {n : Nat} {f : Nat → Int32}
theorem own_AI.lt (A : own_AI Z h a ty n f) : a < h.size := own_AV.lt A
theorem own_AI.ext (A : own_AI Z h a ty n f) (E : Ext h h') : own_AI Z h' a ty n f := own_AV.ext A E
theorem own_AI.other (A : own_AI Z h b ty n f) {sl : Nat} {v : Value} (W : Wr h h' a sl v) (q : b ≠ a) : own_AI Z h' b ty n f := own_AV.other A W q
theorem own_AI.keep {ws : List Addr} (A : own_AI Z h a ty n f) (K : Keep h h' ws) (q : a ∉ ws) : own_AI Z h' a ty n f := own_AV.keep A K q
theorem own_AI.congr {g : Nat → Int32} (A : own_AI Z h a ty n f) (q : ∀ i, i < n → f i = g i) : own_AI Z h a ty n g := own_AV.congr A fun i hi => congrArg Value.int (q i hi)
theorem own_AI.set {k : Nat} {v : Int32} (F : own_AI Z h a ty n f) (hk : k < n) (hv : fits ty (.int v) = true) (W : Wr h h' a k (.int v)) : own_AI Z h' a ty n (own_upd f k v) :=
  (own_AV.set F hk hv W).congr fun i _ => by
    by_cases q : i = k <;> simp [own_updV, own_upd, q]
end AI
section Rd
variable {a : Addr} {n k : Nat} {j : Int32} {g : JFrame} {rest : List Value}
theorem own_rdI {f : Nat → Int32} (X : Stand p l e R s m args below meth c T locs cells slots) (hx : p.tables.exec = Jvm.exec) (hZ : Z.Warmed39 s.vm) (eT : T.heap = h) (A : own_AI Z h a .int n f) (hj : j.toInt = (k : Int)) (hk : k < n) (hg : g.method = m) (hs : g.stack = .int j :: .ref a :: rest) (hd : decode c.code g.pc = .ok (.iaload, 1)) :
    ∀ t, Steps p.tables e below (T.setTop { g with pc := g.pc + 1, stack := .int (f k) :: rest }) t → Steps p.tables e below (T.setTop g) t := by
  obtain ⟨cl, A1, S, H, -⟩ := A
  obtain ⟨hin, e1⟩ := own_idx S hj hk
  exact X.iaload hx (by rw [eT]; exact A1.1) (State.isArrayOf_alike hZ.alike A1.2.1) A1.2.2 hin (by rw [e1]; exact H k hk) hg hs hd
theorem own_rdB {f : Nat → Int32} (X : Stand p l e R s m args below meth c T locs cells slots) (hx : p.tables.exec = Jvm.exec) (hZ : Z.Warmed39 s.vm) (eT : T.heap = h) (A : own_AI Z h a .byte n f) (hj : j.toInt = (k : Int)) (hk : k < n) (hg : g.method = m) (hs : g.stack = .int j :: .ref a :: rest) (hd : decode c.code g.pc = .ok (.baload, 1)) :
    ∀ t, Steps p.tables e below (T.setTop { g with pc := g.pc + 1, stack := .int (f k) :: rest }) t → Steps p.tables e below (T.setTop g) t := by
  obtain ⟨cl, A1, S, H, -⟩ := A
  obtain ⟨hin, e1⟩ := own_idx S hj hk
  exact X.baloadBytes hx (by rw [eT]; exact A1.1) (State.isArrayOf_alike hZ.alike A1.2.1) A1.2.2 hin (by rw [e1]; exact H k hk) hg hs hd
theorem own_rdZ {f : Nat → Int32} (X : Stand p l e R s m args below meth c T locs cells slots) (hx : p.tables.exec = Jvm.exec) (hZ : Z.Warmed39 s.vm) (eT : T.heap = h) (A : own_AI Z h a .boolean n f) (hj : j.toInt = (k : Int)) (hk : k < n) (hg : g.method = m) (hs : g.stack = .int j :: .ref a :: rest) (hd : decode c.code g.pc = .ok (.baload, 1)) :
    ∀ t, Steps p.tables e below (T.setTop { g with pc := g.pc + 1, stack := .int (f k) :: rest }) t → Steps p.tables e below (T.setTop g) t := by
  obtain ⟨cl, A1, S, H, -⟩ := A
  obtain ⟨hin, e1⟩ := own_idx S hj hk
  exact X.baloadBooleans hx (by rw [eT]; exact A1.1) (State.isArrayOf_alike hZ.alike A1.2.1) A1.2.2 hin (by rw [e1]; exact H k hk) hg hs hd
theorem own_rdC {f : Nat → Int32} (X : Stand p l e R s m args below meth c T locs cells slots) (hx : p.tables.exec = Jvm.exec) (hZ : Z.Warmed39 s.vm) (eT : T.heap = h) (A : own_AI Z h a .char n f) (hj : j.toInt = (k : Int)) (hk : k < n) (hg : g.method = m) (hs : g.stack = .int j :: .ref a :: rest) (hd : decode c.code g.pc = .ok (.caload, 1)) :
    ∀ t, Steps p.tables e below (T.setTop { g with pc := g.pc + 1, stack := .int (f k) :: rest }) t → Steps p.tables e below (T.setTop g) t := by
  obtain ⟨cl, A1, S, H, -⟩ := A
  obtain ⟨hin, e1⟩ := own_idx S hj hk
  exact X.caload hx (by rw [eT]; exact A1.1) (State.isArrayOf_alike hZ.alike A1.2.1) A1.2.2 hin (by rw [e1]; exact H k hk) hg hs hd
theorem own_wrC {f : Nat → Int32} {x : Int32} (X : Stand p l e R s m args below meth c T locs cells slots) (hx : p.tables.exec = Jvm.exec) (hZ : Z.Warmed39 s.vm) (eT : T.heap = h) (A : own_AI Z h a .char n f) (hj : j.toInt = (k : Int)) (hk : k < n) (hg : g.method = m) (hs : g.stack = .int x :: .int j :: .ref a :: rest) (hd : decode c.code g.pc = .ok (.castore, 1)) :
    ∃ T' h', Stand p l e R s m args below meth c T' (locs ++ [⟨a, k⟩]) cells slots ∧ T'.heap = h' ∧ Wr h h' a k (.int (nar .char x)) ∧ own_AI Z h' a .char n (own_upd f k (nar .char x)) ∧ ∀ t, Steps p.tables e below (T'.setTop { g with pc := g.pc + 1, stack := rest }) t → Steps p.tables e below (T.setTop g) t := by
  have A0 := A
  obtain ⟨cl, A1, S, H, -⟩ := A
  obtain ⟨hin, e1⟩ := own_idx S hj hk
  obtain ⟨T', h', X', e', W', st⟩ := stC X hx hZ eT A1 hin hg hs hd
  rw [e1] at X' W'
  exact ⟨T', h', X', e', W', A0.set hk (fits_nar_char x) W', st⟩
theorem own_rdL {f : Nat → Int64} (X : Stand p l e R s m args below meth c T locs cells slots) (hx : p.tables.exec = Jvm.exec) (hZ : Z.Warmed39 s.vm) (eT : T.heap = h) (A : own_AL Z h a n f) (hj : j.toInt = (k : Int)) (hk : k < n) (hg : g.method = m) (hs : g.stack = .int j :: .ref a :: rest) (hd : decode c.code g.pc = .ok (.laload, 1)) :
    ∀ t, Steps p.tables e below (T.setTop { g with pc := g.pc + 1, stack := .long (f k) :: rest }) t → Steps p.tables e below (T.setTop g) t := by
  obtain ⟨cl, A1, S, H, -⟩ := A
  obtain ⟨hin, e1⟩ := own_idx S hj hk
  exact X.laload hx (by rw [eT]; exact A1.1) (State.isArrayOf_alike hZ.alike A1.2.1) A1.2.2 hin (by rw [e1]; exact H k hk) hg hs hd
theorem own_rdR {f : Nat → Value} {ty : FieldType} (X : Stand p l e R s m args below meth c T locs cells slots) (hx : p.tables.exec = Jvm.exec) (hZ : Z.Warmed39 s.vm) (eT : T.heap = h) (A : own_AV Z h a ty n f) (ht : ty.isReference = true) (hj : j.toInt = (k : Int)) (hk : k < n) (hg : g.method = m) (hs : g.stack = .int j :: .ref a :: rest) (hd : decode c.code g.pc = .ok (.aaload, 1)) :
    ∀ t, Steps p.tables e below (T.setTop { g with pc := g.pc + 1, stack := f k :: rest }) t → Steps p.tables e below (T.setTop g) t := by
  obtain ⟨cl, A1, S, H, -⟩ := A
  obtain ⟨hin, e1⟩ := own_idx S hj hk
  exact X.aaload hx (by rw [eT]; exact A1.1) (State.isArrayOf_alike hZ.alike A1.2.1) ht A1.2.2 hin (by rw [e1]; exact H k hk) hg hs hd
theorem own_len {f : Nat → Value} {ty : FieldType} {z : Int32} (X : Stand p l e R s m args below meth c T locs cells slots) (hx : p.tables.exec = Jvm.exec) (hZ : Z.Warmed39 s.vm) (eT : T.heap = h) (A : own_AV Z h a ty n f) (hz : n.toInt32 = z) (hg : g.method = m) (hs : g.stack = .ref a :: rest) (hd : decode c.code g.pc = .ok (.arraylength, 1)) :
    ∀ t, Steps p.tables e below (T.setTop { g with pc := g.pc + 1, stack := .int z :: rest }) t → Steps p.tables e below (T.setTop g) t := by
  obtain ⟨cl, A1, S, -, -⟩ := A
  subst hz S
  exact X.arraylength hx (by rw [eT]; exact A1.1) (State.isArrayOf_alike hZ.alike A1.2.1) hg hs hd
theorem own_wrI {f : Nat → Int32} {x : Int32} (X : Stand p l e R s m args below meth c T locs cells slots) (hx : p.tables.exec = Jvm.exec) (hZ : Z.Warmed39 s.vm) (eT : T.heap = h) (A : own_AI Z h a .int n f) (hj : j.toInt = (k : Int)) (hk : k < n) (hg : g.method = m) (hs : g.stack = .int x :: .int j :: .ref a :: rest) (hd : decode c.code g.pc = .ok (.iastore, 1)) :
    ∃ T' h', Stand p l e R s m args below meth c T' (locs ++ [⟨a, k⟩]) cells slots ∧ T'.heap = h' ∧ Wr h h' a k (.int x) ∧ own_AI Z h' a .int n (own_upd f k x) ∧ ∀ t, Steps p.tables e below (T'.setTop { g with pc := g.pc + 1, stack := rest }) t → Steps p.tables e below (T.setTop g) t := by
  have A0 := A
  obtain ⟨cl, A1, S, H, -⟩ := A
  obtain ⟨hin, e1⟩ := own_idx S hj hk
  obtain ⟨T', h', X', e', W', st⟩ := stI X hx hZ eT A1 hin hg hs hd
  rw [e1] at X' W'
  exact ⟨T', h', X', e', W', A0.set hk rfl W', st⟩
theorem own_wrB {f : Nat → Int32} {x : Int32} (X : Stand p l e R s m args below meth c T locs cells slots) (hx : p.tables.exec = Jvm.exec) (hZ : Z.Warmed39 s.vm) (eT : T.heap = h) (A : own_AI Z h a .byte n f) (hj : j.toInt = (k : Int)) (hk : k < n) (hg : g.method = m) (hs : g.stack = .int x :: .int j :: .ref a :: rest) (hd : decode c.code g.pc = .ok (.bastore, 1)) :
    ∃ T' h', Stand p l e R s m args below meth c T' (locs ++ [⟨a, k⟩]) cells slots ∧ T'.heap = h' ∧ Wr h h' a k (.int (nar .byte x)) ∧ own_AI Z h' a .byte n (own_upd f k (nar .byte x)) ∧ ∀ t, Steps p.tables e below (T'.setTop { g with pc := g.pc + 1, stack := rest }) t → Steps p.tables e below (T.setTop g) t := by
  have A0 := A
  obtain ⟨cl, A1, S, H, -⟩ := A
  obtain ⟨hin, e1⟩ := own_idx S hj hk
  obtain ⟨T', h', X', e', W', st⟩ := stB X hx hZ eT A1 hin hg hs hd
  rw [e1] at X' W'
  exact ⟨T', h', X', e', W', A0.set hk (fits_nar_byte x) W', st⟩
theorem own_wrZ {f : Nat → Int32} {x : Int32} (X : Stand p l e R s m args below meth c T locs cells slots) (hx : p.tables.exec = Jvm.exec) (hZ : Z.Warmed39 s.vm) (eT : T.heap = h) (A : own_AI Z h a .boolean n f) (hj : j.toInt = (k : Int)) (hk : k < n) (hg : g.method = m) (hs : g.stack = .int x :: .int j :: .ref a :: rest) (hd : decode c.code g.pc = .ok (.bastore, 1)) :
    ∃ T' h', Stand p l e R s m args below meth c T' (locs ++ [⟨a, k⟩]) cells slots ∧ T'.heap = h' ∧ Wr h h' a k (.int (nar .boolean x)) ∧ own_AI Z h' a .boolean n (own_upd f k (nar .boolean x)) ∧ ∀ t, Steps p.tables e below (T'.setTop { g with pc := g.pc + 1, stack := rest }) t → Steps p.tables e below (T.setTop g) t := by
  have A0 := A
  obtain ⟨cl, A1, S, H, -⟩ := A
  obtain ⟨hin, e1⟩ := own_idx S hj hk
  obtain ⟨T', h', X', e', W', st⟩ := stZ X hx hZ eT A1 hin hg hs hd
  rw [e1] at X' W'
  exact ⟨T', h', X', e', W', A0.set hk (fits_nar_bool x) W', st⟩
theorem own_wrL {f : Nat → Int64} {x : Int64} (X : Stand p l e R s m args below meth c T locs cells slots) (hx : p.tables.exec = Jvm.exec) (hZ : Z.Warmed39 s.vm) (eT : T.heap = h) (A : own_AL Z h a n f) (hj : j.toInt = (k : Int)) (hk : k < n) (hg : g.method = m) (hs : g.stack = .long x :: .int j :: .ref a :: rest) (hd : decode c.code g.pc = .ok (.lastore, 1)) :
    ∃ T' h', Stand p l e R s m args below meth c T' (locs ++ [⟨a, k⟩]) cells slots ∧ T'.heap = h' ∧ Wr h h' a k (.long x) ∧ own_AL Z h' a n (own_updL f k x) ∧ ∀ t, Steps p.tables e below (T'.setTop { g with pc := g.pc + 1, stack := rest }) t → Steps p.tables e below (T.setTop g) t := by
  have A0 := A
  obtain ⟨cl, A1, S, H, -⟩ := A
  obtain ⟨hin, e1⟩ := own_idx S hj hk
  obtain ⟨T', h', X', e', W', st⟩ := stJ X hx hZ eT A1 hin hg hs hd
  rw [e1] at X' W'
  exact ⟨T', h', X', e', W', (own_AV.set A0 hk rfl W').congr fun i _ => by by_cases q : i = k <;> simp [own_updV, own_updL, q], st⟩
theorem own_wrR {f : Nat → Value} {ty : FieldType} {v : Value} (X : Stand p l e R s m args below meth c T locs cells slots) (hx : p.tables.exec = Jvm.exec) (hZ : Z.Warmed39 s.vm) (eT : T.heap = h) (A : own_AV Z h a ty n f) (ht : ty.isReference = true) (hv : fits ty v = true) (F : Sto Z h a v) (hj : j.toInt = (k : Int)) (hk : k < n) (hg : g.method = m) (hs : g.stack = v :: .int j :: .ref a :: rest) (hd : decode c.code g.pc = .ok (.aastore, 1)) :
    ∃ T' h', Stand p l e R s m args below meth c T' (locs ++ [⟨a, k⟩]) cells slots ∧ T'.heap = h' ∧ Wr h h' a k v ∧ own_AV Z h' a ty n (own_updV f k v) ∧ ∀ t, Steps p.tables e below (T'.setTop { g with pc := g.pc + 1, stack := rest }) t → Steps p.tables e below (T.setTop g) t := by
  have A0 := A
  obtain ⟨cl, A1, S, H, -⟩ := A
  obtain ⟨hin, e1⟩ := own_idx S hj hk
  obtain ⟨T', h', X', e', W', st⟩ := stR X hx hZ eT A1 hin ht F hg hs hd
  rw [e1] at X' W'
  exact ⟨T', h', X', e', W', A0.set hk hv W', st⟩
/-- newarray: the fresh array at a = the heap's old size -/
theorem own_newP {aty : ArrayType} {z : Int32} (X : Stand p l e R s m args below meth c T locs cells slots) (hx : p.tables.exec = Jvm.exec) (hZ : Z.Warmed39 s.vm) (w : (Jvm.Cond.arrayClass (newarray.typeOf aty)).before a0 Z = true) (eT : T.heap = h) (hz : z.toInt = (n : Int)) (hf : fits (newarray.typeOf aty) (defaultValue (newarray.typeOf aty)) = true) (hg : g.method = m) (hs : g.stack = .int z :: rest) (hd : decode c.code g.pc = .ok (.newarray aty, 2)) {cap : Nat} (hcap : n ≤ cap) (hb : cap * 8 ≤ 536870912) (hc : cells + 1 ≤ R.cells) (hl : slots + cap ≤ R.slots) :
    ∃ T' h' a, a = h.size ∧ Stand p l e R s m args below meth c T' locs (cells + 1) (slots + cap) ∧ T'.heap = h' ∧ Ext h h' ∧ own_AV Z h' a (newarray.typeOf aty) n (fun _ => defaultValue (newarray.typeOf aty)) ∧ ∀ t, Steps p.tables e below (T'.setTop { g with pc := g.pc + 2, stack := .ref a :: rest }) t → Steps p.tables e below (T.setTop g) t := by
  have e0 : (0 : Int32).toInt = 0 := by decide
  have e1 : z.toNatClampNeg = n := by show z.toInt.toNat = n; rw [hz]; rfl
  have hn : ¬ z < 0 := by rw [Int32.lt_iff_toInt_lt, e0, hz]; omega
  obtain ⟨T', h', cA, X', e', E', A', st⟩ := newP X hx hZ w eT hg hd hs hn (by rw [e1]; exact hcap) hb hc hl
  exact ⟨T', h', _, rfl, X', e', E', own_AV.new A' e1 hf, st⟩
/-- newarray: the fresh array, its class besides -/
theorem own_newPE {aty : ArrayType} {z : Int32} (X : Stand p l e R s m args below meth c T locs cells slots) (hx : p.tables.exec = Jvm.exec) (hZ : Z.Warmed39 s.vm) (w : (Jvm.Cond.arrayClass (newarray.typeOf aty)).before a0 Z = true) (eT : T.heap = h) (hz : z.toInt = (n : Int)) (hf : fits (newarray.typeOf aty) (defaultValue (newarray.typeOf aty)) = true) (hg : g.method = m) (hs : g.stack = .int z :: rest) (hd : decode c.code g.pc = .ok (.newarray aty, 2)) {cap : Nat} (hcap : n ≤ cap) (hb : cap * 8 ≤ 536870912) (hc : cells + 1 ≤ R.cells) (hl : slots + cap ≤ R.slots) {ad : String} (had : "[" ++ (newarray.typeOf aty).toString = ad) :
    ∃ T' h' a, a = h.size ∧ Stand p l e R s m args below meth c T' locs (cells + 1) (slots + cap) ∧ T'.heap = h' ∧ Ext h h' ∧ own_AV Z h' a (newarray.typeOf aty) n (fun _ => defaultValue (newarray.typeOf aty)) ∧ Exa Z h' a ad ∧ ∀ t, Steps p.tables e below (T'.setTop { g with pc := g.pc + 2, stack := .ref a :: rest }) t → Steps p.tables e below (T.setTop g) t := by
  have e0 : (0 : Int32).toInt = 0 := by decide
  have e1 : z.toNatClampNeg = n := by show z.toInt.toNat = n; rw [hz]; rfl
  have hn : ¬ z < 0 := by rw [Int32.lt_iff_toInt_lt, e0, hz]; omega
  obtain ⟨T', h', cA, X', e', E', A', E2, st⟩ := newPE X hx hZ w eT hg hd hs hn (by rw [e1]; exact hcap) hb hc hl had
  exact ⟨T', h', _, rfl, X', e', E', own_AV.new A' e1 hf, E2, st⟩
/-- anewarray: the fresh array of references, all null; what may lie in it -/
theorem own_newR {C : String} {z : Int32} {own : String} {index : Nat} (X : Stand p l e R s m args below meth c T locs cells slots) (hx : p.tables.exec = Jvm.exec) (hZ : Z.Warmed39 s.vm) (hown : s.vm.findClass own = some m.cls) (w1 : (Jvm.Cond.classLink own index C).before a0 Z = true) (w2 : (Jvm.Cond.arrayOver (.object C)).before a0 Z = true) (eT : T.heap = h) (hz : z.toInt = (n : Int)) (hg : g.method = m) (hs : g.stack = .int z :: rest) (hd : decode c.code g.pc = .ok (.anewarray index, 3)) {cap : Nat} (hcap : n ≤ cap) (hb : cap * 8 ≤ 536870912) (hc : cells + 1 ≤ R.cells) (hl : slots + cap ≤ R.slots) :
    ∃ T' h' a, a = h.size ∧ Stand p l e R s m args below meth c T' locs (cells + 1) (slots + cap) ∧ T'.heap = h' ∧ Ext h h' ∧ own_AV Z h' a (.object C) n (fun _ => .null) ∧ (∃ cl : Cell, h'[a]? = some cl ∧ Ovr Z cl.cls C) ∧ ∀ t, Steps p.tables e below (T'.setTop { g with pc := g.pc + 3, stack := .ref a :: rest }) t → Steps p.tables e below (T.setTop g) t := by
  have e0 : (0 : Int32).toInt = 0 := by decide
  have e1 : z.toNatClampNeg = n := by show z.toInt.toNat = n; rw [hz]; rfl
  have hn : ¬ z < 0 := by rw [Int32.lt_iff_toInt_lt, e0, hz]; omega
  obtain ⟨T', h', cA, X', e', E', A', O', st⟩ := newR X hx hZ hown w1 w2 eT hg hd hs hn (by rw [e1]; exact hcap) hb hc hl
  exact ⟨T', h', _, rfl, X', e', E', own_AV.new A' e1 rfl, ⟨_, A'.1, O'⟩, st⟩
/-- the array over class C at a takes an object of C -/
def own_Ov (Z : State) (h : Heap) (a : Addr) (C : String) : Prop := ∃ cl : Cell, h[a]? = some cl ∧ Ovr Z cl.cls C
theorem own_Ov.keep {a : Addr} {C : String} {ws : List Addr} (O : own_Ov Z h a C) (K : Keep h h' ws) : own_Ov Z h' a C := by
  obtain ⟨cl, h1, h2⟩ := O
  obtain ⟨c', q1, q2, -, -⟩ := K.2.2 a cl h1
  exact ⟨c', q1, by rw [q2]; exact h2⟩
theorem own_Ov.sto {a y : Addr} {C : String} {ty : FieldType} {f : Nat → Value} (O : own_Ov Z h a C) (A : own_AV Z h a ty n f) (I : Ins Z h y C true) : Sto Z h a (.ref y) := by
  obtain ⟨cl, h1, h2⟩ := O
  obtain ⟨c2, A2, -⟩ := A
  cases h1.symm.trans A2.1
  exact Sto.of A2 h2 I
/-- clone() of an array -/
theorem own_clone {own ad : String} {index : Nat} {ty : FieldType} {f : Nat → Value} (X : Stand p l e R s m args below meth c T locs cells slots) (hx : p.tables.exec = Jvm.exec) (hZ : Z.Warmed39 s.vm) (hown : s.vm.findClass own = some m.cls)
    (w1 : (Jvm.Cond.methodLink own index ⟨ad, "clone", "()Ljava/lang/Object;"⟩).before a0 Z = true) (w2 : (Jvm.Cond.sameMethod ad "java/lang/Object" "clone" "()Ljava/lang/Object;").before a0 Z = true) (w3 : (Jvm.Cond.native ⟨"java/lang/Object", "clone", "()Ljava/lang/Object;"⟩).before a0 Z = true)
    (w4 : (Jvm.Cond.instanceMethod ⟨"java/lang/Object", "clone", "()Ljava/lang/Object;"⟩).before a0 Z = true) (w5 : (Jvm.Cond.selects ad ⟨ad, "clone", "()Ljava/lang/Object;"⟩ ⟨"java/lang/Object", "clone", "()Ljava/lang/Object;"⟩).before a0 Z = true) (w6 : (Jvm.Cond.castable ad "java/lang/Cloneable").before a0 Z = true)
    (eT : T.heap = h) (A : own_AV Z h a ty n f) (E : Exa Z h a ad) (hg : g.method = m) (hsize : g.locals.size = c.maxLocals) (hs : g.stack = .ref a :: rest) (hd : decode c.code g.pc = .ok (.invokevirtual index, 3))
    (hf : 1 ≤ R.frames) {W : Nat} (hW : 2 * g.monitorRoom + (rest.map fun v => v.category).sum ≤ W) (hl : W + 14 ≤ R.locals) (hc : cells + 1 ≤ R.cells) (hsl : slots + n ≤ R.slots) :
    ∃ T' h' b, b = h.size ∧ Stand p l e R s m args below meth c T' locs (cells + 1) (slots + n) ∧ T'.heap = h' ∧ Ext h h' ∧ own_AV Z h' b ty n f ∧ Exa Z h' b ad ∧ ∀ t, Steps p.tables e below (T'.setTop { g with pc := g.pc + 3, stack := .ref b :: rest }) t → Steps p.tables e below (T.setTop g) t := by
  obtain ⟨cl, A1, S, H, G⟩ := A
  have F : FitC Z cl := fitC_of A1 fun i hi v hv => by
    rw [S] at hi
    rw [H i hi] at hv
    cases hv
    exact G i hi
  obtain ⟨T', h', X', e', E', A', E2, st⟩ := cloneA X hx hZ hown w1 w2 w3 w4 w5 w6 eT A1 E F hg hsize hs hd hf hW hl (Nat.le_of_eq S) hc hsl
  exact ⟨T', h', _, rfl, X', e', E', ⟨_, A', S, H, G⟩, E2, st⟩
end Rd
end Own
end Jvm.RoadKit
namespace Jvm.Pilot.@@N@@
open Jvm Jvm.ClassFile Sem Op Lib Jvm.Free Jvm.Stand Jvm.LawKit Jvm.RoadKit Bundle Jvm.Pilot.@@N@@.Jvm.D
theorem own_eqI {x y : Int32} (h : x.toInt = y.toInt) : x = y := Int32.toInt_inj.mp h
def own_Dv (Z : State) (h : Heap) (q r d : Nat) (t : Int32) (R : Nat → Int32) : Prop :=
  Exa Z h q "com/example/kingsround/kingsround/engine/Deliveries$Delivered" ∧ Fld Z h q "com/example/kingsround/kingsround/engine/Deliveries$Delivered" "this$0" "Lcom/example/kingsround/kingsround/engine/Deliveries;" (.ref d) ∧ Fld Z h q "com/example/kingsround/kingsround/engine/Deliveries$Delivered" "to" "I" (.int t) ∧ Fld Z h q "com/example/kingsround/kingsround/engine/Deliveries$Delivered" "received" "[B" (.ref r) ∧ own_AI Z h r .byte 3 R
theorem own_Dv.keep {Z : State} {h h' : Heap} {q r d : Nat} {t : Int32} {R : Nat → Int32} {ws : List Addr} (D : own_Dv Z h q r d t R) (K : Keep h h' ws) (n1 : q ∉ ws) (n2 : r ∉ ws) : own_Dv Z h' q r d t R :=
  ⟨D.1.keep K, D.2.1.keep K n1, D.2.2.1.keep K n1, D.2.2.2.1.keep K n1, D.2.2.2.2.keep K n2⟩
def own_D (Z : State) (h : Heap) (d ib kp ta ob : Nat) (q r : Nat → Nat) (K T O : Nat → Int32) (R : Nat → Nat → Int32) (cnt : Int64) : Prop :=
  Exa Z h d "com/example/kingsround/kingsround/engine/Deliveries" ∧ Fld Z h d "com/example/kingsround/kingsround/engine/Deliveries" "inboxes" "[Lcom/example/kingsround/kingsround/engine/Deliveries$Delivered;" (.ref ib) ∧ Fld Z h d "com/example/kingsround/kingsround/engine/Deliveries" "kept" "[Z" (.ref kp) ∧ Fld Z h d "com/example/kingsround/kingsround/engine/Deliveries" "toAll" "[B" (.ref ta) ∧ Fld Z h d "com/example/kingsround/kingsround/engine/Deliveries" "oneByOne" "[Z" (.ref ob) ∧ Fld Z h d "com/example/kingsround/kingsround/engine/Deliveries" "count" "J" (.long cnt) ∧
  own_AV Z h ib (.object "com/example/kingsround/kingsround/engine/Deliveries$Delivered") 3 (fun i => .ref (q i)) ∧ own_AI Z h kp .boolean 3 K ∧ own_AI Z h ta .byte 3 T ∧ own_AI Z h ob .boolean 3 O ∧ ∀ i, i < 3 → own_Dv Z h (q i) (r i) d (Int32.ofNat (i + 1)) (R i)
/-- where they lie -/
def own_Ad (n0 : Nat) (d ib kp ta ob : Nat) (q r : Nat → Nat) : Prop := n0 ≤ d ∧ d < ib ∧ ib < q 0 ∧ q 0 < r 0 ∧ r 0 < q 1 ∧ q 1 < r 1 ∧ r 1 < q 2 ∧ q 2 < r 2 ∧ r 2 < kp ∧ kp < ta ∧ ta < ob
theorem own_lt3 {i : Nat} (h : i < 3) : i = 0 ∨ i = 1 ∨ i = 2 := by omega

theorem own_d4_0 : decode jdk_65_method_109_code 0 = .ok (.iconst 0, 1) := by decide +kernel
theorem own_d4_1 : decode jdk_65_method_109_code 1 = .ok (.istore_n 2, 1) := by decide +kernel
theorem own_d4_2 : decode jdk_65_method_109_code 2 = .ok (.aload_n 0, 1) := by decide +kernel
theorem own_d4_3 : decode jdk_65_method_109_code 3 = .ok (.arraylength, 1) := by decide +kernel
theorem own_d4_4 : decode jdk_65_method_109_code 4 = .ok (.istore_n 3, 1) := by decide +kernel
theorem own_d4_5 : decode jdk_65_method_109_code 5 = .ok (.iload_n 2, 1) := by decide +kernel
theorem own_d4_6 : decode jdk_65_method_109_code 6 = .ok (.iload_n 3, 1) := by decide +kernel
theorem own_d4_7 : decode jdk_65_method_109_code 7 = .ok (.if_icmp .ge 13, 3) := by decide +kernel
theorem own_d4_10 : decode jdk_65_method_109_code 10 = .ok (.aload_n 0, 1) := by decide +kernel
theorem own_d4_11 : decode jdk_65_method_109_code 11 = .ok (.iload_n 2, 1) := by decide +kernel
theorem own_d4_12 : decode jdk_65_method_109_code 12 = .ok (.iload_n 1, 1) := by decide +kernel
theorem own_d4_13 : decode jdk_65_method_109_code 13 = .ok (.bastore, 1) := by decide +kernel
theorem own_d4_14 : decode jdk_65_method_109_code 14 = .ok (.iinc 2 1, 3) := by decide +kernel
theorem own_d4_17 : decode jdk_65_method_109_code 17 = .ok (.goto (-12), 3) := by decide +kernel
theorem own_d4_20 : decode jdk_65_method_109_code 20 = .ok (.return_, 1) := by decide +kernel
theorem own_pn0 : plainName "java/util/Arrays" = true := by first | (simp [plainName, overriddenIn]; done) | decide +kernel
theorem own_effil (m : MethodId) (a : Nat) (x : Int32) : entryFrame m #[(.ref a), (.int x)] 4 = mkF m 0 #[rv a, iv x, .unset, .unset] [] := by first | (simp [entryFrame, mkF, argsToLocals, Value.category]; done) | rfl
set_option maxRecDepth 65536 in
set_option maxHeartbeats 40000000 in
theorem own_rmfil (l : Launch) (Z : State) (a0 : Array Value) (hw : ∀ d ∈ tables_1, d.before a0 Z = true) (a : Nat) (x : Int32) (f : Nat → Int32) (h0 : Heap) (n0 : Nat) (Z0 : n0 ≤ h0.size) (A : own_AI Z h0 a .byte 3 f) (g_a : n0 ≤ a) :
    own_Ct l Z (⟨"java/util/Arrays", "fill", "([BB)V"⟩ : MethodName) jdk_65_method_109_code 4 none ({ frames := 0, cells := 0, slots := 0, locals := 0 } : Room) #[(.ref a), (.int x)] h0 (fun v h L => v = none ∧ Fr n0 L ∧ Keep h0 h [a] ∧ own_AI Z h a .byte 3 (fun _ => nar .byte x)) := by
  refine own_body (y := (⟨"java/util/Arrays", "fill", "([BB)V"⟩ : MethodName)) (Q := fun v h L => v = none ∧ Fr n0 L ∧ Keep h0 h [a] ∧ own_AI Z h a .byte 3 (fun _ => nar .byte x)) (plainFor_of_name own_pn0) ?_
  intro p e s m below meth c s₁ Bd hml0 hZ e0
  have hx := Bd.exec
  have hby := Bd.bytes
  have hml : c.maxLocals = 4 := hml0
  have hown : s.vm.findClass "java/util/Arrays" = some m.cls := findClass_of_methodNamed Bd.named
  have hnm := (name_of_methodNamed Bd.named Bd.method).1
  have X0 : Stand p l e ({ frames := 0, cells := 0, slots := 0, locals := 0 } : Room) s m #[(.ref a), (.int x)] below meth c s₁ [] 0 0 := Stand.of_body Bd
  have N0 := Fr.nil n0
  rw [own_effil]
  have sg1 : own_V p e below s₁ (mkF m 5 #[rv a, iv x, iv (0 : Int32), iv (3 : Int32)] []) (mkF m 0 #[rv a, iv x, .unset, .unset] []) := by
    intro t kt
    refine XS.iconst X0.here hx rfl (hb hby own_d4_0) ?_
    show own_S p e below s₁ m 1 #[rv a, iv x, .unset, .unset] [(.int (0 : Int32))] _
    refine XS.istoreN X0.here hx rfl (hb hby own_d4_1) rfl (l' := #[rv a, iv x, iv (0 : Int32), .unset]) rfl ?_
    show own_S p e below s₁ m 2 #[rv a, iv x, iv (0 : Int32), .unset] [] _
    refine XS.aloadN X0.here hx rfl (hb hby own_d4_2) rfl rfl ?_
    show own_S p e below s₁ m 3 #[rv a, iv x, iv (0 : Int32), .unset] [(.ref a)] _
    refine own_len (z := (3 : Int32)) X0 hx hZ e0 A (by decide) (g := (mkF m 3 #[rv a, iv x, iv (0 : Int32), .unset] [(.ref a)])) rfl rfl (hb hby own_d4_3) _ ?_
    show own_S p e below s₁ m 4 #[rv a, iv x, iv (0 : Int32), .unset] [(.int (3 : Int32))] _
    refine XS.istoreN X0.here hx rfl (hb hby own_d4_4) rfl (l' := #[rv a, iv x, iv (0 : Int32), iv (3 : Int32)]) rfl ?_
    show own_S p e below s₁ m 5 #[rv a, iv x, iv (0 : Int32), iv (3 : Int32)] [] _
    exact kt
  refine own_st sg1 ?_
  have sg2 : own_V p e below s₁ (mkF m 7 #[rv a, iv x, iv (0 : Int32), iv (3 : Int32)] [(.int (3 : Int32)), (.int (0 : Int32))]) (mkF m 5 #[rv a, iv x, iv (0 : Int32), iv (3 : Int32)] []) := by
    intro t kt
    refine XS.iloadN X0.here hx rfl (hb hby own_d4_5) rfl ?_
    show own_S p e below s₁ m 6 #[rv a, iv x, iv (0 : Int32), iv (3 : Int32)] [(.int (0 : Int32))] _
    refine XS.iloadN X0.here hx rfl (hb hby own_d4_6) rfl ?_
    show own_S p e below s₁ m 7 #[rv a, iv x, iv (0 : Int32), iv (3 : Int32)] [(.int (3 : Int32)), (.int (0 : Int32))] _
    exact kt
  refine own_st sg2 ?_
  have sg4 : own_V p e below s₁ (mkF m 10 #[rv a, iv x, iv (0 : Int32), iv (3 : Int32)] []) (mkF m 7 #[rv a, iv x, iv (0 : Int32), iv (3 : Int32)] [(.int (3 : Int32)), (.int (0 : Int32))]) := by
    intro t kt
    refine XS.icmpNo X0.here hx rfl (hb hby own_d4_7) rfl (tlt (by decide : (0 : Int32) < (3 : Int32))).2.1 ?_
    exact kt
  refine own_st sg4 ?_
  have sg5 : own_V p e below s₁ (mkF m 13 #[rv a, iv x, iv (0 : Int32), iv (3 : Int32)] [(.int x), (.int (0 : Int32)), (.ref a)]) (mkF m 10 #[rv a, iv x, iv (0 : Int32), iv (3 : Int32)] []) := by
    intro t kt
    refine XS.aloadN X0.here hx rfl (hb hby own_d4_10) rfl rfl ?_
    show own_S p e below s₁ m 11 #[rv a, iv x, iv (0 : Int32), iv (3 : Int32)] [(.ref a)] _
    refine XS.iloadN X0.here hx rfl (hb hby own_d4_11) rfl ?_
    show own_S p e below s₁ m 12 #[rv a, iv x, iv (0 : Int32), iv (3 : Int32)] [(.int (0 : Int32)), (.ref a)] _
    refine XS.iloadN X0.here hx rfl (hb hby own_d4_12) rfl ?_
    show own_S p e below s₁ m 13 #[rv a, iv x, iv (0 : Int32), iv (3 : Int32)] [(.int x), (.int (0 : Int32)), (.ref a)] _
    exact kt
  refine own_st sg5 ?_
  obtain ⟨T6, h6, X6, e6, W6, A6, st6⟩ := own_wrB X0 hx hZ e0 A (k := 0) (by decide) (by decide) (g := (mkF m 13 #[rv a, iv x, iv (0 : Int32), iv (3 : Int32)] [(.int x), (.int (0 : Int32)), (.ref a)])) rfl rfl (hb hby own_d4_13)
  refine own_st st6 ?_
  have Z6 : n0 ≤ h6.size := by rw [Wr.size W6]; exact Z0
  have N6 := Fr.snoc X6 N0 g_a
  show own_Go p e below _ T6 (mkF m 14 #[rv a, iv x, iv (0 : Int32), iv (3 : Int32)] [])
  have K6 : Keep h0 h6 [a] := (Keep.refl h0 [a]).wr W6 (Or.inl (List.mem_of_getElem? (i := 0) rfl))
  have sg7 : own_V p e below T6 (mkF m 5 #[rv a, iv x, iv ((0 : Int32) + (1 : Int32)), iv (3 : Int32)] []) (mkF m 14 #[rv a, iv x, iv (0 : Int32), iv (3 : Int32)] []) := by
    intro t kt
    refine XS.iinc X6.here hx rfl (hb hby own_d4_14) rfl (l' := #[rv a, iv x, iv ((0 : Int32) + (1 : Int32)), iv (3 : Int32)]) rfl ?_
    show own_S p e below T6 m 17 #[rv a, iv x, iv ((0 : Int32) + (1 : Int32)), iv (3 : Int32)] [] _
    refine XS.goto X6.here hx rfl (pc0 := 17) (pc' := 5) rfl (hb hby own_d4_17) (by decide) (by decide) ?_
    show own_S p e below T6 m 5 #[rv a, iv x, iv ((0 : Int32) + (1 : Int32)), iv (3 : Int32)] [] _
    exact kt
  refine own_st sg7 ?_
  have sg8 : own_V p e below T6 (mkF m 7 #[rv a, iv x, iv ((0 : Int32) + (1 : Int32)), iv (3 : Int32)] [(.int (3 : Int32)), (.int ((0 : Int32) + (1 : Int32)))]) (mkF m 5 #[rv a, iv x, iv ((0 : Int32) + (1 : Int32)), iv (3 : Int32)] []) := by
    intro t kt
    refine XS.iloadN X6.here hx rfl (hb hby own_d4_5) rfl ?_
    show own_S p e below T6 m 6 #[rv a, iv x, iv ((0 : Int32) + (1 : Int32)), iv (3 : Int32)] [(.int ((0 : Int32) + (1 : Int32)))] _
    refine XS.iloadN X6.here hx rfl (hb hby own_d4_6) rfl ?_
    show own_S p e below T6 m 7 #[rv a, iv x, iv ((0 : Int32) + (1 : Int32)), iv (3 : Int32)] [(.int (3 : Int32)), (.int ((0 : Int32) + (1 : Int32)))] _
    exact kt
  refine own_st sg8 ?_
  have sg10 : own_V p e below T6 (mkF m 10 #[rv a, iv x, iv ((0 : Int32) + (1 : Int32)), iv (3 : Int32)] []) (mkF m 7 #[rv a, iv x, iv ((0 : Int32) + (1 : Int32)), iv (3 : Int32)] [(.int (3 : Int32)), (.int ((0 : Int32) + (1 : Int32)))]) := by
    intro t kt
    refine XS.icmpNo X6.here hx rfl (hb hby own_d4_7) rfl (tlt (by decide : ((0 : Int32) + (1 : Int32)) < (3 : Int32))).2.1 ?_
    exact kt
  refine own_st sg10 ?_
  have sg11 : own_V p e below T6 (mkF m 13 #[rv a, iv x, iv ((0 : Int32) + (1 : Int32)), iv (3 : Int32)] [(.int x), (.int ((0 : Int32) + (1 : Int32))), (.ref a)]) (mkF m 10 #[rv a, iv x, iv ((0 : Int32) + (1 : Int32)), iv (3 : Int32)] []) := by
    intro t kt
    refine XS.aloadN X6.here hx rfl (hb hby own_d4_10) rfl rfl ?_
    show own_S p e below T6 m 11 #[rv a, iv x, iv ((0 : Int32) + (1 : Int32)), iv (3 : Int32)] [(.ref a)] _
    refine XS.iloadN X6.here hx rfl (hb hby own_d4_11) rfl ?_
    show own_S p e below T6 m 12 #[rv a, iv x, iv ((0 : Int32) + (1 : Int32)), iv (3 : Int32)] [(.int ((0 : Int32) + (1 : Int32))), (.ref a)] _
    refine XS.iloadN X6.here hx rfl (hb hby own_d4_12) rfl ?_
    show own_S p e below T6 m 13 #[rv a, iv x, iv ((0 : Int32) + (1 : Int32)), iv (3 : Int32)] [(.int x), (.int ((0 : Int32) + (1 : Int32))), (.ref a)] _
    exact kt
  refine own_st sg11 ?_
  obtain ⟨T12, h12, X12, e12, W12, A12, st12⟩ := own_wrB X6 hx hZ e6 A6 (k := 1) (by decide) (by decide) (g := (mkF m 13 #[rv a, iv x, iv ((0 : Int32) + (1 : Int32)), iv (3 : Int32)] [(.int x), (.int ((0 : Int32) + (1 : Int32))), (.ref a)])) rfl rfl (hb hby own_d4_13)
  refine own_st st12 ?_
  have Z12 : n0 ≤ h12.size := by rw [Wr.size W12]; exact Z6
  have N12 := Fr.snoc X12 N6 g_a
  show own_Go p e below _ T12 (mkF m 14 #[rv a, iv x, iv ((0 : Int32) + (1 : Int32)), iv (3 : Int32)] [])
  have K12 : Keep h0 h12 [a] := K6.wr W12 (Or.inl (List.mem_of_getElem? (i := 0) rfl))
  have sg13 : own_V p e below T12 (mkF m 5 #[rv a, iv x, iv (((0 : Int32) + (1 : Int32)) + (1 : Int32)), iv (3 : Int32)] []) (mkF m 14 #[rv a, iv x, iv ((0 : Int32) + (1 : Int32)), iv (3 : Int32)] []) := by
    intro t kt
    refine XS.iinc X12.here hx rfl (hb hby own_d4_14) rfl (l' := #[rv a, iv x, iv (((0 : Int32) + (1 : Int32)) + (1 : Int32)), iv (3 : Int32)]) rfl ?_
    show own_S p e below T12 m 17 #[rv a, iv x, iv (((0 : Int32) + (1 : Int32)) + (1 : Int32)), iv (3 : Int32)] [] _
    refine XS.goto X12.here hx rfl (pc0 := 17) (pc' := 5) rfl (hb hby own_d4_17) (by decide) (by decide) ?_
    show own_S p e below T12 m 5 #[rv a, iv x, iv (((0 : Int32) + (1 : Int32)) + (1 : Int32)), iv (3 : Int32)] [] _
    exact kt
  refine own_st sg13 ?_
  have sg14 : own_V p e below T12 (mkF m 7 #[rv a, iv x, iv (((0 : Int32) + (1 : Int32)) + (1 : Int32)), iv (3 : Int32)] [(.int (3 : Int32)), (.int (((0 : Int32) + (1 : Int32)) + (1 : Int32)))]) (mkF m 5 #[rv a, iv x, iv (((0 : Int32) + (1 : Int32)) + (1 : Int32)), iv (3 : Int32)] []) := by
    intro t kt
    refine XS.iloadN X12.here hx rfl (hb hby own_d4_5) rfl ?_
    show own_S p e below T12 m 6 #[rv a, iv x, iv (((0 : Int32) + (1 : Int32)) + (1 : Int32)), iv (3 : Int32)] [(.int (((0 : Int32) + (1 : Int32)) + (1 : Int32)))] _
    refine XS.iloadN X12.here hx rfl (hb hby own_d4_6) rfl ?_
    show own_S p e below T12 m 7 #[rv a, iv x, iv (((0 : Int32) + (1 : Int32)) + (1 : Int32)), iv (3 : Int32)] [(.int (3 : Int32)), (.int (((0 : Int32) + (1 : Int32)) + (1 : Int32)))] _
    exact kt
  refine own_st sg14 ?_
  have sg16 : own_V p e below T12 (mkF m 10 #[rv a, iv x, iv (((0 : Int32) + (1 : Int32)) + (1 : Int32)), iv (3 : Int32)] []) (mkF m 7 #[rv a, iv x, iv (((0 : Int32) + (1 : Int32)) + (1 : Int32)), iv (3 : Int32)] [(.int (3 : Int32)), (.int (((0 : Int32) + (1 : Int32)) + (1 : Int32)))]) := by
    intro t kt
    refine XS.icmpNo X12.here hx rfl (hb hby own_d4_7) rfl (tlt (by decide : (((0 : Int32) + (1 : Int32)) + (1 : Int32)) < (3 : Int32))).2.1 ?_
    exact kt
  refine own_st sg16 ?_
  have sg17 : own_V p e below T12 (mkF m 13 #[rv a, iv x, iv (((0 : Int32) + (1 : Int32)) + (1 : Int32)), iv (3 : Int32)] [(.int x), (.int (((0 : Int32) + (1 : Int32)) + (1 : Int32))), (.ref a)]) (mkF m 10 #[rv a, iv x, iv (((0 : Int32) + (1 : Int32)) + (1 : Int32)), iv (3 : Int32)] []) := by
    intro t kt
    refine XS.aloadN X12.here hx rfl (hb hby own_d4_10) rfl rfl ?_
    show own_S p e below T12 m 11 #[rv a, iv x, iv (((0 : Int32) + (1 : Int32)) + (1 : Int32)), iv (3 : Int32)] [(.ref a)] _
    refine XS.iloadN X12.here hx rfl (hb hby own_d4_11) rfl ?_
    show own_S p e below T12 m 12 #[rv a, iv x, iv (((0 : Int32) + (1 : Int32)) + (1 : Int32)), iv (3 : Int32)] [(.int (((0 : Int32) + (1 : Int32)) + (1 : Int32))), (.ref a)] _
    refine XS.iloadN X12.here hx rfl (hb hby own_d4_12) rfl ?_
    show own_S p e below T12 m 13 #[rv a, iv x, iv (((0 : Int32) + (1 : Int32)) + (1 : Int32)), iv (3 : Int32)] [(.int x), (.int (((0 : Int32) + (1 : Int32)) + (1 : Int32))), (.ref a)] _
    exact kt
  refine own_st sg17 ?_
  obtain ⟨T18, h18, X18, e18, W18, A18, st18⟩ := own_wrB X12 hx hZ e12 A12 (k := 2) (by decide) (by decide) (g := (mkF m 13 #[rv a, iv x, iv (((0 : Int32) + (1 : Int32)) + (1 : Int32)), iv (3 : Int32)] [(.int x), (.int (((0 : Int32) + (1 : Int32)) + (1 : Int32))), (.ref a)])) rfl rfl (hb hby own_d4_13)
  refine own_st st18 ?_
  have Z18 : n0 ≤ h18.size := by rw [Wr.size W18]; exact Z12
  have N18 := Fr.snoc X18 N12 g_a
  show own_Go p e below _ T18 (mkF m 14 #[rv a, iv x, iv (((0 : Int32) + (1 : Int32)) + (1 : Int32)), iv (3 : Int32)] [])
  have K18 : Keep h0 h18 [a] := K12.wr W18 (Or.inl (List.mem_of_getElem? (i := 0) rfl))
  have sg19 : own_V p e below T18 (mkF m 5 #[rv a, iv x, iv ((((0 : Int32) + (1 : Int32)) + (1 : Int32)) + (1 : Int32)), iv (3 : Int32)] []) (mkF m 14 #[rv a, iv x, iv (((0 : Int32) + (1 : Int32)) + (1 : Int32)), iv (3 : Int32)] []) := by
    intro t kt
    refine XS.iinc X18.here hx rfl (hb hby own_d4_14) rfl (l' := #[rv a, iv x, iv ((((0 : Int32) + (1 : Int32)) + (1 : Int32)) + (1 : Int32)), iv (3 : Int32)]) rfl ?_
    show own_S p e below T18 m 17 #[rv a, iv x, iv ((((0 : Int32) + (1 : Int32)) + (1 : Int32)) + (1 : Int32)), iv (3 : Int32)] [] _
    refine XS.goto X18.here hx rfl (pc0 := 17) (pc' := 5) rfl (hb hby own_d4_17) (by decide) (by decide) ?_
    show own_S p e below T18 m 5 #[rv a, iv x, iv ((((0 : Int32) + (1 : Int32)) + (1 : Int32)) + (1 : Int32)), iv (3 : Int32)] [] _
    exact kt
  refine own_st sg19 ?_
  have sg20 : own_V p e below T18 (mkF m 7 #[rv a, iv x, iv ((((0 : Int32) + (1 : Int32)) + (1 : Int32)) + (1 : Int32)), iv (3 : Int32)] [(.int (3 : Int32)), (.int ((((0 : Int32) + (1 : Int32)) + (1 : Int32)) + (1 : Int32)))]) (mkF m 5 #[rv a, iv x, iv ((((0 : Int32) + (1 : Int32)) + (1 : Int32)) + (1 : Int32)), iv (3 : Int32)] []) := by
    intro t kt
    refine XS.iloadN X18.here hx rfl (hb hby own_d4_5) rfl ?_
    show own_S p e below T18 m 6 #[rv a, iv x, iv ((((0 : Int32) + (1 : Int32)) + (1 : Int32)) + (1 : Int32)), iv (3 : Int32)] [(.int ((((0 : Int32) + (1 : Int32)) + (1 : Int32)) + (1 : Int32)))] _
    refine XS.iloadN X18.here hx rfl (hb hby own_d4_6) rfl ?_
    show own_S p e below T18 m 7 #[rv a, iv x, iv ((((0 : Int32) + (1 : Int32)) + (1 : Int32)) + (1 : Int32)), iv (3 : Int32)] [(.int (3 : Int32)), (.int ((((0 : Int32) + (1 : Int32)) + (1 : Int32)) + (1 : Int32)))] _
    exact kt
  refine own_st sg20 ?_
  have sg22 : own_V p e below T18 (mkF m 20 #[rv a, iv x, iv ((((0 : Int32) + (1 : Int32)) + (1 : Int32)) + (1 : Int32)), iv (3 : Int32)] []) (mkF m 7 #[rv a, iv x, iv ((((0 : Int32) + (1 : Int32)) + (1 : Int32)) + (1 : Int32)), iv (3 : Int32)] [(.int (3 : Int32)), (.int ((((0 : Int32) + (1 : Int32)) + (1 : Int32)) + (1 : Int32)))]) := by
    intro t kt
    refine XS.icmpYes X18.here hx rfl (pc0 := 7) (pc' := 20) rfl (hb hby own_d4_7) rfl (flt (by decide : ¬ ((((0 : Int32) + (1 : Int32)) + (1 : Int32)) + (1 : Int32)) < (3 : Int32))).2.1 (by decide) (by decide) ?_
    exact kt
  refine own_st sg22 ?_
  have AF : own_AI Z h18 a .byte 3 (fun _ => nar .byte x) := A18.congr (fun i hi => by rcases own_lt3 hi with rfl | rfl | rfl <;> rfl)
  exact own_retV X18 hx Bd.notSynchronized Bd.returns (hb hby own_d4_20) (by decide) (by decide) e18 ⟨rfl, N18, K18, AF⟩
theorem own_d5_0 : decode prog_65_method_13_code 0 = .ok (.iconst 0, 1) := by decide +kernel
theorem own_d5_1 : decode prog_65_method_13_code 1 = .ok (.istore_n 1, 1) := by decide +kernel
theorem own_d5_2 : decode prog_65_method_13_code 2 = .ok (.aload_n 0, 1) := by decide +kernel
theorem own_d5_3 : decode prog_65_method_13_code 3 = .ok (.astore_n 2, 1) := by decide +kernel
theorem own_d5_4 : decode prog_65_method_13_code 4 = .ok (.aload_n 2, 1) := by decide +kernel
theorem own_d5_5 : decode prog_65_method_13_code 5 = .ok (.arraylength, 1) := by decide +kernel
theorem own_d5_6 : decode prog_65_method_13_code 6 = .ok (.istore_n 3, 1) := by decide +kernel
theorem own_d5_7 : decode prog_65_method_13_code 7 = .ok (.iconst 0, 1) := by decide +kernel
theorem own_d5_8 : decode prog_65_method_13_code 8 = .ok (.istore 4, 2) := by decide +kernel
theorem own_d5_10 : decode prog_65_method_13_code 10 = .ok (.iload 4, 2) := by decide +kernel
theorem own_d5_12 : decode prog_65_method_13_code 12 = .ok (.iload_n 3, 1) := by decide +kernel
theorem own_d5_13 : decode prog_65_method_13_code 13 = .ok (.if_icmp .ge 28, 3) := by decide +kernel
theorem own_d5_16 : decode prog_65_method_13_code 16 = .ok (.aload_n 2, 1) := by decide +kernel
theorem own_d5_17 : decode prog_65_method_13_code 17 = .ok (.iload 4, 2) := by decide +kernel
theorem own_d5_19 : decode prog_65_method_13_code 19 = .ok (.baload, 1) := by decide +kernel
theorem own_d5_20 : decode prog_65_method_13_code 20 = .ok (.istore 5, 2) := by decide +kernel
theorem own_d5_22 : decode prog_65_method_13_code 22 = .ok (.iload_n 1, 1) := by decide +kernel
theorem own_d5_23 : decode prog_65_method_13_code 23 = .ok (.iload 5, 2) := by decide +kernel
theorem own_d5_25 : decode prog_65_method_13_code 25 = .ok (.ifCond .eq 7, 3) := by decide +kernel
theorem own_d5_28 : decode prog_65_method_13_code 28 = .ok (.iconst 1, 1) := by decide +kernel
theorem own_d5_29 : decode prog_65_method_13_code 29 = .ok (.goto 4, 3) := by decide +kernel
theorem own_d5_32 : decode prog_65_method_13_code 32 = .ok (.iconst 0, 1) := by decide +kernel
theorem own_d5_33 : decode prog_65_method_13_code 33 = .ok (.iadd, 1) := by decide +kernel
theorem own_d5_34 : decode prog_65_method_13_code 34 = .ok (.istore_n 1, 1) := by decide +kernel
theorem own_d5_35 : decode prog_65_method_13_code 35 = .ok (.iinc 4 1, 3) := by decide +kernel
theorem own_d5_38 : decode prog_65_method_13_code 38 = .ok (.goto (-28), 3) := by decide +kernel
theorem own_d5_41 : decode prog_65_method_13_code 41 = .ok (.iload_n 1, 1) := by decide +kernel
theorem own_d5_42 : decode prog_65_method_13_code 42 = .ok (.newarray .int, 2) := by decide +kernel
theorem own_d5_44 : decode prog_65_method_13_code 44 = .ok (.astore_n 2, 1) := by decide +kernel
theorem own_d5_45 : decode prog_65_method_13_code 45 = .ok (.iconst 0, 1) := by decide +kernel
theorem own_d5_46 : decode prog_65_method_13_code 46 = .ok (.istore_n 3, 1) := by decide +kernel
theorem own_d5_47 : decode prog_65_method_13_code 47 = .ok (.iconst 1, 1) := by decide +kernel
theorem own_d5_48 : decode prog_65_method_13_code 48 = .ok (.istore 4, 2) := by decide +kernel
theorem own_d5_50 : decode prog_65_method_13_code 50 = .ok (.iload 4, 2) := by decide +kernel
theorem own_d5_52 : decode prog_65_method_13_code 52 = .ok (.aload_n 0, 1) := by decide +kernel
theorem own_d5_53 : decode prog_65_method_13_code 53 = .ok (.arraylength, 1) := by decide +kernel
theorem own_d5_54 : decode prog_65_method_13_code 54 = .ok (.if_icmp .gt 26, 3) := by decide +kernel
theorem own_d5_57 : decode prog_65_method_13_code 57 = .ok (.aload_n 0, 1) := by decide +kernel
theorem own_d5_58 : decode prog_65_method_13_code 58 = .ok (.iload 4, 2) := by decide +kernel
theorem own_d5_60 : decode prog_65_method_13_code 60 = .ok (.iconst 1, 1) := by decide +kernel
theorem own_d5_61 : decode prog_65_method_13_code 61 = .ok (.isub, 1) := by decide +kernel
theorem own_d5_62 : decode prog_65_method_13_code 62 = .ok (.baload, 1) := by decide +kernel
theorem own_d5_63 : decode prog_65_method_13_code 63 = .ok (.ifCond .eq 11, 3) := by decide +kernel
theorem own_d5_66 : decode prog_65_method_13_code 66 = .ok (.aload_n 2, 1) := by decide +kernel
theorem own_d5_67 : decode prog_65_method_13_code 67 = .ok (.iload_n 3, 1) := by decide +kernel
theorem own_d5_68 : decode prog_65_method_13_code 68 = .ok (.iinc 3 1, 3) := by decide +kernel
theorem own_d5_71 : decode prog_65_method_13_code 71 = .ok (.iload 4, 2) := by decide +kernel
theorem own_d5_73 : decode prog_65_method_13_code 73 = .ok (.iastore, 1) := by decide +kernel
theorem own_d5_74 : decode prog_65_method_13_code 74 = .ok (.iinc 4 1, 3) := by decide +kernel
theorem own_d5_77 : decode prog_65_method_13_code 77 = .ok (.goto (-27), 3) := by decide +kernel
theorem own_d5_80 : decode prog_65_method_13_code 80 = .ok (.aload_n 2, 1) := by decide +kernel
theorem own_d5_81 : decode prog_65_method_13_code 81 = .ok (.areturn, 1) := by decide +kernel
theorem own_u {u : Int32} {k : Nat} {P : Prop} (h : (P ∧ u = 0 ∧ k = 0) ∨ (¬ P ∧ u = 1 ∧ k = 1)) : u.toInt = (k : Int) ∧ k ≤ 1 := by
  rcases h with ⟨-, h1, h2⟩ | ⟨-, h1, h2⟩ <;> rw [h1, h2] <;> decide
theorem own_addN (x y : Int32) (a b : Nat) (h1 : x.toInt = (a : Int)) (h2 : y.toInt = (b : Int)) (hb : a + b < 1000) : (x + y).toInt = ((a + b : Nat) : Int) := by
  have c := c_iadd x y
  have r := rng32 (x + y)
  omega
theorem own_pn1 : plainName "com/example/kingsround/kingsround/engine/Deliveries" = true := by first | (simp [plainName, overriddenIn]; done) | decide +kernel
theorem own_efkp (m : MethodId) (a : Nat) : entryFrame m #[(.ref a)] 6 = mkF m 0 #[rv a, .unset, .unset, .unset, .unset, .unset] [] := by first | (simp [entryFrame, mkF, argsToLocals, Value.category]; done) | rfl
set_option maxRecDepth 65536 in
set_option maxHeartbeats 40000000 in
theorem own_rmkp (l : Launch) (Z : State) (a0 : Array Value) (hw : ∀ d ∈ tables_1, d.before a0 Z = true) (a : Nat) (kk : Nat → Int32) (h0 : Heap) (n0 : Nat) (Z0 : n0 ≤ h0.size) (A : own_AI Z h0 a .boolean 3 kk) :
    own_Ct l Z (⟨"com/example/kingsround/kingsround/engine/Deliveries", "keptParties", "([Z)[I"⟩ : MethodName) prog_65_method_13_code 6 (some (.array .int)) ({ frames := 0, cells := 1, slots := 3, locals := 0 } : Room) #[(.ref a)] h0 (fun v h L => (∃ b : Nat, v = some (.ref b)) ∧ Fr n0 L ∧ Keep h0 h []) := by
  refine own_body (y := (⟨"com/example/kingsround/kingsround/engine/Deliveries", "keptParties", "([Z)[I"⟩ : MethodName)) (Q := fun v h L => (∃ b : Nat, v = some (.ref b)) ∧ Fr n0 L ∧ Keep h0 h []) (plainFor_of_name own_pn1) ?_
  intro p e s m below meth c s₁ Bd hml0 hZ e0
  have hx := Bd.exec
  have hby := Bd.bytes
  have hml : c.maxLocals = 6 := hml0
  have hown : s.vm.findClass "com/example/kingsround/kingsround/engine/Deliveries" = some m.cls := findClass_of_methodNamed Bd.named
  have hnm := (name_of_methodNamed Bd.named Bd.method).1
  have X0 : Stand p l e ({ frames := 0, cells := 1, slots := 3, locals := 0 } : Room) s m #[(.ref a)] below meth c s₁ [] 0 0 := Stand.of_body Bd
  have N0 := Fr.nil n0
  rw [own_efkp]
  have sg1 : own_V p e below s₁ (mkF m 10 #[rv a, iv (0 : Int32), rv a, iv (3 : Int32), iv (0 : Int32), .unset] []) (mkF m 0 #[rv a, .unset, .unset, .unset, .unset, .unset] []) := by
    intro t kt
    refine XS.iconst X0.here hx rfl (hb hby own_d5_0) ?_
    show own_S p e below s₁ m 1 #[rv a, .unset, .unset, .unset, .unset, .unset] [(.int (0 : Int32))] _
    refine XS.istoreN X0.here hx rfl (hb hby own_d5_1) rfl (l' := #[rv a, iv (0 : Int32), .unset, .unset, .unset, .unset]) rfl ?_
    show own_S p e below s₁ m 2 #[rv a, iv (0 : Int32), .unset, .unset, .unset, .unset] [] _
    refine XS.aloadN X0.here hx rfl (hb hby own_d5_2) rfl rfl ?_
    show own_S p e below s₁ m 3 #[rv a, iv (0 : Int32), .unset, .unset, .unset, .unset] [(.ref a)] _
    refine XS.astoreN X0.here hx rfl (hb hby own_d5_3) rfl rfl (l' := #[rv a, iv (0 : Int32), rv a, .unset, .unset, .unset]) rfl ?_
    show own_S p e below s₁ m 4 #[rv a, iv (0 : Int32), rv a, .unset, .unset, .unset] [] _
    refine XS.aloadN X0.here hx rfl (hb hby own_d5_4) rfl rfl ?_
    show own_S p e below s₁ m 5 #[rv a, iv (0 : Int32), rv a, .unset, .unset, .unset] [(.ref a)] _
    refine own_len (z := (3 : Int32)) X0 hx hZ e0 A (by decide) (g := (mkF m 5 #[rv a, iv (0 : Int32), rv a, .unset, .unset, .unset] [(.ref a)])) rfl rfl (hb hby own_d5_5) _ ?_
    show own_S p e below s₁ m 6 #[rv a, iv (0 : Int32), rv a, .unset, .unset, .unset] [(.int (3 : Int32))] _
    refine XS.istoreN X0.here hx rfl (hb hby own_d5_6) rfl (l' := #[rv a, iv (0 : Int32), rv a, iv (3 : Int32), .unset, .unset]) rfl ?_
    show own_S p e below s₁ m 7 #[rv a, iv (0 : Int32), rv a, iv (3 : Int32), .unset, .unset] [] _
    refine XS.iconst X0.here hx rfl (hb hby own_d5_7) ?_
    show own_S p e below s₁ m 8 #[rv a, iv (0 : Int32), rv a, iv (3 : Int32), .unset, .unset] [(.int (0 : Int32))] _
    refine XS.istore X0.here hx rfl (hb hby own_d5_8) rfl (l' := #[rv a, iv (0 : Int32), rv a, iv (3 : Int32), iv (0 : Int32), .unset]) rfl ?_
    show own_S p e below s₁ m 10 #[rv a, iv (0 : Int32), rv a, iv (3 : Int32), iv (0 : Int32), .unset] [] _
    exact kt
  refine own_st sg1 ?_
  have sg2 : own_V p e below s₁ (mkF m 13 #[rv a, iv (0 : Int32), rv a, iv (3 : Int32), iv (0 : Int32), .unset] [(.int (3 : Int32)), (.int (0 : Int32))]) (mkF m 10 #[rv a, iv (0 : Int32), rv a, iv (3 : Int32), iv (0 : Int32), .unset] []) := by
    intro t kt
    refine XS.iload X0.here hx rfl (hb hby own_d5_10) rfl ?_
    show own_S p e below s₁ m 12 #[rv a, iv (0 : Int32), rv a, iv (3 : Int32), iv (0 : Int32), .unset] [(.int (0 : Int32))] _
    refine XS.iloadN X0.here hx rfl (hb hby own_d5_12) rfl ?_
    show own_S p e below s₁ m 13 #[rv a, iv (0 : Int32), rv a, iv (3 : Int32), iv (0 : Int32), .unset] [(.int (3 : Int32)), (.int (0 : Int32))] _
    exact kt
  refine own_st sg2 ?_
  have sg4 : own_V p e below s₁ (mkF m 16 #[rv a, iv (0 : Int32), rv a, iv (3 : Int32), iv (0 : Int32), .unset] []) (mkF m 13 #[rv a, iv (0 : Int32), rv a, iv (3 : Int32), iv (0 : Int32), .unset] [(.int (3 : Int32)), (.int (0 : Int32))]) := by
    intro t kt
    refine XS.icmpNo X0.here hx rfl (hb hby own_d5_13) rfl (tlt (by decide : (0 : Int32) < (3 : Int32))).2.1 ?_
    exact kt
  refine own_st sg4 ?_
  obtain ⟨u0, hu0⟩ : ∃ z : Int32, z = (if (kk 0) = (0 : Int32) then (0 : Int32) else (1 : Int32)) := ⟨_, rfl⟩
  have sg6 : own_V p e below s₁ (mkF m 33 #[rv a, iv (0 : Int32), rv a, iv (3 : Int32), iv (0 : Int32), iv (kk 0)] [(.int u0), (.int (0 : Int32))]) (mkF m 16 #[rv a, iv (0 : Int32), rv a, iv (3 : Int32), iv (0 : Int32), .unset] []) := by
    intro t kt
    refine XS.aloadN X0.here hx rfl (hb hby own_d5_16) rfl rfl ?_
    show own_S p e below s₁ m 17 #[rv a, iv (0 : Int32), rv a, iv (3 : Int32), iv (0 : Int32), .unset] [(.ref a)] _
    refine XS.iload X0.here hx rfl (hb hby own_d5_17) rfl ?_
    show own_S p e below s₁ m 19 #[rv a, iv (0 : Int32), rv a, iv (3 : Int32), iv (0 : Int32), .unset] [(.int (0 : Int32)), (.ref a)] _
    refine own_rdZ X0 hx hZ e0 A (k := 0) (by decide) (by decide) (g := (mkF m 19 #[rv a, iv (0 : Int32), rv a, iv (3 : Int32), iv (0 : Int32), .unset] [(.int (0 : Int32)), (.ref a)])) rfl rfl (hb hby own_d5_19) _ ?_
    show own_S p e below s₁ m 20 #[rv a, iv (0 : Int32), rv a, iv (3 : Int32), iv (0 : Int32), .unset] [(.int (kk 0))] _
    refine XS.istore X0.here hx rfl (hb hby own_d5_20) rfl (l' := #[rv a, iv (0 : Int32), rv a, iv (3 : Int32), iv (0 : Int32), iv (kk 0)]) rfl ?_
    show own_S p e below s₁ m 22 #[rv a, iv (0 : Int32), rv a, iv (3 : Int32), iv (0 : Int32), iv (kk 0)] [] _
    refine XS.iloadN X0.here hx rfl (hb hby own_d5_22) rfl ?_
    show own_S p e below s₁ m 23 #[rv a, iv (0 : Int32), rv a, iv (3 : Int32), iv (0 : Int32), iv (kk 0)] [(.int (0 : Int32))] _
    refine XS.iload X0.here hx rfl (hb hby own_d5_23) rfl ?_
    show own_S p e below s₁ m 25 #[rv a, iv (0 : Int32), rv a, iv (3 : Int32), iv (0 : Int32), iv (kk 0)] [(.int (kk 0)), (.int (0 : Int32))] _
    by_cases hc5 : (kk 0) = (0 : Int32)
    · refine XS.ifYes X0.here hx rfl (pc0 := 25) (pc' := 32) rfl (hb hby own_d5_25) rfl ((if0 _ _).trans (teq hc5).1) (by decide) (by decide) ?_
      show own_S p e below s₁ m 32 #[rv a, iv (0 : Int32), rv a, iv (3 : Int32), iv (0 : Int32), iv (kk 0)] [(.int (0 : Int32))] _
      refine XS.iconst X0.here hx rfl (hb hby own_d5_32) ?_
      show own_S p e below s₁ m 33 #[rv a, iv (0 : Int32), rv a, iv (3 : Int32), iv (0 : Int32), iv (kk 0)] [(.int (0 : Int32)), (.int (0 : Int32))] _
      rw [show u0 = (0 : Int32) from by rw [hu0, if_pos hc5]] at kt
      exact kt
    · refine XS.ifNo X0.here hx rfl (hb hby own_d5_25) rfl ((if0 _ _).trans (feq hc5).1) ?_
      show own_S p e below s₁ m 28 #[rv a, iv (0 : Int32), rv a, iv (3 : Int32), iv (0 : Int32), iv (kk 0)] [(.int (0 : Int32))] _
      refine XS.iconst X0.here hx rfl (hb hby own_d5_28) ?_
      show own_S p e below s₁ m 29 #[rv a, iv (0 : Int32), rv a, iv (3 : Int32), iv (0 : Int32), iv (kk 0)] [(.int (1 : Int32)), (.int (0 : Int32))] _
      refine XS.goto X0.here hx rfl (pc0 := 29) (pc' := 33) rfl (hb hby own_d5_29) (by decide) (by decide) ?_
      show own_S p e below s₁ m 33 #[rv a, iv (0 : Int32), rv a, iv (3 : Int32), iv (0 : Int32), iv (kk 0)] [(.int (1 : Int32)), (.int (0 : Int32))] _
      rw [show u0 = (1 : Int32) from by rw [hu0, if_neg hc5]] at kt
      exact kt
  refine own_st sg6 ?_
  have sg7 : own_V p e below s₁ (mkF m 10 #[rv a, iv ((0 : Int32) + u0), rv a, iv (3 : Int32), iv ((0 : Int32) + (1 : Int32)), iv (kk 0)] []) (mkF m 33 #[rv a, iv (0 : Int32), rv a, iv (3 : Int32), iv (0 : Int32), iv (kk 0)] [(.int u0), (.int (0 : Int32))]) := by
    intro t kt
    refine XS.iadd X0.here hx rfl (hb hby own_d5_33) rfl ?_
    show own_S p e below s₁ m 34 #[rv a, iv (0 : Int32), rv a, iv (3 : Int32), iv (0 : Int32), iv (kk 0)] [(.int ((0 : Int32) + u0))] _
    refine XS.istoreN X0.here hx rfl (hb hby own_d5_34) rfl (l' := #[rv a, iv ((0 : Int32) + u0), rv a, iv (3 : Int32), iv (0 : Int32), iv (kk 0)]) rfl ?_
    show own_S p e below s₁ m 35 #[rv a, iv ((0 : Int32) + u0), rv a, iv (3 : Int32), iv (0 : Int32), iv (kk 0)] [] _
    refine XS.iinc X0.here hx rfl (hb hby own_d5_35) rfl (l' := #[rv a, iv ((0 : Int32) + u0), rv a, iv (3 : Int32), iv ((0 : Int32) + (1 : Int32)), iv (kk 0)]) rfl ?_
    show own_S p e below s₁ m 38 #[rv a, iv ((0 : Int32) + u0), rv a, iv (3 : Int32), iv ((0 : Int32) + (1 : Int32)), iv (kk 0)] [] _
    refine XS.goto X0.here hx rfl (pc0 := 38) (pc' := 10) rfl (hb hby own_d5_38) (by decide) (by decide) ?_
    show own_S p e below s₁ m 10 #[rv a, iv ((0 : Int32) + u0), rv a, iv (3 : Int32), iv ((0 : Int32) + (1 : Int32)), iv (kk 0)] [] _
    exact kt
  refine own_st sg7 ?_
  have sg8 : own_V p e below s₁ (mkF m 13 #[rv a, iv ((0 : Int32) + u0), rv a, iv (3 : Int32), iv ((0 : Int32) + (1 : Int32)), iv (kk 0)] [(.int (3 : Int32)), (.int ((0 : Int32) + (1 : Int32)))]) (mkF m 10 #[rv a, iv ((0 : Int32) + u0), rv a, iv (3 : Int32), iv ((0 : Int32) + (1 : Int32)), iv (kk 0)] []) := by
    intro t kt
    refine XS.iload X0.here hx rfl (hb hby own_d5_10) rfl ?_
    show own_S p e below s₁ m 12 #[rv a, iv ((0 : Int32) + u0), rv a, iv (3 : Int32), iv ((0 : Int32) + (1 : Int32)), iv (kk 0)] [(.int ((0 : Int32) + (1 : Int32)))] _
    refine XS.iloadN X0.here hx rfl (hb hby own_d5_12) rfl ?_
    show own_S p e below s₁ m 13 #[rv a, iv ((0 : Int32) + u0), rv a, iv (3 : Int32), iv ((0 : Int32) + (1 : Int32)), iv (kk 0)] [(.int (3 : Int32)), (.int ((0 : Int32) + (1 : Int32)))] _
    exact kt
  refine own_st sg8 ?_
  have sg10 : own_V p e below s₁ (mkF m 16 #[rv a, iv ((0 : Int32) + u0), rv a, iv (3 : Int32), iv ((0 : Int32) + (1 : Int32)), iv (kk 0)] []) (mkF m 13 #[rv a, iv ((0 : Int32) + u0), rv a, iv (3 : Int32), iv ((0 : Int32) + (1 : Int32)), iv (kk 0)] [(.int (3 : Int32)), (.int ((0 : Int32) + (1 : Int32)))]) := by
    intro t kt
    refine XS.icmpNo X0.here hx rfl (hb hby own_d5_13) rfl (tlt (by decide : ((0 : Int32) + (1 : Int32)) < (3 : Int32))).2.1 ?_
    exact kt
  refine own_st sg10 ?_
  obtain ⟨u1, hu1⟩ : ∃ z : Int32, z = (if (kk 1) = (0 : Int32) then (0 : Int32) else (1 : Int32)) := ⟨_, rfl⟩
  have sg12 : own_V p e below s₁ (mkF m 33 #[rv a, iv ((0 : Int32) + u0), rv a, iv (3 : Int32), iv ((0 : Int32) + (1 : Int32)), iv (kk 1)] [(.int u1), (.int ((0 : Int32) + u0))]) (mkF m 16 #[rv a, iv ((0 : Int32) + u0), rv a, iv (3 : Int32), iv ((0 : Int32) + (1 : Int32)), iv (kk 0)] []) := by
    intro t kt
    refine XS.aloadN X0.here hx rfl (hb hby own_d5_16) rfl rfl ?_
    show own_S p e below s₁ m 17 #[rv a, iv ((0 : Int32) + u0), rv a, iv (3 : Int32), iv ((0 : Int32) + (1 : Int32)), iv (kk 0)] [(.ref a)] _
    refine XS.iload X0.here hx rfl (hb hby own_d5_17) rfl ?_
    show own_S p e below s₁ m 19 #[rv a, iv ((0 : Int32) + u0), rv a, iv (3 : Int32), iv ((0 : Int32) + (1 : Int32)), iv (kk 0)] [(.int ((0 : Int32) + (1 : Int32))), (.ref a)] _
    refine own_rdZ X0 hx hZ e0 A (k := 1) (by decide) (by decide) (g := (mkF m 19 #[rv a, iv ((0 : Int32) + u0), rv a, iv (3 : Int32), iv ((0 : Int32) + (1 : Int32)), iv (kk 0)] [(.int ((0 : Int32) + (1 : Int32))), (.ref a)])) rfl rfl (hb hby own_d5_19) _ ?_
    show own_S p e below s₁ m 20 #[rv a, iv ((0 : Int32) + u0), rv a, iv (3 : Int32), iv ((0 : Int32) + (1 : Int32)), iv (kk 0)] [(.int (kk 1))] _
    refine XS.istore X0.here hx rfl (hb hby own_d5_20) rfl (l' := #[rv a, iv ((0 : Int32) + u0), rv a, iv (3 : Int32), iv ((0 : Int32) + (1 : Int32)), iv (kk 1)]) rfl ?_
    show own_S p e below s₁ m 22 #[rv a, iv ((0 : Int32) + u0), rv a, iv (3 : Int32), iv ((0 : Int32) + (1 : Int32)), iv (kk 1)] [] _
    refine XS.iloadN X0.here hx rfl (hb hby own_d5_22) rfl ?_
    show own_S p e below s₁ m 23 #[rv a, iv ((0 : Int32) + u0), rv a, iv (3 : Int32), iv ((0 : Int32) + (1 : Int32)), iv (kk 1)] [(.int ((0 : Int32) + u0))] _
    refine XS.iload X0.here hx rfl (hb hby own_d5_23) rfl ?_
    show own_S p e below s₁ m 25 #[rv a, iv ((0 : Int32) + u0), rv a, iv (3 : Int32), iv ((0 : Int32) + (1 : Int32)), iv (kk 1)] [(.int (kk 1)), (.int ((0 : Int32) + u0))] _
    by_cases hc11 : (kk 1) = (0 : Int32)
    · refine XS.ifYes X0.here hx rfl (pc0 := 25) (pc' := 32) rfl (hb hby own_d5_25) rfl ((if0 _ _).trans (teq hc11).1) (by decide) (by decide) ?_
      show own_S p e below s₁ m 32 #[rv a, iv ((0 : Int32) + u0), rv a, iv (3 : Int32), iv ((0 : Int32) + (1 : Int32)), iv (kk 1)] [(.int ((0 : Int32) + u0))] _
      refine XS.iconst X0.here hx rfl (hb hby own_d5_32) ?_
      show own_S p e below s₁ m 33 #[rv a, iv ((0 : Int32) + u0), rv a, iv (3 : Int32), iv ((0 : Int32) + (1 : Int32)), iv (kk 1)] [(.int (0 : Int32)), (.int ((0 : Int32) + u0))] _
      rw [show u1 = (0 : Int32) from by rw [hu1, if_pos hc11]] at kt
      exact kt
    · refine XS.ifNo X0.here hx rfl (hb hby own_d5_25) rfl ((if0 _ _).trans (feq hc11).1) ?_
      show own_S p e below s₁ m 28 #[rv a, iv ((0 : Int32) + u0), rv a, iv (3 : Int32), iv ((0 : Int32) + (1 : Int32)), iv (kk 1)] [(.int ((0 : Int32) + u0))] _
      refine XS.iconst X0.here hx rfl (hb hby own_d5_28) ?_
      show own_S p e below s₁ m 29 #[rv a, iv ((0 : Int32) + u0), rv a, iv (3 : Int32), iv ((0 : Int32) + (1 : Int32)), iv (kk 1)] [(.int (1 : Int32)), (.int ((0 : Int32) + u0))] _
      refine XS.goto X0.here hx rfl (pc0 := 29) (pc' := 33) rfl (hb hby own_d5_29) (by decide) (by decide) ?_
      show own_S p e below s₁ m 33 #[rv a, iv ((0 : Int32) + u0), rv a, iv (3 : Int32), iv ((0 : Int32) + (1 : Int32)), iv (kk 1)] [(.int (1 : Int32)), (.int ((0 : Int32) + u0))] _
      rw [show u1 = (1 : Int32) from by rw [hu1, if_neg hc11]] at kt
      exact kt
  refine own_st sg12 ?_
  have sg13 : own_V p e below s₁ (mkF m 10 #[rv a, iv (((0 : Int32) + u0) + u1), rv a, iv (3 : Int32), iv (((0 : Int32) + (1 : Int32)) + (1 : Int32)), iv (kk 1)] []) (mkF m 33 #[rv a, iv ((0 : Int32) + u0), rv a, iv (3 : Int32), iv ((0 : Int32) + (1 : Int32)), iv (kk 1)] [(.int u1), (.int ((0 : Int32) + u0))]) := by
    intro t kt
    refine XS.iadd X0.here hx rfl (hb hby own_d5_33) rfl ?_
    show own_S p e below s₁ m 34 #[rv a, iv ((0 : Int32) + u0), rv a, iv (3 : Int32), iv ((0 : Int32) + (1 : Int32)), iv (kk 1)] [(.int (((0 : Int32) + u0) + u1))] _
    refine XS.istoreN X0.here hx rfl (hb hby own_d5_34) rfl (l' := #[rv a, iv (((0 : Int32) + u0) + u1), rv a, iv (3 : Int32), iv ((0 : Int32) + (1 : Int32)), iv (kk 1)]) rfl ?_
    show own_S p e below s₁ m 35 #[rv a, iv (((0 : Int32) + u0) + u1), rv a, iv (3 : Int32), iv ((0 : Int32) + (1 : Int32)), iv (kk 1)] [] _
    refine XS.iinc X0.here hx rfl (hb hby own_d5_35) rfl (l' := #[rv a, iv (((0 : Int32) + u0) + u1), rv a, iv (3 : Int32), iv (((0 : Int32) + (1 : Int32)) + (1 : Int32)), iv (kk 1)]) rfl ?_
    show own_S p e below s₁ m 38 #[rv a, iv (((0 : Int32) + u0) + u1), rv a, iv (3 : Int32), iv (((0 : Int32) + (1 : Int32)) + (1 : Int32)), iv (kk 1)] [] _
    refine XS.goto X0.here hx rfl (pc0 := 38) (pc' := 10) rfl (hb hby own_d5_38) (by decide) (by decide) ?_
    show own_S p e below s₁ m 10 #[rv a, iv (((0 : Int32) + u0) + u1), rv a, iv (3 : Int32), iv (((0 : Int32) + (1 : Int32)) + (1 : Int32)), iv (kk 1)] [] _
    exact kt
  refine own_st sg13 ?_
  have sg14 : own_V p e below s₁ (mkF m 13 #[rv a, iv (((0 : Int32) + u0) + u1), rv a, iv (3 : Int32), iv (((0 : Int32) + (1 : Int32)) + (1 : Int32)), iv (kk 1)] [(.int (3 : Int32)), (.int (((0 : Int32) + (1 : Int32)) + (1 : Int32)))]) (mkF m 10 #[rv a, iv (((0 : Int32) + u0) + u1), rv a, iv (3 : Int32), iv (((0 : Int32) + (1 : Int32)) + (1 : Int32)), iv (kk 1)] []) := by
    intro t kt
    refine XS.iload X0.here hx rfl (hb hby own_d5_10) rfl ?_
    show own_S p e below s₁ m 12 #[rv a, iv (((0 : Int32) + u0) + u1), rv a, iv (3 : Int32), iv (((0 : Int32) + (1 : Int32)) + (1 : Int32)), iv (kk 1)] [(.int (((0 : Int32) + (1 : Int32)) + (1 : Int32)))] _
    refine XS.iloadN X0.here hx rfl (hb hby own_d5_12) rfl ?_
    show own_S p e below s₁ m 13 #[rv a, iv (((0 : Int32) + u0) + u1), rv a, iv (3 : Int32), iv (((0 : Int32) + (1 : Int32)) + (1 : Int32)), iv (kk 1)] [(.int (3 : Int32)), (.int (((0 : Int32) + (1 : Int32)) + (1 : Int32)))] _
    exact kt
  refine own_st sg14 ?_
  have sg16 : own_V p e below s₁ (mkF m 16 #[rv a, iv (((0 : Int32) + u0) + u1), rv a, iv (3 : Int32), iv (((0 : Int32) + (1 : Int32)) + (1 : Int32)), iv (kk 1)] []) (mkF m 13 #[rv a, iv (((0 : Int32) + u0) + u1), rv a, iv (3 : Int32), iv (((0 : Int32) + (1 : Int32)) + (1 : Int32)), iv (kk 1)] [(.int (3 : Int32)), (.int (((0 : Int32) + (1 : Int32)) + (1 : Int32)))]) := by
    intro t kt
    refine XS.icmpNo X0.here hx rfl (hb hby own_d5_13) rfl (tlt (by decide : (((0 : Int32) + (1 : Int32)) + (1 : Int32)) < (3 : Int32))).2.1 ?_
    exact kt
  refine own_st sg16 ?_
  obtain ⟨u2, hu2⟩ : ∃ z : Int32, z = (if (kk 2) = (0 : Int32) then (0 : Int32) else (1 : Int32)) := ⟨_, rfl⟩
  have sg18 : own_V p e below s₁ (mkF m 33 #[rv a, iv (((0 : Int32) + u0) + u1), rv a, iv (3 : Int32), iv (((0 : Int32) + (1 : Int32)) + (1 : Int32)), iv (kk 2)] [(.int u2), (.int (((0 : Int32) + u0) + u1))]) (mkF m 16 #[rv a, iv (((0 : Int32) + u0) + u1), rv a, iv (3 : Int32), iv (((0 : Int32) + (1 : Int32)) + (1 : Int32)), iv (kk 1)] []) := by
    intro t kt
    refine XS.aloadN X0.here hx rfl (hb hby own_d5_16) rfl rfl ?_
    show own_S p e below s₁ m 17 #[rv a, iv (((0 : Int32) + u0) + u1), rv a, iv (3 : Int32), iv (((0 : Int32) + (1 : Int32)) + (1 : Int32)), iv (kk 1)] [(.ref a)] _
    refine XS.iload X0.here hx rfl (hb hby own_d5_17) rfl ?_
    show own_S p e below s₁ m 19 #[rv a, iv (((0 : Int32) + u0) + u1), rv a, iv (3 : Int32), iv (((0 : Int32) + (1 : Int32)) + (1 : Int32)), iv (kk 1)] [(.int (((0 : Int32) + (1 : Int32)) + (1 : Int32))), (.ref a)] _
    refine own_rdZ X0 hx hZ e0 A (k := 2) (by decide) (by decide) (g := (mkF m 19 #[rv a, iv (((0 : Int32) + u0) + u1), rv a, iv (3 : Int32), iv (((0 : Int32) + (1 : Int32)) + (1 : Int32)), iv (kk 1)] [(.int (((0 : Int32) + (1 : Int32)) + (1 : Int32))), (.ref a)])) rfl rfl (hb hby own_d5_19) _ ?_
    show own_S p e below s₁ m 20 #[rv a, iv (((0 : Int32) + u0) + u1), rv a, iv (3 : Int32), iv (((0 : Int32) + (1 : Int32)) + (1 : Int32)), iv (kk 1)] [(.int (kk 2))] _
    refine XS.istore X0.here hx rfl (hb hby own_d5_20) rfl (l' := #[rv a, iv (((0 : Int32) + u0) + u1), rv a, iv (3 : Int32), iv (((0 : Int32) + (1 : Int32)) + (1 : Int32)), iv (kk 2)]) rfl ?_
    show own_S p e below s₁ m 22 #[rv a, iv (((0 : Int32) + u0) + u1), rv a, iv (3 : Int32), iv (((0 : Int32) + (1 : Int32)) + (1 : Int32)), iv (kk 2)] [] _
    refine XS.iloadN X0.here hx rfl (hb hby own_d5_22) rfl ?_
    show own_S p e below s₁ m 23 #[rv a, iv (((0 : Int32) + u0) + u1), rv a, iv (3 : Int32), iv (((0 : Int32) + (1 : Int32)) + (1 : Int32)), iv (kk 2)] [(.int (((0 : Int32) + u0) + u1))] _
    refine XS.iload X0.here hx rfl (hb hby own_d5_23) rfl ?_
    show own_S p e below s₁ m 25 #[rv a, iv (((0 : Int32) + u0) + u1), rv a, iv (3 : Int32), iv (((0 : Int32) + (1 : Int32)) + (1 : Int32)), iv (kk 2)] [(.int (kk 2)), (.int (((0 : Int32) + u0) + u1))] _
    by_cases hc17 : (kk 2) = (0 : Int32)
    · refine XS.ifYes X0.here hx rfl (pc0 := 25) (pc' := 32) rfl (hb hby own_d5_25) rfl ((if0 _ _).trans (teq hc17).1) (by decide) (by decide) ?_
      show own_S p e below s₁ m 32 #[rv a, iv (((0 : Int32) + u0) + u1), rv a, iv (3 : Int32), iv (((0 : Int32) + (1 : Int32)) + (1 : Int32)), iv (kk 2)] [(.int (((0 : Int32) + u0) + u1))] _
      refine XS.iconst X0.here hx rfl (hb hby own_d5_32) ?_
      show own_S p e below s₁ m 33 #[rv a, iv (((0 : Int32) + u0) + u1), rv a, iv (3 : Int32), iv (((0 : Int32) + (1 : Int32)) + (1 : Int32)), iv (kk 2)] [(.int (0 : Int32)), (.int (((0 : Int32) + u0) + u1))] _
      rw [show u2 = (0 : Int32) from by rw [hu2, if_pos hc17]] at kt
      exact kt
    · refine XS.ifNo X0.here hx rfl (hb hby own_d5_25) rfl ((if0 _ _).trans (feq hc17).1) ?_
      show own_S p e below s₁ m 28 #[rv a, iv (((0 : Int32) + u0) + u1), rv a, iv (3 : Int32), iv (((0 : Int32) + (1 : Int32)) + (1 : Int32)), iv (kk 2)] [(.int (((0 : Int32) + u0) + u1))] _
      refine XS.iconst X0.here hx rfl (hb hby own_d5_28) ?_
      show own_S p e below s₁ m 29 #[rv a, iv (((0 : Int32) + u0) + u1), rv a, iv (3 : Int32), iv (((0 : Int32) + (1 : Int32)) + (1 : Int32)), iv (kk 2)] [(.int (1 : Int32)), (.int (((0 : Int32) + u0) + u1))] _
      refine XS.goto X0.here hx rfl (pc0 := 29) (pc' := 33) rfl (hb hby own_d5_29) (by decide) (by decide) ?_
      show own_S p e below s₁ m 33 #[rv a, iv (((0 : Int32) + u0) + u1), rv a, iv (3 : Int32), iv (((0 : Int32) + (1 : Int32)) + (1 : Int32)), iv (kk 2)] [(.int (1 : Int32)), (.int (((0 : Int32) + u0) + u1))] _
      rw [show u2 = (1 : Int32) from by rw [hu2, if_neg hc17]] at kt
      exact kt
  refine own_st sg18 ?_
  have sg19 : own_V p e below s₁ (mkF m 10 #[rv a, iv ((((0 : Int32) + u0) + u1) + u2), rv a, iv (3 : Int32), iv ((((0 : Int32) + (1 : Int32)) + (1 : Int32)) + (1 : Int32)), iv (kk 2)] []) (mkF m 33 #[rv a, iv (((0 : Int32) + u0) + u1), rv a, iv (3 : Int32), iv (((0 : Int32) + (1 : Int32)) + (1 : Int32)), iv (kk 2)] [(.int u2), (.int (((0 : Int32) + u0) + u1))]) := by
    intro t kt
    refine XS.iadd X0.here hx rfl (hb hby own_d5_33) rfl ?_
    show own_S p e below s₁ m 34 #[rv a, iv (((0 : Int32) + u0) + u1), rv a, iv (3 : Int32), iv (((0 : Int32) + (1 : Int32)) + (1 : Int32)), iv (kk 2)] [(.int ((((0 : Int32) + u0) + u1) + u2))] _
    refine XS.istoreN X0.here hx rfl (hb hby own_d5_34) rfl (l' := #[rv a, iv ((((0 : Int32) + u0) + u1) + u2), rv a, iv (3 : Int32), iv (((0 : Int32) + (1 : Int32)) + (1 : Int32)), iv (kk 2)]) rfl ?_
    show own_S p e below s₁ m 35 #[rv a, iv ((((0 : Int32) + u0) + u1) + u2), rv a, iv (3 : Int32), iv (((0 : Int32) + (1 : Int32)) + (1 : Int32)), iv (kk 2)] [] _
    refine XS.iinc X0.here hx rfl (hb hby own_d5_35) rfl (l' := #[rv a, iv ((((0 : Int32) + u0) + u1) + u2), rv a, iv (3 : Int32), iv ((((0 : Int32) + (1 : Int32)) + (1 : Int32)) + (1 : Int32)), iv (kk 2)]) rfl ?_
    show own_S p e below s₁ m 38 #[rv a, iv ((((0 : Int32) + u0) + u1) + u2), rv a, iv (3 : Int32), iv ((((0 : Int32) + (1 : Int32)) + (1 : Int32)) + (1 : Int32)), iv (kk 2)] [] _
    refine XS.goto X0.here hx rfl (pc0 := 38) (pc' := 10) rfl (hb hby own_d5_38) (by decide) (by decide) ?_
    show own_S p e below s₁ m 10 #[rv a, iv ((((0 : Int32) + u0) + u1) + u2), rv a, iv (3 : Int32), iv ((((0 : Int32) + (1 : Int32)) + (1 : Int32)) + (1 : Int32)), iv (kk 2)] [] _
    exact kt
  refine own_st sg19 ?_
  have sg20 : own_V p e below s₁ (mkF m 13 #[rv a, iv ((((0 : Int32) + u0) + u1) + u2), rv a, iv (3 : Int32), iv ((((0 : Int32) + (1 : Int32)) + (1 : Int32)) + (1 : Int32)), iv (kk 2)] [(.int (3 : Int32)), (.int ((((0 : Int32) + (1 : Int32)) + (1 : Int32)) + (1 : Int32)))]) (mkF m 10 #[rv a, iv ((((0 : Int32) + u0) + u1) + u2), rv a, iv (3 : Int32), iv ((((0 : Int32) + (1 : Int32)) + (1 : Int32)) + (1 : Int32)), iv (kk 2)] []) := by
    intro t kt
    refine XS.iload X0.here hx rfl (hb hby own_d5_10) rfl ?_
    show own_S p e below s₁ m 12 #[rv a, iv ((((0 : Int32) + u0) + u1) + u2), rv a, iv (3 : Int32), iv ((((0 : Int32) + (1 : Int32)) + (1 : Int32)) + (1 : Int32)), iv (kk 2)] [(.int ((((0 : Int32) + (1 : Int32)) + (1 : Int32)) + (1 : Int32)))] _
    refine XS.iloadN X0.here hx rfl (hb hby own_d5_12) rfl ?_
    show own_S p e below s₁ m 13 #[rv a, iv ((((0 : Int32) + u0) + u1) + u2), rv a, iv (3 : Int32), iv ((((0 : Int32) + (1 : Int32)) + (1 : Int32)) + (1 : Int32)), iv (kk 2)] [(.int (3 : Int32)), (.int ((((0 : Int32) + (1 : Int32)) + (1 : Int32)) + (1 : Int32)))] _
    exact kt
  refine own_st sg20 ?_
  have sg22 : own_V p e below s₁ (mkF m 41 #[rv a, iv ((((0 : Int32) + u0) + u1) + u2), rv a, iv (3 : Int32), iv ((((0 : Int32) + (1 : Int32)) + (1 : Int32)) + (1 : Int32)), iv (kk 2)] []) (mkF m 13 #[rv a, iv ((((0 : Int32) + u0) + u1) + u2), rv a, iv (3 : Int32), iv ((((0 : Int32) + (1 : Int32)) + (1 : Int32)) + (1 : Int32)), iv (kk 2)] [(.int (3 : Int32)), (.int ((((0 : Int32) + (1 : Int32)) + (1 : Int32)) + (1 : Int32)))]) := by
    intro t kt
    refine XS.icmpYes X0.here hx rfl (pc0 := 13) (pc' := 41) rfl (hb hby own_d5_13) rfl (flt (by decide : ¬ ((((0 : Int32) + (1 : Int32)) + (1 : Int32)) + (1 : Int32)) < (3 : Int32))).2.1 (by decide) (by decide) ?_
    exact kt
  refine own_st sg22 ?_
  obtain ⟨k0, hk0⟩ : ∃ k : Nat, (kk 0 = 0 ∧ u0 = 0 ∧ k = 0) ∨ (¬ kk 0 = 0 ∧ u0 = 1 ∧ k = 1) := by
    by_cases z : kk 0 = 0
    · exact ⟨0, Or.inl ⟨z, by rw [hu0, if_pos z], rfl⟩⟩
    · exact ⟨1, Or.inr ⟨z, by rw [hu0, if_neg z], rfl⟩⟩
  obtain ⟨k1, hk1⟩ : ∃ k : Nat, (kk 1 = 0 ∧ u1 = 0 ∧ k = 0) ∨ (¬ kk 1 = 0 ∧ u1 = 1 ∧ k = 1) := by
    by_cases z : kk 1 = 0
    · exact ⟨0, Or.inl ⟨z, by rw [hu1, if_pos z], rfl⟩⟩
    · exact ⟨1, Or.inr ⟨z, by rw [hu1, if_neg z], rfl⟩⟩
  obtain ⟨k2, hk2⟩ : ∃ k : Nat, (kk 2 = 0 ∧ u2 = 0 ∧ k = 0) ∨ (¬ kk 2 = 0 ∧ u2 = 1 ∧ k = 1) := by
    by_cases z : kk 2 = 0
    · exact ⟨0, Or.inl ⟨z, by rw [hu2, if_pos z], rfl⟩⟩
    · exact ⟨1, Or.inr ⟨z, by rw [hu2, if_neg z], rfl⟩⟩
  have hq0 := own_u hk0
  have hq1 := own_u hk1
  have hq2 := own_u hk2
  have hcnt : ((((0 : Int32) + u0) + u1) + u2).toInt = ((0 + k0 + k1 + k2 : Nat) : Int) := own_addN _ u2 _ k2 (own_addN _ u1 _ k1 (own_addN 0 u0 0 k0 (by decide) hq0.1 (by omega)) hq1.1 (by omega)) hq2.1 (by omega)
  have sg23 : own_V p e below s₁ (mkF m 42 #[rv a, iv ((((0 : Int32) + u0) + u1) + u2), rv a, iv (3 : Int32), iv ((((0 : Int32) + (1 : Int32)) + (1 : Int32)) + (1 : Int32)), iv (kk 2)] [(.int ((((0 : Int32) + u0) + u1) + u2))]) (mkF m 41 #[rv a, iv ((((0 : Int32) + u0) + u1) + u2), rv a, iv (3 : Int32), iv ((((0 : Int32) + (1 : Int32)) + (1 : Int32)) + (1 : Int32)), iv (kk 2)] []) := by
    intro t kt
    refine XS.iloadN X0.here hx rfl (hb hby own_d5_41) rfl ?_
    show own_S p e below s₁ m 42 #[rv a, iv ((((0 : Int32) + u0) + u1) + u2), rv a, iv (3 : Int32), iv ((((0 : Int32) + (1 : Int32)) + (1 : Int32)) + (1 : Int32)), iv (kk 2)] [(.int ((((0 : Int32) + u0) + u1) + u2))] _
    exact kt
  refine own_st sg23 ?_
  obtain ⟨T24, h24, a24, g24, X24, e24, E24, A24, st24⟩ := own_newP (n := (0 + k0 + k1 + k2)) X0 hx hZ (hw _ (List.mem_of_getElem? (i := 47) rfl)) e0 hcnt rfl (g := (mkF m 42 #[rv a, iv ((((0 : Int32) + u0) + u1) + u2), rv a, iv (3 : Int32), iv ((((0 : Int32) + (1 : Int32)) + (1 : Int32)) + (1 : Int32)), iv (kk 2)] [(.int ((((0 : Int32) + u0) + u1) + u2))])) rfl rfl (hb hby own_d5_42) (cap := 3) (by omega) (by decide) (by decide) (by decide)
  refine own_st st24 ?_
  have g_a24 : n0 ≤ a24 := by rw [g24]; exact Z0
  have Z24 : n0 ≤ h24.size := Nat.le_trans Z0 E24.1
  have B24 : own_AI Z h24 a24 .int (0 + k0 + k1 + k2) (fun _ => 0) := A24
  show own_Go p e below _ T24 (mkF m 44 #[rv a, iv ((((0 : Int32) + u0) + u1) + u2), rv a, iv (3 : Int32), iv ((((0 : Int32) + (1 : Int32)) + (1 : Int32)) + (1 : Int32)), iv (kk 2)] [(.ref a24)])
  have K24 : Keep h0 h24 [] := (Keep.refl h0 []).ext E24
  have sz : h0.size ≤ a24 := Nat.le_of_eq g24.symm
  obtain ⟨fz, FZ⟩ : ∃ f, own_AI Z h24 a24 .int (0 + k0 + k1 + k2) f := ⟨_, B24⟩
  have AA : own_AI Z h24 a .boolean 3 kk := A.ext E24
  have nea : a ≠ a24 := Nat.ne_of_lt (by rw [g24]; exact A.lt)
  have sg25 : own_V p e below T24 (mkF m 50 #[rv a, iv ((((0 : Int32) + u0) + u1) + u2), rv a24, iv (0 : Int32), iv (1 : Int32), iv (kk 2)] []) (mkF m 44 #[rv a, iv ((((0 : Int32) + u0) + u1) + u2), rv a, iv (3 : Int32), iv ((((0 : Int32) + (1 : Int32)) + (1 : Int32)) + (1 : Int32)), iv (kk 2)] [(.ref a24)]) := by
    intro t kt
    refine XS.astoreN X24.here hx rfl (hb hby own_d5_44) rfl rfl (l' := #[rv a, iv ((((0 : Int32) + u0) + u1) + u2), rv a24, iv (3 : Int32), iv ((((0 : Int32) + (1 : Int32)) + (1 : Int32)) + (1 : Int32)), iv (kk 2)]) rfl ?_
    show own_S p e below T24 m 45 #[rv a, iv ((((0 : Int32) + u0) + u1) + u2), rv a24, iv (3 : Int32), iv ((((0 : Int32) + (1 : Int32)) + (1 : Int32)) + (1 : Int32)), iv (kk 2)] [] _
    refine XS.iconst X24.here hx rfl (hb hby own_d5_45) ?_
    show own_S p e below T24 m 46 #[rv a, iv ((((0 : Int32) + u0) + u1) + u2), rv a24, iv (3 : Int32), iv ((((0 : Int32) + (1 : Int32)) + (1 : Int32)) + (1 : Int32)), iv (kk 2)] [(.int (0 : Int32))] _
    refine XS.istoreN X24.here hx rfl (hb hby own_d5_46) rfl (l' := #[rv a, iv ((((0 : Int32) + u0) + u1) + u2), rv a24, iv (0 : Int32), iv ((((0 : Int32) + (1 : Int32)) + (1 : Int32)) + (1 : Int32)), iv (kk 2)]) rfl ?_
    show own_S p e below T24 m 47 #[rv a, iv ((((0 : Int32) + u0) + u1) + u2), rv a24, iv (0 : Int32), iv ((((0 : Int32) + (1 : Int32)) + (1 : Int32)) + (1 : Int32)), iv (kk 2)] [] _
    refine XS.iconst X24.here hx rfl (hb hby own_d5_47) ?_
    show own_S p e below T24 m 48 #[rv a, iv ((((0 : Int32) + u0) + u1) + u2), rv a24, iv (0 : Int32), iv ((((0 : Int32) + (1 : Int32)) + (1 : Int32)) + (1 : Int32)), iv (kk 2)] [(.int (1 : Int32))] _
    refine XS.istore X24.here hx rfl (hb hby own_d5_48) rfl (l' := #[rv a, iv ((((0 : Int32) + u0) + u1) + u2), rv a24, iv (0 : Int32), iv (1 : Int32), iv (kk 2)]) rfl ?_
    show own_S p e below T24 m 50 #[rv a, iv ((((0 : Int32) + u0) + u1) + u2), rv a24, iv (0 : Int32), iv (1 : Int32), iv (kk 2)] [] _
    exact kt
  refine own_st sg25 ?_
  have J0 : (0 : Int32).toInt = ((0 : Nat) : Int) := by decide
  have sg26 : own_V p e below T24 (mkF m 54 #[rv a, iv ((((0 : Int32) + u0) + u1) + u2), rv a24, iv (0 : Int32), iv (1 : Int32), iv (kk 2)] [(.int (3 : Int32)), (.int (1 : Int32))]) (mkF m 50 #[rv a, iv ((((0 : Int32) + u0) + u1) + u2), rv a24, iv (0 : Int32), iv (1 : Int32), iv (kk 2)] []) := by
    intro t kt
    refine XS.iload X24.here hx rfl (hb hby own_d5_50) rfl ?_
    show own_S p e below T24 m 52 #[rv a, iv ((((0 : Int32) + u0) + u1) + u2), rv a24, iv (0 : Int32), iv (1 : Int32), iv (kk 2)] [(.int (1 : Int32))] _
    refine XS.aloadN X24.here hx rfl (hb hby own_d5_52) rfl rfl ?_
    show own_S p e below T24 m 53 #[rv a, iv ((((0 : Int32) + u0) + u1) + u2), rv a24, iv (0 : Int32), iv (1 : Int32), iv (kk 2)] [(.ref a), (.int (1 : Int32))] _
    refine own_len (z := (3 : Int32)) X24 hx hZ e24 AA (by decide) (g := (mkF m 53 #[rv a, iv ((((0 : Int32) + u0) + u1) + u2), rv a24, iv (0 : Int32), iv (1 : Int32), iv (kk 2)] [(.ref a), (.int (1 : Int32))])) rfl rfl (hb hby own_d5_53) _ ?_
    show own_S p e below T24 m 54 #[rv a, iv ((((0 : Int32) + u0) + u1) + u2), rv a24, iv (0 : Int32), iv (1 : Int32), iv (kk 2)] [(.int (3 : Int32)), (.int (1 : Int32))] _
    exact kt
  refine own_st sg26 ?_
  have sg28 : own_V p e below T24 (mkF m 57 #[rv a, iv ((((0 : Int32) + u0) + u1) + u2), rv a24, iv (0 : Int32), iv (1 : Int32), iv (kk 2)] []) (mkF m 54 #[rv a, iv ((((0 : Int32) + u0) + u1) + u2), rv a24, iv (0 : Int32), iv (1 : Int32), iv (kk 2)] [(.int (3 : Int32)), (.int (1 : Int32))]) := by
    intro t kt
    refine XS.icmpNo X24.here hx rfl (hb hby own_d5_54) rfl (flt (by decide : ¬ (3 : Int32) < (1 : Int32))).2.2.1 ?_
    exact kt
  refine own_st sg28 ?_
  obtain ⟨T29, _, ⟨h29, L29, jx29, fx29, rfl, X29, e29, N29, Z29, F29, K29, AA29, J29⟩, st29⟩ : own_Pk p e below (fun T' f' => ∃ (h' : Heap) (locs' : List Loc) (jx : Int32) (fx : Nat → Int32), f' = (mkF m 74 #[rv a, iv ((((0 : Int32) + u0) + u1) + u2), rv a24, iv jx, iv (1 : Int32), iv (kk 2)] []) ∧ Stand p l e ({ frames := 0, cells := 1, slots := 3, locals := 0 } : Room) s m #[(.ref a)] below meth c T' locs' 1 3 ∧ T'.heap = h' ∧ Fr n0 locs' ∧ n0 ≤ h'.size ∧ (own_AI Z h' a24 .int (0 + k0 + k1 + k2) fx ∧ Keep h0 h' [] ∧ own_AI Z h' a .boolean 3 kk ∧ jx.toInt = ((0 + k0 : Nat) : Int))) T24 (mkF m 57 #[rv a, iv ((((0 : Int32) + u0) + u1) + u2), rv a24, iv (0 : Int32), iv (1 : Int32), iv (kk 2)] []) := by
    have sg30 : own_V p e below T24 (mkF m 63 #[rv a, iv ((((0 : Int32) + u0) + u1) + u2), rv a24, iv (0 : Int32), iv (1 : Int32), iv (kk 2)] [(.int (kk 0))]) (mkF m 57 #[rv a, iv ((((0 : Int32) + u0) + u1) + u2), rv a24, iv (0 : Int32), iv (1 : Int32), iv (kk 2)] []) := by
      intro t kt
      refine XS.aloadN X24.here hx rfl (hb hby own_d5_57) rfl rfl ?_
      show own_S p e below T24 m 58 #[rv a, iv ((((0 : Int32) + u0) + u1) + u2), rv a24, iv (0 : Int32), iv (1 : Int32), iv (kk 2)] [(.ref a)] _
      refine XS.iload X24.here hx rfl (hb hby own_d5_58) rfl ?_
      show own_S p e below T24 m 60 #[rv a, iv ((((0 : Int32) + u0) + u1) + u2), rv a24, iv (0 : Int32), iv (1 : Int32), iv (kk 2)] [(.int (1 : Int32)), (.ref a)] _
      refine XS.iconst X24.here hx rfl (hb hby own_d5_60) ?_
      show own_S p e below T24 m 61 #[rv a, iv ((((0 : Int32) + u0) + u1) + u2), rv a24, iv (0 : Int32), iv (1 : Int32), iv (kk 2)] [(.int (1 : Int32)), (.int (1 : Int32)), (.ref a)] _
      refine XS.isub X24.here hx rfl (hb hby own_d5_61) rfl ?_
      show own_S p e below T24 m 62 #[rv a, iv ((((0 : Int32) + u0) + u1) + u2), rv a24, iv (0 : Int32), iv (1 : Int32), iv (kk 2)] [(.int ((1 : Int32) - (1 : Int32))), (.ref a)] _
      refine own_rdZ X24 hx hZ e24 AA (k := 0) (by decide) (by decide) (g := (mkF m 62 #[rv a, iv ((((0 : Int32) + u0) + u1) + u2), rv a24, iv (0 : Int32), iv (1 : Int32), iv (kk 2)] [(.int ((1 : Int32) - (1 : Int32))), (.ref a)])) rfl rfl (hb hby own_d5_62) _ ?_
      show own_S p e below T24 m 63 #[rv a, iv ((((0 : Int32) + u0) + u1) + u2), rv a24, iv (0 : Int32), iv (1 : Int32), iv (kk 2)] [(.int (kk 0))] _
      exact kt
    refine own_sp sg30 ?_
    by_cases hc31 : (kk 0) = (0 : Int32)
    · skip
      have sg32 : own_V p e below T24 (mkF m 74 #[rv a, iv ((((0 : Int32) + u0) + u1) + u2), rv a24, iv (0 : Int32), iv (1 : Int32), iv (kk 2)] []) (mkF m 63 #[rv a, iv ((((0 : Int32) + u0) + u1) + u2), rv a24, iv (0 : Int32), iv (1 : Int32), iv (kk 2)] [(.int (kk 0))]) := by
        intro t kt
        refine XS.ifYes X24.here hx rfl (pc0 := 63) (pc' := 74) rfl (hb hby own_d5_63) rfl ((if0 _ _).trans (teq hc31).1) (by decide) (by decide) ?_
        exact kt
      refine own_sp sg32 ?_
      have hz : k0 = 0 := hk0.elim (fun z => z.2.2) (fun z => absurd hc31 z.1)
      exact ⟨T24, _, ⟨_, _, _, _, rfl, X24, e24, N0, Z24, ⟨FZ, K24, AA, by rw [hz]; exact J0⟩⟩, fun t k => k⟩
    have sg33 : own_V p e below T24 (mkF m 66 #[rv a, iv ((((0 : Int32) + u0) + u1) + u2), rv a24, iv (0 : Int32), iv (1 : Int32), iv (kk 2)] []) (mkF m 63 #[rv a, iv ((((0 : Int32) + u0) + u1) + u2), rv a24, iv (0 : Int32), iv (1 : Int32), iv (kk 2)] [(.int (kk 0))]) := by
      intro t kt
      refine XS.ifNo X24.here hx rfl (hb hby own_d5_63) rfl ((if0 _ _).trans (feq hc31).1) ?_
      exact kt
    refine own_sp sg33 ?_
    have hz : k0 = 1 := hk0.elim (fun z => absurd z.1 hc31) (fun z => z.2.2)
    have sg34 : own_V p e below T24 (mkF m 73 #[rv a, iv ((((0 : Int32) + u0) + u1) + u2), rv a24, iv ((0 : Int32) + (1 : Int32)), iv (1 : Int32), iv (kk 2)] [(.int (1 : Int32)), (.int (0 : Int32)), (.ref a24)]) (mkF m 66 #[rv a, iv ((((0 : Int32) + u0) + u1) + u2), rv a24, iv (0 : Int32), iv (1 : Int32), iv (kk 2)] []) := by
      intro t kt
      refine XS.aloadN X24.here hx rfl (hb hby own_d5_66) rfl rfl ?_
      show own_S p e below T24 m 67 #[rv a, iv ((((0 : Int32) + u0) + u1) + u2), rv a24, iv (0 : Int32), iv (1 : Int32), iv (kk 2)] [(.ref a24)] _
      refine XS.iloadN X24.here hx rfl (hb hby own_d5_67) rfl ?_
      show own_S p e below T24 m 68 #[rv a, iv ((((0 : Int32) + u0) + u1) + u2), rv a24, iv (0 : Int32), iv (1 : Int32), iv (kk 2)] [(.int (0 : Int32)), (.ref a24)] _
      refine XS.iinc X24.here hx rfl (hb hby own_d5_68) rfl (l' := #[rv a, iv ((((0 : Int32) + u0) + u1) + u2), rv a24, iv ((0 : Int32) + (1 : Int32)), iv (1 : Int32), iv (kk 2)]) rfl ?_
      show own_S p e below T24 m 71 #[rv a, iv ((((0 : Int32) + u0) + u1) + u2), rv a24, iv ((0 : Int32) + (1 : Int32)), iv (1 : Int32), iv (kk 2)] [(.int (0 : Int32)), (.ref a24)] _
      refine XS.iload X24.here hx rfl (hb hby own_d5_71) rfl ?_
      show own_S p e below T24 m 73 #[rv a, iv ((((0 : Int32) + u0) + u1) + u2), rv a24, iv ((0 : Int32) + (1 : Int32)), iv (1 : Int32), iv (kk 2)] [(.int (1 : Int32)), (.int (0 : Int32)), (.ref a24)] _
      exact kt
    refine own_sp sg34 ?_
    obtain ⟨T35, h35, X35, e35, W35, A35, st35⟩ := own_wrI X24 hx hZ e24 FZ (k := (0)) J0 (by omega) (g := (mkF m 73 #[rv a, iv ((((0 : Int32) + u0) + u1) + u2), rv a24, iv ((0 : Int32) + (1 : Int32)), iv (1 : Int32), iv (kk 2)] [(.int (1 : Int32)), (.int (0 : Int32)), (.ref a24)])) rfl rfl (hb hby own_d5_73)
    refine own_sp st35 ?_
    have Z35 : n0 ≤ h35.size := by rw [Wr.size W35]; exact Z24
    have N35 := Fr.snoc X35 N0 g_a24
    show own_Pk p e below _ T35 (mkF m 74 #[rv a, iv ((((0 : Int32) + u0) + u1) + u2), rv a24, iv ((0 : Int32) + (1 : Int32)), iv (1 : Int32), iv (kk 2)] [])
    have hj2 := own_addN (0 : Int32) 1 (0) 1 J0 (by decide) (by omega)
    exact ⟨T35, _, ⟨_, _, _, _, rfl, X35, e35, N35, Z35, ⟨A35, K24.wr W35 (Or.inr sz), AA.other W35 nea, by rw [hz]; exact hj2⟩⟩, fun t k => k⟩
  refine own_st st29 ?_
  show own_Go p e below _ T29 (mkF m 74 #[rv a, iv ((((0 : Int32) + u0) + u1) + u2), rv a24, iv jx29, iv (1 : Int32), iv (kk 2)] [])
  have sg36 : own_V p e below T29 (mkF m 50 #[rv a, iv ((((0 : Int32) + u0) + u1) + u2), rv a24, iv jx29, iv ((1 : Int32) + (1 : Int32)), iv (kk 2)] []) (mkF m 74 #[rv a, iv ((((0 : Int32) + u0) + u1) + u2), rv a24, iv jx29, iv (1 : Int32), iv (kk 2)] []) := by
    intro t kt
    refine XS.iinc X29.here hx rfl (hb hby own_d5_74) rfl (l' := #[rv a, iv ((((0 : Int32) + u0) + u1) + u2), rv a24, iv jx29, iv ((1 : Int32) + (1 : Int32)), iv (kk 2)]) rfl ?_
    show own_S p e below T29 m 77 #[rv a, iv ((((0 : Int32) + u0) + u1) + u2), rv a24, iv jx29, iv ((1 : Int32) + (1 : Int32)), iv (kk 2)] [] _
    refine XS.goto X29.here hx rfl (pc0 := 77) (pc' := 50) rfl (hb hby own_d5_77) (by decide) (by decide) ?_
    show own_S p e below T29 m 50 #[rv a, iv ((((0 : Int32) + u0) + u1) + u2), rv a24, iv jx29, iv ((1 : Int32) + (1 : Int32)), iv (kk 2)] [] _
    exact kt
  refine own_st sg36 ?_
  have sg37 : own_V p e below T29 (mkF m 54 #[rv a, iv ((((0 : Int32) + u0) + u1) + u2), rv a24, iv jx29, iv ((1 : Int32) + (1 : Int32)), iv (kk 2)] [(.int (3 : Int32)), (.int ((1 : Int32) + (1 : Int32)))]) (mkF m 50 #[rv a, iv ((((0 : Int32) + u0) + u1) + u2), rv a24, iv jx29, iv ((1 : Int32) + (1 : Int32)), iv (kk 2)] []) := by
    intro t kt
    refine XS.iload X29.here hx rfl (hb hby own_d5_50) rfl ?_
    show own_S p e below T29 m 52 #[rv a, iv ((((0 : Int32) + u0) + u1) + u2), rv a24, iv jx29, iv ((1 : Int32) + (1 : Int32)), iv (kk 2)] [(.int ((1 : Int32) + (1 : Int32)))] _
    refine XS.aloadN X29.here hx rfl (hb hby own_d5_52) rfl rfl ?_
    show own_S p e below T29 m 53 #[rv a, iv ((((0 : Int32) + u0) + u1) + u2), rv a24, iv jx29, iv ((1 : Int32) + (1 : Int32)), iv (kk 2)] [(.ref a), (.int ((1 : Int32) + (1 : Int32)))] _
    refine own_len (z := (3 : Int32)) X29 hx hZ e29 AA29 (by decide) (g := (mkF m 53 #[rv a, iv ((((0 : Int32) + u0) + u1) + u2), rv a24, iv jx29, iv ((1 : Int32) + (1 : Int32)), iv (kk 2)] [(.ref a), (.int ((1 : Int32) + (1 : Int32)))])) rfl rfl (hb hby own_d5_53) _ ?_
    show own_S p e below T29 m 54 #[rv a, iv ((((0 : Int32) + u0) + u1) + u2), rv a24, iv jx29, iv ((1 : Int32) + (1 : Int32)), iv (kk 2)] [(.int (3 : Int32)), (.int ((1 : Int32) + (1 : Int32)))] _
    exact kt
  refine own_st sg37 ?_
  have sg39 : own_V p e below T29 (mkF m 57 #[rv a, iv ((((0 : Int32) + u0) + u1) + u2), rv a24, iv jx29, iv ((1 : Int32) + (1 : Int32)), iv (kk 2)] []) (mkF m 54 #[rv a, iv ((((0 : Int32) + u0) + u1) + u2), rv a24, iv jx29, iv ((1 : Int32) + (1 : Int32)), iv (kk 2)] [(.int (3 : Int32)), (.int ((1 : Int32) + (1 : Int32)))]) := by
    intro t kt
    refine XS.icmpNo X29.here hx rfl (hb hby own_d5_54) rfl (flt (by decide : ¬ (3 : Int32) < ((1 : Int32) + (1 : Int32)))).2.2.1 ?_
    exact kt
  refine own_st sg39 ?_
  obtain ⟨T40, _, ⟨h40, L40, jx40, fx40, rfl, X40, e40, N40, Z40, F40, K40, AA40, J40⟩, st40⟩ : own_Pk p e below (fun T' f' => ∃ (h' : Heap) (locs' : List Loc) (jx : Int32) (fx : Nat → Int32), f' = (mkF m 74 #[rv a, iv ((((0 : Int32) + u0) + u1) + u2), rv a24, iv jx, iv ((1 : Int32) + (1 : Int32)), iv (kk 2)] []) ∧ Stand p l e ({ frames := 0, cells := 1, slots := 3, locals := 0 } : Room) s m #[(.ref a)] below meth c T' locs' 1 3 ∧ T'.heap = h' ∧ Fr n0 locs' ∧ n0 ≤ h'.size ∧ (own_AI Z h' a24 .int (0 + k0 + k1 + k2) fx ∧ Keep h0 h' [] ∧ own_AI Z h' a .boolean 3 kk ∧ jx.toInt = ((0 + k0 + k1 : Nat) : Int))) T29 (mkF m 57 #[rv a, iv ((((0 : Int32) + u0) + u1) + u2), rv a24, iv jx29, iv ((1 : Int32) + (1 : Int32)), iv (kk 2)] []) := by
    have sg41 : own_V p e below T29 (mkF m 63 #[rv a, iv ((((0 : Int32) + u0) + u1) + u2), rv a24, iv jx29, iv ((1 : Int32) + (1 : Int32)), iv (kk 2)] [(.int (kk 1))]) (mkF m 57 #[rv a, iv ((((0 : Int32) + u0) + u1) + u2), rv a24, iv jx29, iv ((1 : Int32) + (1 : Int32)), iv (kk 2)] []) := by
      intro t kt
      refine XS.aloadN X29.here hx rfl (hb hby own_d5_57) rfl rfl ?_
      show own_S p e below T29 m 58 #[rv a, iv ((((0 : Int32) + u0) + u1) + u2), rv a24, iv jx29, iv ((1 : Int32) + (1 : Int32)), iv (kk 2)] [(.ref a)] _
      refine XS.iload X29.here hx rfl (hb hby own_d5_58) rfl ?_
      show own_S p e below T29 m 60 #[rv a, iv ((((0 : Int32) + u0) + u1) + u2), rv a24, iv jx29, iv ((1 : Int32) + (1 : Int32)), iv (kk 2)] [(.int ((1 : Int32) + (1 : Int32))), (.ref a)] _
      refine XS.iconst X29.here hx rfl (hb hby own_d5_60) ?_
      show own_S p e below T29 m 61 #[rv a, iv ((((0 : Int32) + u0) + u1) + u2), rv a24, iv jx29, iv ((1 : Int32) + (1 : Int32)), iv (kk 2)] [(.int (1 : Int32)), (.int ((1 : Int32) + (1 : Int32))), (.ref a)] _
      refine XS.isub X29.here hx rfl (hb hby own_d5_61) rfl ?_
      show own_S p e below T29 m 62 #[rv a, iv ((((0 : Int32) + u0) + u1) + u2), rv a24, iv jx29, iv ((1 : Int32) + (1 : Int32)), iv (kk 2)] [(.int (((1 : Int32) + (1 : Int32)) - (1 : Int32))), (.ref a)] _
      refine own_rdZ X29 hx hZ e29 AA29 (k := 1) (by decide) (by decide) (g := (mkF m 62 #[rv a, iv ((((0 : Int32) + u0) + u1) + u2), rv a24, iv jx29, iv ((1 : Int32) + (1 : Int32)), iv (kk 2)] [(.int (((1 : Int32) + (1 : Int32)) - (1 : Int32))), (.ref a)])) rfl rfl (hb hby own_d5_62) _ ?_
      show own_S p e below T29 m 63 #[rv a, iv ((((0 : Int32) + u0) + u1) + u2), rv a24, iv jx29, iv ((1 : Int32) + (1 : Int32)), iv (kk 2)] [(.int (kk 1))] _
      exact kt
    refine own_sp sg41 ?_
    by_cases hc42 : (kk 1) = (0 : Int32)
    · skip
      have sg43 : own_V p e below T29 (mkF m 74 #[rv a, iv ((((0 : Int32) + u0) + u1) + u2), rv a24, iv jx29, iv ((1 : Int32) + (1 : Int32)), iv (kk 2)] []) (mkF m 63 #[rv a, iv ((((0 : Int32) + u0) + u1) + u2), rv a24, iv jx29, iv ((1 : Int32) + (1 : Int32)), iv (kk 2)] [(.int (kk 1))]) := by
        intro t kt
        refine XS.ifYes X29.here hx rfl (pc0 := 63) (pc' := 74) rfl (hb hby own_d5_63) rfl ((if0 _ _).trans (teq hc42).1) (by decide) (by decide) ?_
        exact kt
      refine own_sp sg43 ?_
      have hz : k1 = 0 := hk1.elim (fun z => z.2.2) (fun z => absurd hc42 z.1)
      exact ⟨T29, _, ⟨_, _, _, _, rfl, X29, e29, N29, Z29, ⟨F29, K29, AA29, by rw [hz]; exact J29⟩⟩, fun t k => k⟩
    have sg44 : own_V p e below T29 (mkF m 66 #[rv a, iv ((((0 : Int32) + u0) + u1) + u2), rv a24, iv jx29, iv ((1 : Int32) + (1 : Int32)), iv (kk 2)] []) (mkF m 63 #[rv a, iv ((((0 : Int32) + u0) + u1) + u2), rv a24, iv jx29, iv ((1 : Int32) + (1 : Int32)), iv (kk 2)] [(.int (kk 1))]) := by
      intro t kt
      refine XS.ifNo X29.here hx rfl (hb hby own_d5_63) rfl ((if0 _ _).trans (feq hc42).1) ?_
      exact kt
    refine own_sp sg44 ?_
    have hz : k1 = 1 := hk1.elim (fun z => absurd z.1 hc42) (fun z => z.2.2)
    have sg45 : own_V p e below T29 (mkF m 73 #[rv a, iv ((((0 : Int32) + u0) + u1) + u2), rv a24, iv (jx29 + (1 : Int32)), iv ((1 : Int32) + (1 : Int32)), iv (kk 2)] [(.int ((1 : Int32) + (1 : Int32))), (.int jx29), (.ref a24)]) (mkF m 66 #[rv a, iv ((((0 : Int32) + u0) + u1) + u2), rv a24, iv jx29, iv ((1 : Int32) + (1 : Int32)), iv (kk 2)] []) := by
      intro t kt
      refine XS.aloadN X29.here hx rfl (hb hby own_d5_66) rfl rfl ?_
      show own_S p e below T29 m 67 #[rv a, iv ((((0 : Int32) + u0) + u1) + u2), rv a24, iv jx29, iv ((1 : Int32) + (1 : Int32)), iv (kk 2)] [(.ref a24)] _
      refine XS.iloadN X29.here hx rfl (hb hby own_d5_67) rfl ?_
      show own_S p e below T29 m 68 #[rv a, iv ((((0 : Int32) + u0) + u1) + u2), rv a24, iv jx29, iv ((1 : Int32) + (1 : Int32)), iv (kk 2)] [(.int jx29), (.ref a24)] _
      refine XS.iinc X29.here hx rfl (hb hby own_d5_68) rfl (l' := #[rv a, iv ((((0 : Int32) + u0) + u1) + u2), rv a24, iv (jx29 + (1 : Int32)), iv ((1 : Int32) + (1 : Int32)), iv (kk 2)]) rfl ?_
      show own_S p e below T29 m 71 #[rv a, iv ((((0 : Int32) + u0) + u1) + u2), rv a24, iv (jx29 + (1 : Int32)), iv ((1 : Int32) + (1 : Int32)), iv (kk 2)] [(.int jx29), (.ref a24)] _
      refine XS.iload X29.here hx rfl (hb hby own_d5_71) rfl ?_
      show own_S p e below T29 m 73 #[rv a, iv ((((0 : Int32) + u0) + u1) + u2), rv a24, iv (jx29 + (1 : Int32)), iv ((1 : Int32) + (1 : Int32)), iv (kk 2)] [(.int ((1 : Int32) + (1 : Int32))), (.int jx29), (.ref a24)] _
      exact kt
    refine own_sp sg45 ?_
    obtain ⟨T46, h46, X46, e46, W46, A46, st46⟩ := own_wrI X29 hx hZ e29 F29 (k := (0 + k0)) J29 (by omega) (g := (mkF m 73 #[rv a, iv ((((0 : Int32) + u0) + u1) + u2), rv a24, iv (jx29 + (1 : Int32)), iv ((1 : Int32) + (1 : Int32)), iv (kk 2)] [(.int ((1 : Int32) + (1 : Int32))), (.int jx29), (.ref a24)])) rfl rfl (hb hby own_d5_73)
    refine own_sp st46 ?_
    have Z46 : n0 ≤ h46.size := by rw [Wr.size W46]; exact Z29
    have N46 := Fr.snoc X46 N29 g_a24
    show own_Pk p e below _ T46 (mkF m 74 #[rv a, iv ((((0 : Int32) + u0) + u1) + u2), rv a24, iv (jx29 + (1 : Int32)), iv ((1 : Int32) + (1 : Int32)), iv (kk 2)] [])
    have hj2 := own_addN jx29 1 (0 + k0) 1 J29 (by decide) (by omega)
    exact ⟨T46, _, ⟨_, _, _, _, rfl, X46, e46, N46, Z46, ⟨A46, K29.wr W46 (Or.inr sz), AA29.other W46 nea, by rw [hz]; exact hj2⟩⟩, fun t k => k⟩
  refine own_st st40 ?_
  show own_Go p e below _ T40 (mkF m 74 #[rv a, iv ((((0 : Int32) + u0) + u1) + u2), rv a24, iv jx40, iv ((1 : Int32) + (1 : Int32)), iv (kk 2)] [])
  have sg47 : own_V p e below T40 (mkF m 50 #[rv a, iv ((((0 : Int32) + u0) + u1) + u2), rv a24, iv jx40, iv (((1 : Int32) + (1 : Int32)) + (1 : Int32)), iv (kk 2)] []) (mkF m 74 #[rv a, iv ((((0 : Int32) + u0) + u1) + u2), rv a24, iv jx40, iv ((1 : Int32) + (1 : Int32)), iv (kk 2)] []) := by
    intro t kt
    refine XS.iinc X40.here hx rfl (hb hby own_d5_74) rfl (l' := #[rv a, iv ((((0 : Int32) + u0) + u1) + u2), rv a24, iv jx40, iv (((1 : Int32) + (1 : Int32)) + (1 : Int32)), iv (kk 2)]) rfl ?_
    show own_S p e below T40 m 77 #[rv a, iv ((((0 : Int32) + u0) + u1) + u2), rv a24, iv jx40, iv (((1 : Int32) + (1 : Int32)) + (1 : Int32)), iv (kk 2)] [] _
    refine XS.goto X40.here hx rfl (pc0 := 77) (pc' := 50) rfl (hb hby own_d5_77) (by decide) (by decide) ?_
    show own_S p e below T40 m 50 #[rv a, iv ((((0 : Int32) + u0) + u1) + u2), rv a24, iv jx40, iv (((1 : Int32) + (1 : Int32)) + (1 : Int32)), iv (kk 2)] [] _
    exact kt
  refine own_st sg47 ?_
  have sg48 : own_V p e below T40 (mkF m 54 #[rv a, iv ((((0 : Int32) + u0) + u1) + u2), rv a24, iv jx40, iv (((1 : Int32) + (1 : Int32)) + (1 : Int32)), iv (kk 2)] [(.int (3 : Int32)), (.int (((1 : Int32) + (1 : Int32)) + (1 : Int32)))]) (mkF m 50 #[rv a, iv ((((0 : Int32) + u0) + u1) + u2), rv a24, iv jx40, iv (((1 : Int32) + (1 : Int32)) + (1 : Int32)), iv (kk 2)] []) := by
    intro t kt
    refine XS.iload X40.here hx rfl (hb hby own_d5_50) rfl ?_
    show own_S p e below T40 m 52 #[rv a, iv ((((0 : Int32) + u0) + u1) + u2), rv a24, iv jx40, iv (((1 : Int32) + (1 : Int32)) + (1 : Int32)), iv (kk 2)] [(.int (((1 : Int32) + (1 : Int32)) + (1 : Int32)))] _
    refine XS.aloadN X40.here hx rfl (hb hby own_d5_52) rfl rfl ?_
    show own_S p e below T40 m 53 #[rv a, iv ((((0 : Int32) + u0) + u1) + u2), rv a24, iv jx40, iv (((1 : Int32) + (1 : Int32)) + (1 : Int32)), iv (kk 2)] [(.ref a), (.int (((1 : Int32) + (1 : Int32)) + (1 : Int32)))] _
    refine own_len (z := (3 : Int32)) X40 hx hZ e40 AA40 (by decide) (g := (mkF m 53 #[rv a, iv ((((0 : Int32) + u0) + u1) + u2), rv a24, iv jx40, iv (((1 : Int32) + (1 : Int32)) + (1 : Int32)), iv (kk 2)] [(.ref a), (.int (((1 : Int32) + (1 : Int32)) + (1 : Int32)))])) rfl rfl (hb hby own_d5_53) _ ?_
    show own_S p e below T40 m 54 #[rv a, iv ((((0 : Int32) + u0) + u1) + u2), rv a24, iv jx40, iv (((1 : Int32) + (1 : Int32)) + (1 : Int32)), iv (kk 2)] [(.int (3 : Int32)), (.int (((1 : Int32) + (1 : Int32)) + (1 : Int32)))] _
    exact kt
  refine own_st sg48 ?_
  have sg50 : own_V p e below T40 (mkF m 57 #[rv a, iv ((((0 : Int32) + u0) + u1) + u2), rv a24, iv jx40, iv (((1 : Int32) + (1 : Int32)) + (1 : Int32)), iv (kk 2)] []) (mkF m 54 #[rv a, iv ((((0 : Int32) + u0) + u1) + u2), rv a24, iv jx40, iv (((1 : Int32) + (1 : Int32)) + (1 : Int32)), iv (kk 2)] [(.int (3 : Int32)), (.int (((1 : Int32) + (1 : Int32)) + (1 : Int32)))]) := by
    intro t kt
    refine XS.icmpNo X40.here hx rfl (hb hby own_d5_54) rfl (flt (by decide : ¬ (3 : Int32) < (((1 : Int32) + (1 : Int32)) + (1 : Int32)))).2.2.1 ?_
    exact kt
  refine own_st sg50 ?_
  obtain ⟨T51, _, ⟨h51, L51, jx51, fx51, rfl, X51, e51, N51, Z51, F51, K51, AA51, J51⟩, st51⟩ : own_Pk p e below (fun T' f' => ∃ (h' : Heap) (locs' : List Loc) (jx : Int32) (fx : Nat → Int32), f' = (mkF m 74 #[rv a, iv ((((0 : Int32) + u0) + u1) + u2), rv a24, iv jx, iv (((1 : Int32) + (1 : Int32)) + (1 : Int32)), iv (kk 2)] []) ∧ Stand p l e ({ frames := 0, cells := 1, slots := 3, locals := 0 } : Room) s m #[(.ref a)] below meth c T' locs' 1 3 ∧ T'.heap = h' ∧ Fr n0 locs' ∧ n0 ≤ h'.size ∧ (own_AI Z h' a24 .int (0 + k0 + k1 + k2) fx ∧ Keep h0 h' [] ∧ own_AI Z h' a .boolean 3 kk ∧ jx.toInt = ((0 + k0 + k1 + k2 : Nat) : Int))) T40 (mkF m 57 #[rv a, iv ((((0 : Int32) + u0) + u1) + u2), rv a24, iv jx40, iv (((1 : Int32) + (1 : Int32)) + (1 : Int32)), iv (kk 2)] []) := by
    have sg52 : own_V p e below T40 (mkF m 63 #[rv a, iv ((((0 : Int32) + u0) + u1) + u2), rv a24, iv jx40, iv (((1 : Int32) + (1 : Int32)) + (1 : Int32)), iv (kk 2)] [(.int (kk 2))]) (mkF m 57 #[rv a, iv ((((0 : Int32) + u0) + u1) + u2), rv a24, iv jx40, iv (((1 : Int32) + (1 : Int32)) + (1 : Int32)), iv (kk 2)] []) := by
      intro t kt
      refine XS.aloadN X40.here hx rfl (hb hby own_d5_57) rfl rfl ?_
      show own_S p e below T40 m 58 #[rv a, iv ((((0 : Int32) + u0) + u1) + u2), rv a24, iv jx40, iv (((1 : Int32) + (1 : Int32)) + (1 : Int32)), iv (kk 2)] [(.ref a)] _
      refine XS.iload X40.here hx rfl (hb hby own_d5_58) rfl ?_
      show own_S p e below T40 m 60 #[rv a, iv ((((0 : Int32) + u0) + u1) + u2), rv a24, iv jx40, iv (((1 : Int32) + (1 : Int32)) + (1 : Int32)), iv (kk 2)] [(.int (((1 : Int32) + (1 : Int32)) + (1 : Int32))), (.ref a)] _
      refine XS.iconst X40.here hx rfl (hb hby own_d5_60) ?_
      show own_S p e below T40 m 61 #[rv a, iv ((((0 : Int32) + u0) + u1) + u2), rv a24, iv jx40, iv (((1 : Int32) + (1 : Int32)) + (1 : Int32)), iv (kk 2)] [(.int (1 : Int32)), (.int (((1 : Int32) + (1 : Int32)) + (1 : Int32))), (.ref a)] _
      refine XS.isub X40.here hx rfl (hb hby own_d5_61) rfl ?_
      show own_S p e below T40 m 62 #[rv a, iv ((((0 : Int32) + u0) + u1) + u2), rv a24, iv jx40, iv (((1 : Int32) + (1 : Int32)) + (1 : Int32)), iv (kk 2)] [(.int ((((1 : Int32) + (1 : Int32)) + (1 : Int32)) - (1 : Int32))), (.ref a)] _
      refine own_rdZ X40 hx hZ e40 AA40 (k := 2) (by decide) (by decide) (g := (mkF m 62 #[rv a, iv ((((0 : Int32) + u0) + u1) + u2), rv a24, iv jx40, iv (((1 : Int32) + (1 : Int32)) + (1 : Int32)), iv (kk 2)] [(.int ((((1 : Int32) + (1 : Int32)) + (1 : Int32)) - (1 : Int32))), (.ref a)])) rfl rfl (hb hby own_d5_62) _ ?_
      show own_S p e below T40 m 63 #[rv a, iv ((((0 : Int32) + u0) + u1) + u2), rv a24, iv jx40, iv (((1 : Int32) + (1 : Int32)) + (1 : Int32)), iv (kk 2)] [(.int (kk 2))] _
      exact kt
    refine own_sp sg52 ?_
    by_cases hc53 : (kk 2) = (0 : Int32)
    · skip
      have sg54 : own_V p e below T40 (mkF m 74 #[rv a, iv ((((0 : Int32) + u0) + u1) + u2), rv a24, iv jx40, iv (((1 : Int32) + (1 : Int32)) + (1 : Int32)), iv (kk 2)] []) (mkF m 63 #[rv a, iv ((((0 : Int32) + u0) + u1) + u2), rv a24, iv jx40, iv (((1 : Int32) + (1 : Int32)) + (1 : Int32)), iv (kk 2)] [(.int (kk 2))]) := by
        intro t kt
        refine XS.ifYes X40.here hx rfl (pc0 := 63) (pc' := 74) rfl (hb hby own_d5_63) rfl ((if0 _ _).trans (teq hc53).1) (by decide) (by decide) ?_
        exact kt
      refine own_sp sg54 ?_
      have hz : k2 = 0 := hk2.elim (fun z => z.2.2) (fun z => absurd hc53 z.1)
      exact ⟨T40, _, ⟨_, _, _, _, rfl, X40, e40, N40, Z40, ⟨F40, K40, AA40, by rw [hz]; exact J40⟩⟩, fun t k => k⟩
    have sg55 : own_V p e below T40 (mkF m 66 #[rv a, iv ((((0 : Int32) + u0) + u1) + u2), rv a24, iv jx40, iv (((1 : Int32) + (1 : Int32)) + (1 : Int32)), iv (kk 2)] []) (mkF m 63 #[rv a, iv ((((0 : Int32) + u0) + u1) + u2), rv a24, iv jx40, iv (((1 : Int32) + (1 : Int32)) + (1 : Int32)), iv (kk 2)] [(.int (kk 2))]) := by
      intro t kt
      refine XS.ifNo X40.here hx rfl (hb hby own_d5_63) rfl ((if0 _ _).trans (feq hc53).1) ?_
      exact kt
    refine own_sp sg55 ?_
    have hz : k2 = 1 := hk2.elim (fun z => absurd z.1 hc53) (fun z => z.2.2)
    have sg56 : own_V p e below T40 (mkF m 73 #[rv a, iv ((((0 : Int32) + u0) + u1) + u2), rv a24, iv (jx40 + (1 : Int32)), iv (((1 : Int32) + (1 : Int32)) + (1 : Int32)), iv (kk 2)] [(.int (((1 : Int32) + (1 : Int32)) + (1 : Int32))), (.int jx40), (.ref a24)]) (mkF m 66 #[rv a, iv ((((0 : Int32) + u0) + u1) + u2), rv a24, iv jx40, iv (((1 : Int32) + (1 : Int32)) + (1 : Int32)), iv (kk 2)] []) := by
      intro t kt
      refine XS.aloadN X40.here hx rfl (hb hby own_d5_66) rfl rfl ?_
      show own_S p e below T40 m 67 #[rv a, iv ((((0 : Int32) + u0) + u1) + u2), rv a24, iv jx40, iv (((1 : Int32) + (1 : Int32)) + (1 : Int32)), iv (kk 2)] [(.ref a24)] _
      refine XS.iloadN X40.here hx rfl (hb hby own_d5_67) rfl ?_
      show own_S p e below T40 m 68 #[rv a, iv ((((0 : Int32) + u0) + u1) + u2), rv a24, iv jx40, iv (((1 : Int32) + (1 : Int32)) + (1 : Int32)), iv (kk 2)] [(.int jx40), (.ref a24)] _
      refine XS.iinc X40.here hx rfl (hb hby own_d5_68) rfl (l' := #[rv a, iv ((((0 : Int32) + u0) + u1) + u2), rv a24, iv (jx40 + (1 : Int32)), iv (((1 : Int32) + (1 : Int32)) + (1 : Int32)), iv (kk 2)]) rfl ?_
      show own_S p e below T40 m 71 #[rv a, iv ((((0 : Int32) + u0) + u1) + u2), rv a24, iv (jx40 + (1 : Int32)), iv (((1 : Int32) + (1 : Int32)) + (1 : Int32)), iv (kk 2)] [(.int jx40), (.ref a24)] _
      refine XS.iload X40.here hx rfl (hb hby own_d5_71) rfl ?_
      show own_S p e below T40 m 73 #[rv a, iv ((((0 : Int32) + u0) + u1) + u2), rv a24, iv (jx40 + (1 : Int32)), iv (((1 : Int32) + (1 : Int32)) + (1 : Int32)), iv (kk 2)] [(.int (((1 : Int32) + (1 : Int32)) + (1 : Int32))), (.int jx40), (.ref a24)] _
      exact kt
    refine own_sp sg56 ?_
    obtain ⟨T57, h57, X57, e57, W57, A57, st57⟩ := own_wrI X40 hx hZ e40 F40 (k := (0 + k0 + k1)) J40 (by omega) (g := (mkF m 73 #[rv a, iv ((((0 : Int32) + u0) + u1) + u2), rv a24, iv (jx40 + (1 : Int32)), iv (((1 : Int32) + (1 : Int32)) + (1 : Int32)), iv (kk 2)] [(.int (((1 : Int32) + (1 : Int32)) + (1 : Int32))), (.int jx40), (.ref a24)])) rfl rfl (hb hby own_d5_73)
    refine own_sp st57 ?_
    have Z57 : n0 ≤ h57.size := by rw [Wr.size W57]; exact Z40
    have N57 := Fr.snoc X57 N40 g_a24
    show own_Pk p e below _ T57 (mkF m 74 #[rv a, iv ((((0 : Int32) + u0) + u1) + u2), rv a24, iv (jx40 + (1 : Int32)), iv (((1 : Int32) + (1 : Int32)) + (1 : Int32)), iv (kk 2)] [])
    have hj2 := own_addN jx40 1 (0 + k0 + k1) 1 J40 (by decide) (by omega)
    exact ⟨T57, _, ⟨_, _, _, _, rfl, X57, e57, N57, Z57, ⟨A57, K40.wr W57 (Or.inr sz), AA40.other W57 nea, by rw [hz]; exact hj2⟩⟩, fun t k => k⟩
  refine own_st st51 ?_
  show own_Go p e below _ T51 (mkF m 74 #[rv a, iv ((((0 : Int32) + u0) + u1) + u2), rv a24, iv jx51, iv (((1 : Int32) + (1 : Int32)) + (1 : Int32)), iv (kk 2)] [])
  have sg58 : own_V p e below T51 (mkF m 50 #[rv a, iv ((((0 : Int32) + u0) + u1) + u2), rv a24, iv jx51, iv ((((1 : Int32) + (1 : Int32)) + (1 : Int32)) + (1 : Int32)), iv (kk 2)] []) (mkF m 74 #[rv a, iv ((((0 : Int32) + u0) + u1) + u2), rv a24, iv jx51, iv (((1 : Int32) + (1 : Int32)) + (1 : Int32)), iv (kk 2)] []) := by
    intro t kt
    refine XS.iinc X51.here hx rfl (hb hby own_d5_74) rfl (l' := #[rv a, iv ((((0 : Int32) + u0) + u1) + u2), rv a24, iv jx51, iv ((((1 : Int32) + (1 : Int32)) + (1 : Int32)) + (1 : Int32)), iv (kk 2)]) rfl ?_
    show own_S p e below T51 m 77 #[rv a, iv ((((0 : Int32) + u0) + u1) + u2), rv a24, iv jx51, iv ((((1 : Int32) + (1 : Int32)) + (1 : Int32)) + (1 : Int32)), iv (kk 2)] [] _
    refine XS.goto X51.here hx rfl (pc0 := 77) (pc' := 50) rfl (hb hby own_d5_77) (by decide) (by decide) ?_
    show own_S p e below T51 m 50 #[rv a, iv ((((0 : Int32) + u0) + u1) + u2), rv a24, iv jx51, iv ((((1 : Int32) + (1 : Int32)) + (1 : Int32)) + (1 : Int32)), iv (kk 2)] [] _
    exact kt
  refine own_st sg58 ?_
  have sg59 : own_V p e below T51 (mkF m 54 #[rv a, iv ((((0 : Int32) + u0) + u1) + u2), rv a24, iv jx51, iv ((((1 : Int32) + (1 : Int32)) + (1 : Int32)) + (1 : Int32)), iv (kk 2)] [(.int (3 : Int32)), (.int ((((1 : Int32) + (1 : Int32)) + (1 : Int32)) + (1 : Int32)))]) (mkF m 50 #[rv a, iv ((((0 : Int32) + u0) + u1) + u2), rv a24, iv jx51, iv ((((1 : Int32) + (1 : Int32)) + (1 : Int32)) + (1 : Int32)), iv (kk 2)] []) := by
    intro t kt
    refine XS.iload X51.here hx rfl (hb hby own_d5_50) rfl ?_
    show own_S p e below T51 m 52 #[rv a, iv ((((0 : Int32) + u0) + u1) + u2), rv a24, iv jx51, iv ((((1 : Int32) + (1 : Int32)) + (1 : Int32)) + (1 : Int32)), iv (kk 2)] [(.int ((((1 : Int32) + (1 : Int32)) + (1 : Int32)) + (1 : Int32)))] _
    refine XS.aloadN X51.here hx rfl (hb hby own_d5_52) rfl rfl ?_
    show own_S p e below T51 m 53 #[rv a, iv ((((0 : Int32) + u0) + u1) + u2), rv a24, iv jx51, iv ((((1 : Int32) + (1 : Int32)) + (1 : Int32)) + (1 : Int32)), iv (kk 2)] [(.ref a), (.int ((((1 : Int32) + (1 : Int32)) + (1 : Int32)) + (1 : Int32)))] _
    refine own_len (z := (3 : Int32)) X51 hx hZ e51 AA51 (by decide) (g := (mkF m 53 #[rv a, iv ((((0 : Int32) + u0) + u1) + u2), rv a24, iv jx51, iv ((((1 : Int32) + (1 : Int32)) + (1 : Int32)) + (1 : Int32)), iv (kk 2)] [(.ref a), (.int ((((1 : Int32) + (1 : Int32)) + (1 : Int32)) + (1 : Int32)))])) rfl rfl (hb hby own_d5_53) _ ?_
    show own_S p e below T51 m 54 #[rv a, iv ((((0 : Int32) + u0) + u1) + u2), rv a24, iv jx51, iv ((((1 : Int32) + (1 : Int32)) + (1 : Int32)) + (1 : Int32)), iv (kk 2)] [(.int (3 : Int32)), (.int ((((1 : Int32) + (1 : Int32)) + (1 : Int32)) + (1 : Int32)))] _
    exact kt
  refine own_st sg59 ?_
  have sg61 : own_V p e below T51 (mkF m 80 #[rv a, iv ((((0 : Int32) + u0) + u1) + u2), rv a24, iv jx51, iv ((((1 : Int32) + (1 : Int32)) + (1 : Int32)) + (1 : Int32)), iv (kk 2)] []) (mkF m 54 #[rv a, iv ((((0 : Int32) + u0) + u1) + u2), rv a24, iv jx51, iv ((((1 : Int32) + (1 : Int32)) + (1 : Int32)) + (1 : Int32)), iv (kk 2)] [(.int (3 : Int32)), (.int ((((1 : Int32) + (1 : Int32)) + (1 : Int32)) + (1 : Int32)))]) := by
    intro t kt
    refine XS.icmpYes X51.here hx rfl (pc0 := 54) (pc' := 80) rfl (hb hby own_d5_54) rfl (tlt (by decide : (3 : Int32) < ((((1 : Int32) + (1 : Int32)) + (1 : Int32)) + (1 : Int32)))).2.2.1 (by decide) (by decide) ?_
    exact kt
  refine own_st sg61 ?_
  have sg62 : own_V p e below T51 (mkF m 81 #[rv a, iv ((((0 : Int32) + u0) + u1) + u2), rv a24, iv jx51, iv ((((1 : Int32) + (1 : Int32)) + (1 : Int32)) + (1 : Int32)), iv (kk 2)] [(.ref a24)]) (mkF m 80 #[rv a, iv ((((0 : Int32) + u0) + u1) + u2), rv a24, iv jx51, iv ((((1 : Int32) + (1 : Int32)) + (1 : Int32)) + (1 : Int32)), iv (kk 2)] []) := by
    intro t kt
    refine XS.aloadN X51.here hx rfl (hb hby own_d5_80) rfl rfl ?_
    show own_S p e below T51 m 81 #[rv a, iv ((((0 : Int32) + u0) + u1) + u2), rv a24, iv jx51, iv ((((1 : Int32) + (1 : Int32)) + (1 : Int32)) + (1 : Int32)), iv (kk 2)] [(.ref a24)] _
    exact kt
  refine own_st sg62 ?_
  exact own_retR X51 hx Bd.notSynchronized Bd.returns rfl rfl (hb hby own_d5_81) (by decide) (by decide) e51 ⟨⟨_, rfl⟩, N51, K51⟩
theorem own_d3_0 : decode prog_67_method_1_code 0 = .ok (.aload_n 0, 1) := by decide +kernel
theorem own_d3_1 : decode prog_67_method_1_code 1 = .ok (.aload_n 1, 1) := by decide +kernel
theorem own_d3_2 : decode prog_67_method_1_code 2 = .ok (.putfield 1, 3) := by decide +kernel
theorem own_d3_5 : decode prog_67_method_1_code 5 = .ok (.aload_n 0, 1) := by decide +kernel
theorem own_d3_6 : decode prog_67_method_1_code 6 = .ok (.invokespecial 7, 3) := by decide +kernel
theorem own_d3_9 : decode prog_67_method_1_code 9 = .ok (.aload_n 0, 1) := by decide +kernel
theorem own_d3_10 : decode prog_67_method_1_code 10 = .ok (.iload_n 2, 1) := by decide +kernel
theorem own_d3_11 : decode prog_67_method_1_code 11 = .ok (.putfield 13, 3) := by decide +kernel
theorem own_d3_14 : decode prog_67_method_1_code 14 = .ok (.aload_n 0, 1) := by decide +kernel
theorem own_d3_15 : decode prog_67_method_1_code 15 = .ok (.iload_n 3, 1) := by decide +kernel
theorem own_d3_16 : decode prog_67_method_1_code 16 = .ok (.newarray .byte, 2) := by decide +kernel
theorem own_d3_18 : decode prog_67_method_1_code 18 = .ok (.putfield 17, 3) := by decide +kernel
theorem own_d3_21 : decode prog_67_method_1_code 21 = .ok (.aload_n 0, 1) := by decide +kernel
theorem own_d3_22 : decode prog_67_method_1_code 22 = .ok (.getfield 17, 3) := by decide +kernel
theorem own_d3_25 : decode prog_67_method_1_code 25 = .ok (.iconst (-1), 1) := by decide +kernel
theorem own_d3_26 : decode prog_67_method_1_code 26 = .ok (.invokestatic 23, 3) := by decide +kernel
theorem own_d3_29 : decode prog_67_method_1_code 29 = .ok (.return_, 1) := by decide +kernel
theorem own_pd0 : parseMethodDescriptor "([BB)V" = some ⟨[(.array .byte), .byte], none⟩ := by decide +kernel
theorem own_pn2 : plainName "com/example/kingsround/kingsround/engine/Deliveries$Delivered" = true := by first | (simp [plainName, overriddenIn]; done) | decide +kernel
theorem own_efdv (m : MethodId) (a : Nat) (d : Nat) (tt : Int32) (n : Int32) : entryFrame m #[(.ref a), (.ref d), (.int tt), (.int n)] 4 = mkF m 0 #[rv a, rv d, iv tt, iv n] [] := by first | (simp [entryFrame, mkF, argsToLocals, Value.category]; done) | rfl
set_option maxRecDepth 65536 in
set_option maxHeartbeats 40000000 in
theorem own_rmdv (l : Launch) (Z : State) (a0 : Array Value) (hw : ∀ d ∈ tables_1, d.before a0 Z = true) (a : Nat) (d : Nat) (tt : Int32) (n : Int32) (h0 : Heap) (n0 : Nat) (Z0 : n0 ≤ h0.size) (EE : Exa Z h0 a "com/example/kingsround/kingsround/engine/Deliveries$Delivered") (F1 : Fld Z h0 a "com/example/kingsround/kingsround/engine/Deliveries$Delivered" "this$0" "Lcom/example/kingsround/kingsround/engine/Deliveries;" .null) (F2 : Fld Z h0 a "com/example/kingsround/kingsround/engine/Deliveries$Delivered" "to" "I" (.int (0 : Int32))) (F3 : Fld Z h0 a "com/example/kingsround/kingsround/engine/Deliveries$Delivered" "received" "[B" .null) (g_a : n0 ≤ a) (hn : n = 3) :
    own_Ct l Z (⟨"com/example/kingsround/kingsround/engine/Deliveries$Delivered", "<init>", "(Lcom/example/kingsround/kingsround/engine/Deliveries;II)V"⟩ : MethodName) prog_67_method_1_code 4 none ({ frames := 1, cells := 1, slots := 3, locals := 15 } : Room) #[(.ref a), (.ref d), (.int tt), (.int n)] h0 (fun v h L => v = none ∧ Fr n0 L ∧ Keep h0 h [a] ∧ ∃ r : Nat, h0.size ≤ r ∧ own_Dv Z h a r d tt (fun _ => -1)) := by
  refine own_body (y := (⟨"com/example/kingsround/kingsround/engine/Deliveries$Delivered", "<init>", "(Lcom/example/kingsround/kingsround/engine/Deliveries;II)V"⟩ : MethodName)) (Q := fun v h L => v = none ∧ Fr n0 L ∧ Keep h0 h [a] ∧ ∃ r : Nat, h0.size ≤ r ∧ own_Dv Z h a r d tt (fun _ => -1)) (plainFor_of_name own_pn2) ?_
  intro p e s m below meth c s₁ Bd hml0 hZ e0
  have hx := Bd.exec
  have hby := Bd.bytes
  have hml : c.maxLocals = 4 := hml0
  have hown : s.vm.findClass "com/example/kingsround/kingsround/engine/Deliveries$Delivered" = some m.cls := findClass_of_methodNamed Bd.named
  have hnm := (name_of_methodNamed Bd.named Bd.method).1
  have X0 : Stand p l e ({ frames := 1, cells := 1, slots := 3, locals := 15 } : Room) s m #[(.ref a), (.ref d), (.int tt), (.int n)] below meth c s₁ [] 0 0 := Stand.of_body Bd
  have N0 := Fr.nil n0
  rw [own_efdv]
  have lta : a < h0.size := EE.lt
  have sg1 : own_V p e below s₁ (mkF m 2 #[rv a, rv d, iv tt, iv n] [(.ref d), (.ref a)]) (mkF m 0 #[rv a, rv d, iv tt, iv n] []) := by
    intro t kt
    refine XS.aloadN X0.here hx rfl (hb hby own_d3_0) rfl rfl ?_
    show own_S p e below s₁ m 1 #[rv a, rv d, iv tt, iv n] [(.ref a)] _
    refine XS.aloadN X0.here hx rfl (hb hby own_d3_1) rfl rfl ?_
    show own_S p e below s₁ m 2 #[rv a, rv d, iv tt, iv n] [(.ref d), (.ref a)] _
    exact kt
  refine own_st sg1 ?_
  obtain ⟨T2, h2, X2, e2, W2, st2⟩ := putF X0 hx hZ hown (host := "") (Or.inl (hw _ (List.mem_of_getElem? (i := 20) rfl))) Via.refl e0 F1 EE (Or.inr ⟨(hw _ (List.mem_of_getElem? (i := 21) rfl)), rfl, hnm⟩) (hw _ (List.mem_of_getElem? (i := 15) rfl)) (ty := (.object "com/example/kingsround/kingsround/engine/Deliveries")) (by decide) rfl rfl (g := (mkF m 2 #[rv a, rv d, iv tt, iv n] [(.ref d), (.ref a)])) rfl rfl (hb hby own_d3_2)
  refine own_st st2 ?_
  have Z2 : n0 ≤ h2.size := by rw [Wr.size W2]; exact Z0
  have N2 := Fr.snoc X2 N0 g_a
  show own_Go p e below _ T2 (mkF m 5 #[rv a, rv d, iv tt, iv n] [])
  have KK2 := Keep.of_wr W2
  have F2_2 := F2.other W2 (Or.inr (slot_ne (Or.inr (hw _ (List.mem_of_getElem? (i := 24) rfl))) (Or.inr (hw _ (List.mem_of_getElem? (i := 21) rfl))) (by decide) (t := .int) (t' := (.object "com/example/kingsround/kingsround/engine/Deliveries")) (by decide) (by decide)))
  have F3_2 := F3.other W2 (Or.inr (slot_ne (Or.inr (hw _ (List.mem_of_getElem? (i := 27) rfl))) (Or.inr (hw _ (List.mem_of_getElem? (i := 21) rfl))) (by decide) (t := (.array .byte)) (t' := (.object "com/example/kingsround/kingsround/engine/Deliveries")) (by decide) (by decide)))
  have EE_2 := EE.keep KK2
  have F1_2 := F1.same W2
  have KA2 : Keep h0 h2 [a] := (Keep.refl h0 [a]).wr W2 (Or.inl (List.mem_of_getElem? (i := 0) rfl))
  have sg3 : own_V p e below T2 (mkF m 6 #[rv a, rv d, iv tt, iv n] [(.ref a)]) (mkF m 5 #[rv a, rv d, iv tt, iv n] []) := by
    intro t kt
    refine XS.aloadN X2.here hx rfl (hb hby own_d3_5) rfl rfl ?_
    show own_S p e below T2 m 6 #[rv a, rv d, iv tt, iv n] [(.ref a)] _
    exact kt
  refine own_st sg3 ?_
  obtain ⟨T4, X4, e4, st4⟩ := initO X2 hx hZ hown (hw _ (List.mem_of_getElem? (i := 22) rfl)) (hw _ (List.mem_of_getElem? (i := 9) rfl)) (hw _ (List.mem_of_getElem? (i := 10) rfl)) e2 (g := (mkF m 6 #[rv a, rv d, iv tt, iv n] [(.ref a)])) rfl (by rw [hml]; rfl) rfl (hb hby own_d3_6) (by decide) (W := 0) (by show 2 * 0 + _ ≤ _; exact Nat.le_of_eq rfl) (by decide)
  refine own_st st4 ?_
  show own_Go p e below _ T4 (mkF m 9 #[rv a, rv d, iv tt, iv n] [])
  have sg5 : own_V p e below T4 (mkF m 11 #[rv a, rv d, iv tt, iv n] [(.int tt), (.ref a)]) (mkF m 9 #[rv a, rv d, iv tt, iv n] []) := by
    intro t kt
    refine XS.aloadN X4.here hx rfl (hb hby own_d3_9) rfl rfl ?_
    show own_S p e below T4 m 10 #[rv a, rv d, iv tt, iv n] [(.ref a)] _
    refine XS.iloadN X4.here hx rfl (hb hby own_d3_10) rfl ?_
    show own_S p e below T4 m 11 #[rv a, rv d, iv tt, iv n] [(.int tt), (.ref a)] _
    exact kt
  refine own_st sg5 ?_
  obtain ⟨T6, h6, X6, e6, W6, st6⟩ := putF X4 hx hZ hown (host := "") (Or.inl (hw _ (List.mem_of_getElem? (i := 23) rfl))) Via.refl e4 F2_2 EE_2 (Or.inr ⟨(hw _ (List.mem_of_getElem? (i := 24) rfl)), rfl, hnm⟩) (hw _ (List.mem_of_getElem? (i := 15) rfl)) (ty := .int) (by decide) rfl rfl (g := (mkF m 11 #[rv a, rv d, iv tt, iv n] [(.int tt), (.ref a)])) rfl rfl (hb hby own_d3_11)
  refine own_st st6 ?_
  have Z6 : n0 ≤ h6.size := by rw [Wr.size W6]; exact Z2
  have N6 := Fr.snoc X6 N2 g_a
  show own_Go p e below _ T6 (mkF m 14 #[rv a, rv d, iv tt, iv n] [])
  have KK6 := Keep.of_wr W6
  have F1_6 := F1_2.other W6 (Or.inr (slot_ne (Or.inr (hw _ (List.mem_of_getElem? (i := 21) rfl))) (Or.inr (hw _ (List.mem_of_getElem? (i := 24) rfl))) (by decide) (t := (.object "com/example/kingsround/kingsround/engine/Deliveries")) (t' := .int) (by decide) (by decide)))
  have F3_6 := F3_2.other W6 (Or.inr (slot_ne (Or.inr (hw _ (List.mem_of_getElem? (i := 27) rfl))) (Or.inr (hw _ (List.mem_of_getElem? (i := 24) rfl))) (by decide) (t := (.array .byte)) (t' := .int) (by decide) (by decide)))
  have EE_6 := EE_2.keep KK6
  have F2_6 := F2_2.same W6
  have KA6 : Keep h0 h6 [a] := KA2.wr W6 (Or.inl (List.mem_of_getElem? (i := 0) rfl))
  have sg7 : own_V p e below T6 (mkF m 16 #[rv a, rv d, iv tt, iv n] [(.int n), (.ref a)]) (mkF m 14 #[rv a, rv d, iv tt, iv n] []) := by
    intro t kt
    refine XS.aloadN X6.here hx rfl (hb hby own_d3_14) rfl rfl ?_
    show own_S p e below T6 m 15 #[rv a, rv d, iv tt, iv n] [(.ref a)] _
    refine XS.iloadN X6.here hx rfl (hb hby own_d3_15) rfl ?_
    show own_S p e below T6 m 16 #[rv a, rv d, iv tt, iv n] [(.int n), (.ref a)] _
    exact kt
  refine own_st sg7 ?_
  obtain ⟨T8, h8, a8, g8, X8, e8, E8, A8, st8⟩ := own_newP (n := 3) X6 hx hZ (hw _ (List.mem_of_getElem? (i := 25) rfl)) e6 (by rw [hn]; decide) rfl (g := (mkF m 16 #[rv a, rv d, iv tt, iv n] [(.int n), (.ref a)])) rfl rfl (hb hby own_d3_16) (cap := 3) (by decide) (by decide) (by decide) (by decide)
  refine own_st st8 ?_
  have g_a8 : n0 ≤ a8 := by rw [g8]; exact Z6
  have Z8 : n0 ≤ h8.size := Nat.le_trans Z6 E8.1
  have B8 : own_AI Z h8 a8 .byte 3 (fun _ => 0) := A8
  show own_Go p e below _ T8 (mkF m 18 #[rv a, rv d, iv tt, iv n] [(.ref a8), (.ref a)])
  have KK8 : Keep h6 h8 [] := (Keep.refl _ _).ext E8
  have EE_8 := EE_6.keep KK8
  have F1_8 := F1_6.keep KK8 nin0
  have F2_8 := F2_6.keep KK8 nin0
  have F3_8 := F3_6.keep KK8 nin0
  have KA8 : Keep h0 h8 [a] := KA6.ext E8
  have szr : h0.size ≤ a8 := by rw [g8]; exact KA6.1
  obtain ⟨T9, h9, X9, e9, W9, st9⟩ := putF X8 hx hZ hown (host := "") (Or.inl (hw _ (List.mem_of_getElem? (i := 26) rfl))) Via.refl e8 F3_8 EE_8 (Or.inr ⟨(hw _ (List.mem_of_getElem? (i := 27) rfl)), rfl, hnm⟩) (hw _ (List.mem_of_getElem? (i := 15) rfl)) (ty := (.array .byte)) (by decide) rfl rfl (g := (mkF m 18 #[rv a, rv d, iv tt, iv n] [(.ref a8), (.ref a)])) rfl rfl (hb hby own_d3_18)
  refine own_st st9 ?_
  have Z9 : n0 ≤ h9.size := by rw [Wr.size W9]; exact Z8
  have N9 := Fr.snoc X9 N6 g_a
  show own_Go p e below _ T9 (mkF m 21 #[rv a, rv d, iv tt, iv n] [])
  have KK9 := Keep.of_wr W9
  have F1_9 := F1_8.other W9 (Or.inr (slot_ne (Or.inr (hw _ (List.mem_of_getElem? (i := 21) rfl))) (Or.inr (hw _ (List.mem_of_getElem? (i := 27) rfl))) (by decide) (t := (.object "com/example/kingsround/kingsround/engine/Deliveries")) (t' := (.array .byte)) (by decide) (by decide)))
  have F2_9 := F2_8.other W9 (Or.inr (slot_ne (Or.inr (hw _ (List.mem_of_getElem? (i := 24) rfl))) (Or.inr (hw _ (List.mem_of_getElem? (i := 27) rfl))) (by decide) (t := .int) (t' := (.array .byte)) (by decide) (by decide)))
  have EE_9 := EE_8.keep KK9
  have AR_9 := B8.keep KK9 (own_ninS (by omega) nin0)
  have F3_9 := F3_8.same W9
  have KA9 : Keep h0 h9 [a] := KA8.wr W9 (Or.inl (List.mem_of_getElem? (i := 0) rfl))
  have sg10 : own_V p e below T9 (mkF m 22 #[rv a, rv d, iv tt, iv n] [(.ref a)]) (mkF m 21 #[rv a, rv d, iv tt, iv n] []) := by
    intro t kt
    refine XS.aloadN X9.here hx rfl (hb hby own_d3_21) rfl rfl ?_
    show own_S p e below T9 m 22 #[rv a, rv d, iv tt, iv n] [(.ref a)] _
    exact kt
  refine own_st sg10 ?_
  obtain ⟨T11, X11, e11, st11⟩ := getF X9 hx hZ hown (host := "") (Or.inl (hw _ (List.mem_of_getElem? (i := 26) rfl))) Via.refl e9 F3_9 (g := (mkF m 22 #[rv a, rv d, iv tt, iv n] [(.ref a)])) rfl rfl (hb hby own_d3_22)
  refine own_st st11 ?_
  show own_Go p e below _ T11 (mkF m 25 #[rv a, rv d, iv tt, iv n] [(.ref a8)])
  have sg12 : own_V p e below T11 (mkF m 26 #[rv a, rv d, iv tt, iv n] [(.int (-1 : Int32)), (.ref a8)]) (mkF m 25 #[rv a, rv d, iv tt, iv n] [(.ref a8)]) := by
    intro t kt
    refine XS.iconst X11.here hx rfl (hb hby own_d3_25) ?_
    show own_S p e below T11 m 26 #[rv a, rv d, iv tt, iv n] [(.int (-1 : Int32)), (.ref a8)] _
    exact kt
  refine own_st sg12 ?_
  obtain ⟨_, T13, L13, X13, hQ13, st13⟩ := own_callS (y := (⟨"java/util/Arrays", "fill", "([BB)V"⟩ : MethodName)) X11 hx hZ hown (hw _ (List.mem_of_getElem? (i := 28) rfl)) (hw _ (List.mem_of_getElem? (i := 29) rfl)) (hw _ (List.mem_of_getElem? (i := 30) rfl)) (hw _ (List.mem_of_getElem? (i := 31) rfl)) (by decide) (own_rmfil l Z a0 hw a8 (-1 : Int32) (fun _ => 0) h9 n0 Z9 AR_9 g_a8) e11 (g := (mkF m 26 #[rv a, rv d, iv tt, iv n] [(.int (-1 : Int32)), (.ref a8)])) rfl (by rw [hml]; rfl) (argsL := [(.ref a8), (.int (-1 : Int32))]) (rest := []) (lenOf own_pd0 rfl) rfl (W := 0) (by show 2 * 0 + _ ≤ _; exact Nat.le_of_eq rfl) (hb hby own_d3_26) (by decide) (by decide) (by decide) (by decide)
  obtain ⟨rfl, Nq13, K13, A13⟩ := hQ13
  refine own_st st13 ?_
  have Z13 : n0 ≤ T13.heap.size := Nat.le_trans Z9 K13.1
  have N13 := Fr.app N9 Nq13
  show own_Go p e below _ T13 (mkF m 29 #[rv a, rv d, iv tt, iv n] [])
  have EE_13 := EE_9.keep K13
  have F1_13 := F1_9.keep K13 (own_ninS (by omega) nin0)
  have F2_13 := F2_9.keep K13 (own_ninS (by omega) nin0)
  have F3_13 := F3_9.keep K13 (own_ninS (by omega) nin0)
  have KB : Keep h0 T13.heap [a] := KA9.trans K13 (allS (Or.inr szr) all0)
  exact own_retV X13 hx Bd.notSynchronized Bd.returns (hb hby own_d3_29) (by decide) (by decide) rfl ⟨rfl, N13, KB, a8, szr, EE_13, F1_13, F2_13, F3_13, A13⟩
theorem own_d6_0 : decode prog_66_method_1_code 0 = .ok (.aload_n 0, 1) := by decide +kernel
theorem own_d6_1 : decode prog_66_method_1_code 1 = .ok (.aload_n 1, 1) := by decide +kernel
theorem own_d6_2 : decode prog_66_method_1_code 2 = .ok (.putfield 1, 3) := by decide +kernel
theorem own_d6_5 : decode prog_66_method_1_code 5 = .ok (.aload_n 0, 1) := by decide +kernel
theorem own_d6_6 : decode prog_66_method_1_code 6 = .ok (.invokespecial 7, 3) := by decide +kernel
theorem own_d6_9 : decode prog_66_method_1_code 9 = .ok (.return_, 1) := by decide +kernel
theorem own_pn3 : plainName "com/example/kingsround/kingsround/engine/Deliveries$1" = true := by first | (simp [plainName, overriddenIn]; done) | decide +kernel
theorem own_efd1 (m : MethodId) (a : Nat) (d : Nat) : entryFrame m #[(.ref a), (.ref d)] 2 = mkF m 0 #[rv a, rv d] [] := by first | (simp [entryFrame, mkF, argsToLocals, Value.category]; done) | rfl
set_option maxRecDepth 65536 in
set_option maxHeartbeats 40000000 in
theorem own_rmd1 (l : Launch) (Z : State) (a0 : Array Value) (hw : ∀ d ∈ tables_1, d.before a0 Z = true) (a : Nat) (d : Nat) (h0 : Heap) (n0 : Nat) (Z0 : n0 ≤ h0.size) (EE : Exa Z h0 a "com/example/kingsround/kingsround/engine/Deliveries$1") (F1 : Fld Z h0 a "com/example/kingsround/kingsround/engine/Deliveries$1" "this$0" "Lcom/example/kingsround/kingsround/engine/Deliveries;" .null) (g_a : n0 ≤ a) :
    own_Ct l Z (⟨"com/example/kingsround/kingsround/engine/Deliveries$1", "<init>", "(Lcom/example/kingsround/kingsround/engine/Deliveries;)V"⟩ : MethodName) prog_66_method_1_code 2 none ({ frames := 1, cells := 0, slots := 0, locals := 12 } : Room) #[(.ref a), (.ref d)] h0 (fun v h L => v = none ∧ Fr n0 L ∧ Keep h0 h [a]) := by
  refine own_body (y := (⟨"com/example/kingsround/kingsround/engine/Deliveries$1", "<init>", "(Lcom/example/kingsround/kingsround/engine/Deliveries;)V"⟩ : MethodName)) (Q := fun v h L => v = none ∧ Fr n0 L ∧ Keep h0 h [a]) (plainFor_of_name own_pn3) ?_
  intro p e s m below meth c s₁ Bd hml0 hZ e0
  have hx := Bd.exec
  have hby := Bd.bytes
  have hml : c.maxLocals = 2 := hml0
  have hown : s.vm.findClass "com/example/kingsround/kingsround/engine/Deliveries$1" = some m.cls := findClass_of_methodNamed Bd.named
  have hnm := (name_of_methodNamed Bd.named Bd.method).1
  have X0 : Stand p l e ({ frames := 1, cells := 0, slots := 0, locals := 12 } : Room) s m #[(.ref a), (.ref d)] below meth c s₁ [] 0 0 := Stand.of_body Bd
  have N0 := Fr.nil n0
  rw [own_efd1]
  have sg1 : own_V p e below s₁ (mkF m 2 #[rv a, rv d] [(.ref d), (.ref a)]) (mkF m 0 #[rv a, rv d] []) := by
    intro t kt
    refine XS.aloadN X0.here hx rfl (hb hby own_d6_0) rfl rfl ?_
    show own_S p e below s₁ m 1 #[rv a, rv d] [(.ref a)] _
    refine XS.aloadN X0.here hx rfl (hb hby own_d6_1) rfl rfl ?_
    show own_S p e below s₁ m 2 #[rv a, rv d] [(.ref d), (.ref a)] _
    exact kt
  refine own_st sg1 ?_
  obtain ⟨T2, h2, X2, e2, W2, st2⟩ := putF X0 hx hZ hown (host := "") (Or.inl (hw _ (List.mem_of_getElem? (i := 64) rfl))) Via.refl e0 F1 EE (Or.inr ⟨(hw _ (List.mem_of_getElem? (i := 65) rfl)), rfl, hnm⟩) (hw _ (List.mem_of_getElem? (i := 59) rfl)) (ty := (.object "com/example/kingsround/kingsround/engine/Deliveries")) (by decide) rfl rfl (g := (mkF m 2 #[rv a, rv d] [(.ref d), (.ref a)])) rfl rfl (hb hby own_d6_2)
  refine own_st st2 ?_
  have Z2 : n0 ≤ h2.size := by rw [Wr.size W2]; exact Z0
  have N2 := Fr.snoc X2 N0 g_a
  show own_Go p e below _ T2 (mkF m 5 #[rv a, rv d] [])
  have sg3 : own_V p e below T2 (mkF m 6 #[rv a, rv d] [(.ref a)]) (mkF m 5 #[rv a, rv d] []) := by
    intro t kt
    refine XS.aloadN X2.here hx rfl (hb hby own_d6_5) rfl rfl ?_
    show own_S p e below T2 m 6 #[rv a, rv d] [(.ref a)] _
    exact kt
  refine own_st sg3 ?_
  obtain ⟨T4, X4, e4, st4⟩ := initO X2 hx hZ hown (hw _ (List.mem_of_getElem? (i := 66) rfl)) (hw _ (List.mem_of_getElem? (i := 9) rfl)) (hw _ (List.mem_of_getElem? (i := 10) rfl)) e2 (g := (mkF m 6 #[rv a, rv d] [(.ref a)])) rfl (by rw [hml]; rfl) rfl (hb hby own_d6_6) (by decide) (W := 0) (by show 2 * 0 + _ ≤ _; exact Nat.le_of_eq rfl) (by decide)
  refine own_st st4 ?_
  show own_Go p e below _ T4 (mkF m 9 #[rv a, rv d] [])
  exact own_retV X4 hx Bd.notSynchronized Bd.returns (hb hby own_d6_9) (by decide) (by decide) e4 ⟨rfl, N2, Keep.of_wr W2⟩
theorem own_d7_0 : decode prog_62_method_1_code 0 = .ok (.aload_n 0, 1) := by decide +kernel
theorem own_d7_1 : decode prog_62_method_1_code 1 = .ok (.invokespecial 1, 3) := by decide +kernel
theorem own_d7_4 : decode prog_62_method_1_code 4 = .ok (.aload_n 0, 1) := by decide +kernel
theorem own_d7_5 : decode prog_62_method_1_code 5 = .ok (.iload_n 1, 1) := by decide +kernel
theorem own_d7_6 : decode prog_62_method_1_code 6 = .ok (.putfield 7, 3) := by decide +kernel
theorem own_d7_9 : decode prog_62_method_1_code 9 = .ok (.aload_n 0, 1) := by decide +kernel
theorem own_d7_10 : decode prog_62_method_1_code 10 = .ok (.aload_n 2, 1) := by decide +kernel
theorem own_d7_11 : decode prog_62_method_1_code 11 = .ok (.putfield 13, 3) := by decide +kernel
theorem own_d7_14 : decode prog_62_method_1_code 14 = .ok (.return_, 1) := by decide +kernel
theorem own_pn4 : plainName "com/example/kingsround/kingsround/engine/CheckedOutbox" = true := by first | (simp [plainName, overriddenIn]; done) | decide +kernel
theorem own_efobx (m : MethodId) (a : Nat) (x : Int32) (k : Nat) : entryFrame m #[(.ref a), (.int x), (.ref k)] 3 = mkF m 0 #[rv a, iv x, rv k] [] := by first | (simp [entryFrame, mkF, argsToLocals, Value.category]; done) | rfl
set_option maxRecDepth 65536 in
set_option maxHeartbeats 40000000 in
theorem own_rmobx (l : Launch) (Z : State) (a0 : Array Value) (hw : ∀ d ∈ tables_1, d.before a0 Z = true) (a : Nat) (x : Int32) (k : Nat) (h0 : Heap) (n0 : Nat) (Z0 : n0 ≤ h0.size) (EE : Exa Z h0 a "com/example/kingsround/kingsround/engine/CheckedOutbox") (F1 : Fld Z h0 a "com/example/kingsround/kingsround/engine/CheckedOutbox" "n" "I" (.int (0 : Int32))) (F2 : Fld Z h0 a "com/example/kingsround/kingsround/engine/CheckedOutbox" "sink" "Lcom/example/kingsround/kingsround/engine/CheckedOutbox$Sink;" .null) (g_a : n0 ≤ a) :
    own_Ct l Z (⟨"com/example/kingsround/kingsround/engine/CheckedOutbox", "<init>", "(ILcom/example/kingsround/kingsround/engine/CheckedOutbox$Sink;)V"⟩ : MethodName) prog_62_method_1_code 3 none ({ frames := 1, cells := 0, slots := 0, locals := 12 } : Room) #[(.ref a), (.int x), (.ref k)] h0 (fun v h L => v = none ∧ Fr n0 L ∧ Keep h0 h [a]) := by
  refine own_body (y := (⟨"com/example/kingsround/kingsround/engine/CheckedOutbox", "<init>", "(ILcom/example/kingsround/kingsround/engine/CheckedOutbox$Sink;)V"⟩ : MethodName)) (Q := fun v h L => v = none ∧ Fr n0 L ∧ Keep h0 h [a]) (plainFor_of_name own_pn4) ?_
  intro p e s m below meth c s₁ Bd hml0 hZ e0
  have hx := Bd.exec
  have hby := Bd.bytes
  have hml : c.maxLocals = 3 := hml0
  have hown : s.vm.findClass "com/example/kingsround/kingsround/engine/CheckedOutbox" = some m.cls := findClass_of_methodNamed Bd.named
  have hnm := (name_of_methodNamed Bd.named Bd.method).1
  have X0 : Stand p l e ({ frames := 1, cells := 0, slots := 0, locals := 12 } : Room) s m #[(.ref a), (.int x), (.ref k)] below meth c s₁ [] 0 0 := Stand.of_body Bd
  have N0 := Fr.nil n0
  rw [own_efobx]
  have sg1 : own_V p e below s₁ (mkF m 1 #[rv a, iv x, rv k] [(.ref a)]) (mkF m 0 #[rv a, iv x, rv k] []) := by
    intro t kt
    refine XS.aloadN X0.here hx rfl (hb hby own_d7_0) rfl rfl ?_
    show own_S p e below s₁ m 1 #[rv a, iv x, rv k] [(.ref a)] _
    exact kt
  refine own_st sg1 ?_
  obtain ⟨T2, X2, e2, st2⟩ := initO X0 hx hZ hown (hw _ (List.mem_of_getElem? (i := 70) rfl)) (hw _ (List.mem_of_getElem? (i := 9) rfl)) (hw _ (List.mem_of_getElem? (i := 10) rfl)) e0 (g := (mkF m 1 #[rv a, iv x, rv k] [(.ref a)])) rfl (by rw [hml]; rfl) rfl (hb hby own_d7_1) (by decide) (W := 0) (by show 2 * 0 + _ ≤ _; exact Nat.le_of_eq rfl) (by decide)
  refine own_st st2 ?_
  show own_Go p e below _ T2 (mkF m 4 #[rv a, iv x, rv k] [])
  have sg3 : own_V p e below T2 (mkF m 6 #[rv a, iv x, rv k] [(.int x), (.ref a)]) (mkF m 4 #[rv a, iv x, rv k] []) := by
    intro t kt
    refine XS.aloadN X2.here hx rfl (hb hby own_d7_4) rfl rfl ?_
    show own_S p e below T2 m 5 #[rv a, iv x, rv k] [(.ref a)] _
    refine XS.iloadN X2.here hx rfl (hb hby own_d7_5) rfl ?_
    show own_S p e below T2 m 6 #[rv a, iv x, rv k] [(.int x), (.ref a)] _
    exact kt
  refine own_st sg3 ?_
  obtain ⟨T4, h4, X4, e4, W4, st4⟩ := putF X2 hx hZ hown (host := "") (Or.inl (hw _ (List.mem_of_getElem? (i := 71) rfl))) Via.refl e2 F1 EE (Or.inr ⟨(hw _ (List.mem_of_getElem? (i := 72) rfl)), rfl, hnm⟩) (hw _ (List.mem_of_getElem? (i := 56) rfl)) (ty := .int) (by decide) rfl rfl (g := (mkF m 6 #[rv a, iv x, rv k] [(.int x), (.ref a)])) rfl rfl (hb hby own_d7_6)
  refine own_st st4 ?_
  have Z4 : n0 ≤ h4.size := by rw [Wr.size W4]; exact Z0
  have N4 := Fr.snoc X4 N0 g_a
  show own_Go p e below _ T4 (mkF m 9 #[rv a, iv x, rv k] [])
  have KK4 := Keep.of_wr W4
  have F2_4 := F2.other W4 (Or.inr (slot_ne (Or.inr (hw _ (List.mem_of_getElem? (i := 74) rfl))) (Or.inr (hw _ (List.mem_of_getElem? (i := 72) rfl))) (by decide) (t := (.object "com/example/kingsround/kingsround/engine/CheckedOutbox$Sink")) (t' := .int) (by decide) (by decide)))
  have EE_4 := EE.keep KK4
  have sg5 : own_V p e below T4 (mkF m 11 #[rv a, iv x, rv k] [(.ref k), (.ref a)]) (mkF m 9 #[rv a, iv x, rv k] []) := by
    intro t kt
    refine XS.aloadN X4.here hx rfl (hb hby own_d7_9) rfl rfl ?_
    show own_S p e below T4 m 10 #[rv a, iv x, rv k] [(.ref a)] _
    refine XS.aloadN X4.here hx rfl (hb hby own_d7_10) rfl rfl ?_
    show own_S p e below T4 m 11 #[rv a, iv x, rv k] [(.ref k), (.ref a)] _
    exact kt
  refine own_st sg5 ?_
  obtain ⟨T6, h6, X6, e6, W6, st6⟩ := putF X4 hx hZ hown (host := "") (Or.inl (hw _ (List.mem_of_getElem? (i := 73) rfl))) Via.refl e4 F2_4 EE_4 (Or.inr ⟨(hw _ (List.mem_of_getElem? (i := 74) rfl)), rfl, hnm⟩) (hw _ (List.mem_of_getElem? (i := 56) rfl)) (ty := (.object "com/example/kingsround/kingsround/engine/CheckedOutbox$Sink")) (by decide) rfl rfl (g := (mkF m 11 #[rv a, iv x, rv k] [(.ref k), (.ref a)])) rfl rfl (hb hby own_d7_11)
  refine own_st st6 ?_
  have Z6 : n0 ≤ h6.size := by rw [Wr.size W6]; exact Z4
  have N6 := Fr.snoc X6 N4 g_a
  show own_Go p e below _ T6 (mkF m 14 #[rv a, iv x, rv k] [])
  exact own_retV X6 hx Bd.notSynchronized Bd.returns (hb hby own_d7_14) (by decide) (by decide) e6 ⟨rfl, N6, (Keep.of_wr W4).wr W6 (Or.inl (List.mem_of_getElem? (i := 0) rfl))⟩
theorem own_d1_0 : decode prog_65_method_2_code 0 = .ok (.aload_n 0, 1) := by decide +kernel
theorem own_d1_1 : decode prog_65_method_2_code 1 = .ok (.invokespecial 11, 3) := by decide +kernel
theorem own_d1_4 : decode prog_65_method_2_code 4 = .ok (.aload_n 1, 1) := by decide +kernel
theorem own_d1_5 : decode prog_65_method_2_code 5 = .ok (.arraylength, 1) := by decide +kernel
theorem own_d1_6 : decode prog_65_method_2_code 6 = .ok (.istore_n 2, 1) := by decide +kernel
theorem own_d1_7 : decode prog_65_method_2_code 7 = .ok (.aload_n 0, 1) := by decide +kernel
theorem own_d1_8 : decode prog_65_method_2_code 8 = .ok (.iload_n 2, 1) := by decide +kernel
theorem own_d1_9 : decode prog_65_method_2_code 9 = .ok (.anewarray 16, 3) := by decide +kernel
theorem own_d1_12 : decode prog_65_method_2_code 12 = .ok (.putfield 18, 3) := by decide +kernel
theorem own_d1_15 : decode prog_65_method_2_code 15 = .ok (.iconst 1, 1) := by decide +kernel
theorem own_d1_16 : decode prog_65_method_2_code 16 = .ok (.istore_n 3, 1) := by decide +kernel
theorem own_d1_17 : decode prog_65_method_2_code 17 = .ok (.iload_n 3, 1) := by decide +kernel
theorem own_d1_18 : decode prog_65_method_2_code 18 = .ok (.iload_n 2, 1) := by decide +kernel
theorem own_d1_19 : decode prog_65_method_2_code 19 = .ok (.if_icmp .gt 27, 3) := by decide +kernel
theorem own_d1_22 : decode prog_65_method_2_code 22 = .ok (.aload_n 0, 1) := by decide +kernel
theorem own_d1_23 : decode prog_65_method_2_code 23 = .ok (.getfield 18, 3) := by decide +kernel
theorem own_d1_26 : decode prog_65_method_2_code 26 = .ok (.iload_n 3, 1) := by decide +kernel
theorem own_d1_27 : decode prog_65_method_2_code 27 = .ok (.iconst 1, 1) := by decide +kernel
theorem own_d1_28 : decode prog_65_method_2_code 28 = .ok (.isub, 1) := by decide +kernel
theorem own_d1_29 : decode prog_65_method_2_code 29 = .ok (.new 16, 3) := by decide +kernel
theorem own_d1_32 : decode prog_65_method_2_code 32 = .ok (.dup, 1) := by decide +kernel
theorem own_d1_33 : decode prog_65_method_2_code 33 = .ok (.aload_n 0, 1) := by decide +kernel
theorem own_d1_34 : decode prog_65_method_2_code 34 = .ok (.iload_n 3, 1) := by decide +kernel
theorem own_d1_35 : decode prog_65_method_2_code 35 = .ok (.iload_n 2, 1) := by decide +kernel
theorem own_d1_36 : decode prog_65_method_2_code 36 = .ok (.invokespecial 22, 3) := by decide +kernel
theorem own_d1_39 : decode prog_65_method_2_code 39 = .ok (.aastore, 1) := by decide +kernel
theorem own_d1_40 : decode prog_65_method_2_code 40 = .ok (.iinc 3 1, 3) := by decide +kernel
theorem own_d1_43 : decode prog_65_method_2_code 43 = .ok (.goto (-26), 3) := by decide +kernel
theorem own_d1_46 : decode prog_65_method_2_code 46 = .ok (.aload_n 0, 1) := by decide +kernel
theorem own_d1_47 : decode prog_65_method_2_code 47 = .ok (.aload_n 1, 1) := by decide +kernel
theorem own_d1_48 : decode prog_65_method_2_code 48 = .ok (.invokevirtual 25, 3) := by decide +kernel
theorem own_d1_51 : decode prog_65_method_2_code 51 = .ok (.checkcast 26, 3) := by decide +kernel
theorem own_d1_54 : decode prog_65_method_2_code 54 = .ok (.putfield 31, 3) := by decide +kernel
theorem own_d1_57 : decode prog_65_method_2_code 57 = .ok (.aload_n 0, 1) := by decide +kernel
theorem own_d1_58 : decode prog_65_method_2_code 58 = .ok (.aload_n 1, 1) := by decide +kernel
theorem own_d1_59 : decode prog_65_method_2_code 59 = .ok (.invokestatic 34, 3) := by decide +kernel
theorem own_d1_62 : decode prog_65_method_2_code 62 = .ok (.putfield 38, 3) := by decide +kernel
theorem own_d1_65 : decode prog_65_method_2_code 65 = .ok (.aload_n 0, 1) := by decide +kernel
theorem own_d1_66 : decode prog_65_method_2_code 66 = .ok (.iload_n 2, 1) := by decide +kernel
theorem own_d1_67 : decode prog_65_method_2_code 67 = .ok (.newarray .byte, 2) := by decide +kernel
theorem own_d1_69 : decode prog_65_method_2_code 69 = .ok (.putfield 41, 3) := by decide +kernel
theorem own_d1_72 : decode prog_65_method_2_code 72 = .ok (.aload_n 0, 1) := by decide +kernel
theorem own_d1_73 : decode prog_65_method_2_code 73 = .ok (.getfield 41, 3) := by decide +kernel
theorem own_d1_76 : decode prog_65_method_2_code 76 = .ok (.iconst (-1), 1) := by decide +kernel
theorem own_d1_77 : decode prog_65_method_2_code 77 = .ok (.invokestatic 47, 3) := by decide +kernel
theorem own_d1_80 : decode prog_65_method_2_code 80 = .ok (.aload_n 0, 1) := by decide +kernel
theorem own_d1_81 : decode prog_65_method_2_code 81 = .ok (.iload_n 2, 1) := by decide +kernel
theorem own_d1_82 : decode prog_65_method_2_code 82 = .ok (.newarray .boolean, 2) := by decide +kernel
theorem own_d1_84 : decode prog_65_method_2_code 84 = .ok (.putfield 53, 3) := by decide +kernel
theorem own_d1_87 : decode prog_65_method_2_code 87 = .ok (.aload_n 0, 1) := by decide +kernel
theorem own_d1_88 : decode prog_65_method_2_code 88 = .ok (.new 56, 3) := by decide +kernel
theorem own_d1_91 : decode prog_65_method_2_code 91 = .ok (.dup, 1) := by decide +kernel
theorem own_d1_92 : decode prog_65_method_2_code 92 = .ok (.iload_n 2, 1) := by decide +kernel
theorem own_d1_93 : decode prog_65_method_2_code 93 = .ok (.new 58, 3) := by decide +kernel
theorem own_d1_96 : decode prog_65_method_2_code 96 = .ok (.dup, 1) := by decide +kernel
theorem own_d1_97 : decode prog_65_method_2_code 97 = .ok (.aload_n 0, 1) := by decide +kernel
theorem own_d1_98 : decode prog_65_method_2_code 98 = .ok (.invokespecial 60, 3) := by decide +kernel
theorem own_d1_101 : decode prog_65_method_2_code 101 = .ok (.invokespecial 63, 3) := by decide +kernel
theorem own_d1_104 : decode prog_65_method_2_code 104 = .ok (.putfield 66, 3) := by decide +kernel
theorem own_d1_107 : decode prog_65_method_2_code 107 = .ok (.return_, 1) := by decide +kernel
theorem own_pd1 : parseMethodDescriptor "(Lcom/example/kingsround/kingsround/engine/Deliveries;II)V" = some ⟨[(.object "com/example/kingsround/kingsround/engine/Deliveries"), .int, .int], none⟩ := by decide +kernel
theorem own_pd2 : parseMethodDescriptor "([Z)[I" = some ⟨[(.array .boolean)], some (.array .int)⟩ := by decide +kernel
theorem own_pd3 : parseMethodDescriptor "(Lcom/example/kingsround/kingsround/engine/Deliveries;)V" = some ⟨[(.object "com/example/kingsround/kingsround/engine/Deliveries")], none⟩ := by decide +kernel
theorem own_pd4 : parseMethodDescriptor "(ILcom/example/kingsround/kingsround/engine/CheckedOutbox$Sink;)V" = some ⟨[.int, (.object "com/example/kingsround/kingsround/engine/CheckedOutbox$Sink")], none⟩ := by decide +kernel
theorem own_efini (m : MethodId) (d : Nat) (lk : Nat) : entryFrame m #[(.ref d), (.ref lk)] 4 = mkF m 0 #[rv d, rv lk, .unset, .unset] [] := by first | (simp [entryFrame, mkF, argsToLocals, Value.category]; done) | rfl
set_option maxRecDepth 65536 in
set_option maxHeartbeats 40000000 in
theorem own_rmini (l : Launch) (Z : State) (a0 : Array Value) (hw : ∀ d ∈ tables_1, d.before a0 Z = true) (d : Nat) (lk : Nat) (kk : Nat → Int32) (h0 : Heap) (n0 : Nat) (Z0 : n0 ≤ h0.size) (EE : Exa Z h0 d "com/example/kingsround/kingsround/engine/Deliveries") (Finboxes : Fld Z h0 d "com/example/kingsround/kingsround/engine/Deliveries" "inboxes" "[Lcom/example/kingsround/kingsround/engine/Deliveries$Delivered;" .null) (Fkept : Fld Z h0 d "com/example/kingsround/kingsround/engine/Deliveries" "kept" "[Z" .null) (FkeptParties : Fld Z h0 d "com/example/kingsround/kingsround/engine/Deliveries" "keptParties" "[I" .null) (FtoAll : Fld Z h0 d "com/example/kingsround/kingsround/engine/Deliveries" "toAll" "[B" .null) (FoneByOne : Fld Z h0 d "com/example/kingsround/kingsround/engine/Deliveries" "oneByOne" "[Z" .null) (Foutbox : Fld Z h0 d "com/example/kingsround/kingsround/engine/Deliveries" "outbox" "Lcom/example/kingsround/kingsround/engine/CheckedOutbox;" .null) (Fcount : Fld Z h0 d "com/example/kingsround/kingsround/engine/Deliveries" "count" "J" (.long (0 : Int64))) (A : own_AI Z h0 lk .boolean 3 kk) (EK : Exa Z h0 lk "[Z") (g_d : n0 ≤ d) (hld : lk < d) :
    own_Ct l Z (⟨"com/example/kingsround/kingsround/engine/Deliveries", "<init>", "([Z)V"⟩ : MethodName) prog_65_method_2_code 4 none ({ frames := 2, cells := 13, slots := 38, locals := 33 } : Room) #[(.ref d), (.ref lk)] h0 (fun v h L => v = none ∧ Fr n0 L ∧ Keep h0 h [d] ∧ ∃ (ib kp ta ob : Nat) (q r : Nat → Nat), own_Ad n0 d ib kp ta ob q r ∧ own_D Z h d ib kp ta ob q r kk (fun _ => -1) (fun _ => 0) (fun _ _ => -1) 0) := by
  refine own_body (y := (⟨"com/example/kingsround/kingsround/engine/Deliveries", "<init>", "([Z)V"⟩ : MethodName)) (Q := fun v h L => v = none ∧ Fr n0 L ∧ Keep h0 h [d] ∧ ∃ (ib kp ta ob : Nat) (q r : Nat → Nat), own_Ad n0 d ib kp ta ob q r ∧ own_D Z h d ib kp ta ob q r kk (fun _ => -1) (fun _ => 0) (fun _ _ => -1) 0) (plainFor_of_name own_pn1) ?_
  intro p e s m below meth c s₁ Bd hml0 hZ e0
  have hx := Bd.exec
  have hby := Bd.bytes
  have hml : c.maxLocals = 4 := hml0
  have hown : s.vm.findClass "com/example/kingsround/kingsround/engine/Deliveries" = some m.cls := findClass_of_methodNamed Bd.named
  have hnm := (name_of_methodNamed Bd.named Bd.method).1
  have X0 : Stand p l e ({ frames := 2, cells := 13, slots := 38, locals := 33 } : Room) s m #[(.ref d), (.ref lk)] below meth c s₁ [] 0 0 := Stand.of_body Bd
  have N0 := Fr.nil n0
  rw [own_efini]
  have ltd : d < h0.size := EE.lt
  have sg1 : own_V p e below s₁ (mkF m 1 #[rv d, rv lk, .unset, .unset] [(.ref d)]) (mkF m 0 #[rv d, rv lk, .unset, .unset] []) := by
    intro t kt
    refine XS.aloadN X0.here hx rfl (hb hby own_d1_0) rfl rfl ?_
    show own_S p e below s₁ m 1 #[rv d, rv lk, .unset, .unset] [(.ref d)] _
    exact kt
  refine own_st sg1 ?_
  obtain ⟨T2, X2, e2, st2⟩ := initO X0 hx hZ hown (hw _ (List.mem_of_getElem? (i := 8) rfl)) (hw _ (List.mem_of_getElem? (i := 9) rfl)) (hw _ (List.mem_of_getElem? (i := 10) rfl)) e0 (g := (mkF m 1 #[rv d, rv lk, .unset, .unset] [(.ref d)])) rfl (by rw [hml]; rfl) rfl (hb hby own_d1_1) (by decide) (W := 0) (by show 2 * 0 + _ ≤ _; exact Nat.le_of_eq rfl) (by decide)
  refine own_st st2 ?_
  show own_Go p e below _ T2 (mkF m 4 #[rv d, rv lk, .unset, .unset] [])
  have sg3 : own_V p e below T2 (mkF m 9 #[rv d, rv lk, iv (3 : Int32), .unset] [(.int (3 : Int32)), (.ref d)]) (mkF m 4 #[rv d, rv lk, .unset, .unset] []) := by
    intro t kt
    refine XS.aloadN X2.here hx rfl (hb hby own_d1_4) rfl rfl ?_
    show own_S p e below T2 m 5 #[rv d, rv lk, .unset, .unset] [(.ref lk)] _
    refine own_len (z := (3 : Int32)) X2 hx hZ e2 A (by decide) (g := (mkF m 5 #[rv d, rv lk, .unset, .unset] [(.ref lk)])) rfl rfl (hb hby own_d1_5) _ ?_
    show own_S p e below T2 m 6 #[rv d, rv lk, .unset, .unset] [(.int (3 : Int32))] _
    refine XS.istoreN X2.here hx rfl (hb hby own_d1_6) rfl (l' := #[rv d, rv lk, iv (3 : Int32), .unset]) rfl ?_
    show own_S p e below T2 m 7 #[rv d, rv lk, iv (3 : Int32), .unset] [] _
    refine XS.aloadN X2.here hx rfl (hb hby own_d1_7) rfl rfl ?_
    show own_S p e below T2 m 8 #[rv d, rv lk, iv (3 : Int32), .unset] [(.ref d)] _
    refine XS.iloadN X2.here hx rfl (hb hby own_d1_8) rfl ?_
    show own_S p e below T2 m 9 #[rv d, rv lk, iv (3 : Int32), .unset] [(.int (3 : Int32)), (.ref d)] _
    exact kt
  refine own_st sg3 ?_
  obtain ⟨T4, h4, a4, g4, X4, e4, E4, A4, O4, st4⟩ := own_newR (n := 3) X2 hx hZ hown (hw _ (List.mem_of_getElem? (i := 11) rfl)) (hw _ (List.mem_of_getElem? (i := 12) rfl)) e2 (by decide) (g := (mkF m 9 #[rv d, rv lk, iv (3 : Int32), .unset] [(.int (3 : Int32)), (.ref d)])) rfl rfl (hb hby own_d1_9) (cap := 3) (by decide) (by decide) (by decide) (by decide)
  refine own_st st4 ?_
  have g_a4 : n0 ≤ a4 := by rw [g4]; exact Z0
  have Z4 : n0 ≤ h4.size := Nat.le_trans Z0 E4.1
  show own_Go p e below _ T4 (mkF m 12 #[rv d, rv lk, iv (3 : Int32), .unset] [(.ref a4), (.ref d)])
  have ltEE_4 : d < a4 := by rw [g4]; exact EE.lt
  have KK4 : Keep h0 h4 [] := (Keep.refl _ _).ext E4
  have EE_4 := EE.keep KK4
  have AL_4 := A.keep KK4 nin0
  have EK_4 := EK.keep KK4
  have Finboxes_4 := Finboxes.keep KK4 nin0
  have Fkept_4 := Fkept.keep KK4 nin0
  have FkeptParties_4 := FkeptParties.keep KK4 nin0
  have FtoAll_4 := FtoAll.keep KK4 nin0
  have FoneByOne_4 := FoneByOne.keep KK4 nin0
  have Foutbox_4 := Foutbox.keep KK4 nin0
  have Fcount_4 := Fcount.keep KK4 nin0
  have sz4 : h0.size ≤ a4 := by rw [g4]; exact (Keep.refl h0 [d]).1
  have KD4 : Keep h0 h4 [d] := (Keep.refl h0 [d]).ext E4
  have OV : own_Ov Z h4 a4 "com/example/kingsround/kingsround/engine/Deliveries$Delivered" := O4
  obtain ⟨T5, h5, X5, e5, W5, st5⟩ := putF X4 hx hZ hown (host := "") (Or.inl (hw _ (List.mem_of_getElem? (i := 13) rfl))) Via.refl e4 Finboxes_4 EE_4 (Or.inr ⟨(hw _ (List.mem_of_getElem? (i := 14) rfl)), rfl, hnm⟩) (hw _ (List.mem_of_getElem? (i := 3) rfl)) (ty := (.array (.object "com/example/kingsround/kingsround/engine/Deliveries$Delivered"))) (by decide) rfl rfl (g := (mkF m 12 #[rv d, rv lk, iv (3 : Int32), .unset] [(.ref a4), (.ref d)])) rfl rfl (hb hby own_d1_12)
  refine own_st st5 ?_
  have Z5 : n0 ≤ h5.size := by rw [Wr.size W5]; exact Z4
  have N5 := Fr.snoc X5 N0 g_d
  show own_Go p e below _ T5 (mkF m 15 #[rv d, rv lk, iv (3 : Int32), .unset] [])
  have KK5 := Keep.of_wr W5
  have Fkept_5 := Fkept_4.other W5 (Or.inr (slot_ne (Or.inr (hw _ (List.mem_of_getElem? (i := 43) rfl))) (Or.inr (hw _ (List.mem_of_getElem? (i := 14) rfl))) (by decide) (t := (.array .boolean)) (t' := (.array (.object "com/example/kingsround/kingsround/engine/Deliveries$Delivered"))) (by decide) (by decide)))
  have FkeptParties_5 := FkeptParties_4.other W5 (Or.inr (slot_ne (Or.inr (hw _ (List.mem_of_getElem? (i := 49) rfl))) (Or.inr (hw _ (List.mem_of_getElem? (i := 14) rfl))) (by decide) (t := (.array .int)) (t' := (.array (.object "com/example/kingsround/kingsround/engine/Deliveries$Delivered"))) (by decide) (by decide)))
  have FtoAll_5 := FtoAll_4.other W5 (Or.inr (slot_ne (Or.inr (hw _ (List.mem_of_getElem? (i := 51) rfl))) (Or.inr (hw _ (List.mem_of_getElem? (i := 14) rfl))) (by decide) (t := (.array .byte)) (t' := (.array (.object "com/example/kingsround/kingsround/engine/Deliveries$Delivered"))) (by decide) (by decide)))
  have FoneByOne_5 := FoneByOne_4.other W5 (Or.inr (slot_ne (Or.inr (hw _ (List.mem_of_getElem? (i := 54) rfl))) (Or.inr (hw _ (List.mem_of_getElem? (i := 14) rfl))) (by decide) (t := (.array .boolean)) (t' := (.array (.object "com/example/kingsround/kingsround/engine/Deliveries$Delivered"))) (by decide) (by decide)))
  have Foutbox_5 := Foutbox_4.other W5 (Or.inr (slot_ne (Or.inr (hw _ (List.mem_of_getElem? (i := 76) rfl))) (Or.inr (hw _ (List.mem_of_getElem? (i := 14) rfl))) (by decide) (t := (.object "com/example/kingsround/kingsround/engine/CheckedOutbox")) (t' := (.array (.object "com/example/kingsround/kingsround/engine/Deliveries$Delivered"))) (by decide) (by decide)))
  have Fcount_5 := Fcount_4.other W5 (Or.inr (slot_ne (Or.inl (hw _ (List.mem_of_getElem? (i := 88) rfl))) (Or.inr (hw _ (List.mem_of_getElem? (i := 14) rfl))) (by decide) (t := .long) (t' := (.array (.object "com/example/kingsround/kingsround/engine/Deliveries$Delivered"))) (by decide) (by decide)))
  have EE_5 := EE_4.keep KK5
  have AL_5 := AL_4.keep KK5 (own_ninS (by omega) nin0)
  have EK_5 := EK_4.keep KK5
  have AI_5 := A4.keep KK5 (own_ninS (by omega) nin0)
  have OV_5 := OV.keep KK5
  have Finboxes_5 := Finboxes_4.same W5
  have KD5 : Keep h0 h5 [d] := KD4.wr W5 (Or.inl (List.mem_of_getElem? (i := 0) rfl))
  have sg6 : own_V p e below T5 (mkF m 17 #[rv d, rv lk, iv (3 : Int32), iv (1 : Int32)] []) (mkF m 15 #[rv d, rv lk, iv (3 : Int32), .unset] []) := by
    intro t kt
    refine XS.iconst X5.here hx rfl (hb hby own_d1_15) ?_
    show own_S p e below T5 m 16 #[rv d, rv lk, iv (3 : Int32), .unset] [(.int (1 : Int32))] _
    refine XS.istoreN X5.here hx rfl (hb hby own_d1_16) rfl (l' := #[rv d, rv lk, iv (3 : Int32), iv (1 : Int32)]) rfl ?_
    show own_S p e below T5 m 17 #[rv d, rv lk, iv (3 : Int32), iv (1 : Int32)] [] _
    exact kt
  refine own_st sg6 ?_
  have sg7 : own_V p e below T5 (mkF m 19 #[rv d, rv lk, iv (3 : Int32), iv (1 : Int32)] [(.int (3 : Int32)), (.int (1 : Int32))]) (mkF m 17 #[rv d, rv lk, iv (3 : Int32), iv (1 : Int32)] []) := by
    intro t kt
    refine XS.iloadN X5.here hx rfl (hb hby own_d1_17) rfl ?_
    show own_S p e below T5 m 18 #[rv d, rv lk, iv (3 : Int32), iv (1 : Int32)] [(.int (1 : Int32))] _
    refine XS.iloadN X5.here hx rfl (hb hby own_d1_18) rfl ?_
    show own_S p e below T5 m 19 #[rv d, rv lk, iv (3 : Int32), iv (1 : Int32)] [(.int (3 : Int32)), (.int (1 : Int32))] _
    exact kt
  refine own_st sg7 ?_
  have sg9 : own_V p e below T5 (mkF m 22 #[rv d, rv lk, iv (3 : Int32), iv (1 : Int32)] []) (mkF m 19 #[rv d, rv lk, iv (3 : Int32), iv (1 : Int32)] [(.int (3 : Int32)), (.int (1 : Int32))]) := by
    intro t kt
    refine XS.icmpNo X5.here hx rfl (hb hby own_d1_19) rfl (flt (by decide : ¬ (3 : Int32) < (1 : Int32))).2.2.1 ?_
    exact kt
  refine own_st sg9 ?_
  have sg10 : own_V p e below T5 (mkF m 23 #[rv d, rv lk, iv (3 : Int32), iv (1 : Int32)] [(.ref d)]) (mkF m 22 #[rv d, rv lk, iv (3 : Int32), iv (1 : Int32)] []) := by
    intro t kt
    refine XS.aloadN X5.here hx rfl (hb hby own_d1_22) rfl rfl ?_
    show own_S p e below T5 m 23 #[rv d, rv lk, iv (3 : Int32), iv (1 : Int32)] [(.ref d)] _
    exact kt
  refine own_st sg10 ?_
  obtain ⟨T11, X11, e11, st11⟩ := getF X5 hx hZ hown (host := "") (Or.inl (hw _ (List.mem_of_getElem? (i := 13) rfl))) Via.refl e5 Finboxes_5 (g := (mkF m 23 #[rv d, rv lk, iv (3 : Int32), iv (1 : Int32)] [(.ref d)])) rfl rfl (hb hby own_d1_23)
  refine own_st st11 ?_
  show own_Go p e below _ T11 (mkF m 26 #[rv d, rv lk, iv (3 : Int32), iv (1 : Int32)] [(.ref a4)])
  have sg12 : own_V p e below T11 (mkF m 29 #[rv d, rv lk, iv (3 : Int32), iv (1 : Int32)] [(.int ((1 : Int32) - (1 : Int32))), (.ref a4)]) (mkF m 26 #[rv d, rv lk, iv (3 : Int32), iv (1 : Int32)] [(.ref a4)]) := by
    intro t kt
    refine XS.iloadN X11.here hx rfl (hb hby own_d1_26) rfl ?_
    show own_S p e below T11 m 27 #[rv d, rv lk, iv (3 : Int32), iv (1 : Int32)] [(.int (1 : Int32)), (.ref a4)] _
    refine XS.iconst X11.here hx rfl (hb hby own_d1_27) ?_
    show own_S p e below T11 m 28 #[rv d, rv lk, iv (3 : Int32), iv (1 : Int32)] [(.int (1 : Int32)), (.int (1 : Int32)), (.ref a4)] _
    refine XS.isub X11.here hx rfl (hb hby own_d1_28) rfl ?_
    show own_S p e below T11 m 29 #[rv d, rv lk, iv (3 : Int32), iv (1 : Int32)] [(.int ((1 : Int32) - (1 : Int32))), (.ref a4)] _
    exact kt
  refine own_st sg12 ?_
  obtain ⟨T13, h13, X13, e13, E13, A13, D13, -, st13⟩ := newO X11 hx hZ hown (hw _ (List.mem_of_getElem? (i := 11) rfl)) (hw _ (List.mem_of_getElem? (i := 15) rfl)) (hw _ (List.mem_of_getElem? (i := 16) rfl)) e11 (g := (mkF m 29 #[rv d, rv lk, iv (3 : Int32), iv (1 : Int32)] [(.int ((1 : Int32) - (1 : Int32))), (.ref a4)])) rfl (hb hby own_d1_29) (by decide) (by decide)
  obtain ⟨a13, g13⟩ : ∃ z, z = h5.size := ⟨_, rfl⟩
  rw [← g13] at A13 D13 st13
  refine own_st st13 ?_
  have g_a13 : n0 ≤ a13 := by rw [g13]; exact Z5
  have Z13 : n0 ≤ h13.size := Nat.le_trans Z5 E13.1
  show own_Go p e below _ T13 (mkF m 32 #[rv d, rv lk, iv (3 : Int32), iv (1 : Int32)] [(.ref a13), (.int ((1 : Int32) - (1 : Int32))), (.ref a4)])
  have ltAI_13 : a4 < a13 := by rw [g13]; exact AI_5.lt
  have KK13 : Keep h5 h13 [] := (Keep.refl _ _).ext E13
  have EE_13 := EE_5.keep KK13
  have AL_13 := AL_5.keep KK13 nin0
  have EK_13 := EK_5.keep KK13
  have Finboxes_13 := Finboxes_5.keep KK13 nin0
  have Fkept_13 := Fkept_5.keep KK13 nin0
  have FkeptParties_13 := FkeptParties_5.keep KK13 nin0
  have FtoAll_13 := FtoAll_5.keep KK13 nin0
  have FoneByOne_13 := FoneByOne_5.keep KK13 nin0
  have Foutbox_13 := Foutbox_5.keep KK13 nin0
  have Fcount_13 := Fcount_5.keep KK13 nin0
  have AI_13 := AI_5.keep KK13 nin0
  have OV_13 := OV_5.keep KK13
  have sz13 : h0.size ≤ a13 := by rw [g13]; exact KD5.1
  have KD13 : Keep h0 h13 [d] := KD5.ext E13
  have Gthis00 : Fld Z h13 a13 "com/example/kingsround/kingsround/engine/Deliveries$Delivered" "this$0" "Lcom/example/kingsround/kingsround/engine/Deliveries;" .null := D13 (Or.inr (hw _ (List.mem_of_getElem? (i := 21) rfl))) (ty := (.object "com/example/kingsround/kingsround/engine/Deliveries")) (by decide)
  have Gto0 : Fld Z h13 a13 "com/example/kingsround/kingsround/engine/Deliveries$Delivered" "to" "I" (.int (0 : Int32)) := D13 (Or.inr (hw _ (List.mem_of_getElem? (i := 24) rfl))) (ty := .int) (by decide)
  have Greceived0 : Fld Z h13 a13 "com/example/kingsround/kingsround/engine/Deliveries$Delivered" "received" "[B" .null := D13 (Or.inr (hw _ (List.mem_of_getElem? (i := 27) rfl))) (ty := (.array .byte)) (by decide)
  have sg14 : own_V p e below T13 (mkF m 36 #[rv d, rv lk, iv (3 : Int32), iv (1 : Int32)] [(.int (3 : Int32)), (.int (1 : Int32)), (.ref d), (.ref a13), (.ref a13), (.int ((1 : Int32) - (1 : Int32))), (.ref a4)]) (mkF m 32 #[rv d, rv lk, iv (3 : Int32), iv (1 : Int32)] [(.ref a13), (.int ((1 : Int32) - (1 : Int32))), (.ref a4)]) := by
    intro t kt
    refine XS.dup X13.here hx rfl (hb hby own_d1_32) rfl rfl ?_
    show own_S p e below T13 m 33 #[rv d, rv lk, iv (3 : Int32), iv (1 : Int32)] [(.ref a13), (.ref a13), (.int ((1 : Int32) - (1 : Int32))), (.ref a4)] _
    refine XS.aloadN X13.here hx rfl (hb hby own_d1_33) rfl rfl ?_
    show own_S p e below T13 m 34 #[rv d, rv lk, iv (3 : Int32), iv (1 : Int32)] [(.ref d), (.ref a13), (.ref a13), (.int ((1 : Int32) - (1 : Int32))), (.ref a4)] _
    refine XS.iloadN X13.here hx rfl (hb hby own_d1_34) rfl ?_
    show own_S p e below T13 m 35 #[rv d, rv lk, iv (3 : Int32), iv (1 : Int32)] [(.int (1 : Int32)), (.ref d), (.ref a13), (.ref a13), (.int ((1 : Int32) - (1 : Int32))), (.ref a4)] _
    refine XS.iloadN X13.here hx rfl (hb hby own_d1_35) rfl ?_
    show own_S p e below T13 m 36 #[rv d, rv lk, iv (3 : Int32), iv (1 : Int32)] [(.int (3 : Int32)), (.int (1 : Int32)), (.ref d), (.ref a13), (.ref a13), (.int ((1 : Int32) - (1 : Int32))), (.ref a4)] _
    exact kt
  refine own_st sg14 ?_
  obtain ⟨_, T15, L15, X15, hQ15, st15⟩ := own_callI (y := (⟨"com/example/kingsround/kingsround/engine/Deliveries$Delivered", "<init>", "(Lcom/example/kingsround/kingsround/engine/Deliveries;II)V"⟩ : MethodName)) (a := a13) X13 hx hZ hown rfl (hw _ (List.mem_of_getElem? (i := 17) rfl)) (hw _ (List.mem_of_getElem? (i := 18) rfl)) (hw _ (List.mem_of_getElem? (i := 16) rfl)) (hw _ (List.mem_of_getElem? (i := 19) rfl)) (by decide) (own_rmdv l Z a0 hw a13 d (1 : Int32) (3 : Int32) h13 n0 Z13 A13 Gthis00 Gto0 Greceived0 g_a13 rfl) e13 (g := (mkF m 36 #[rv d, rv lk, iv (3 : Int32), iv (1 : Int32)] [(.int (3 : Int32)), (.int (1 : Int32)), (.ref d), (.ref a13), (.ref a13), (.int ((1 : Int32) - (1 : Int32))), (.ref a4)])) rfl (by rw [hml]; rfl) (argsL := [(.ref d), (.int (1 : Int32)), (.int (3 : Int32))]) (rest := [(.ref a13), (.int ((1 : Int32) - (1 : Int32))), (.ref a4)]) (lenOf own_pd1 rfl) rfl (W := 3) (by show 2 * 0 + _ ≤ _; exact Nat.le_of_eq rfl) (hb hby own_d1_36) (by decide) (by decide) (by decide) (by decide)
  obtain ⟨rfl, Nq15, K15, r15, szr15, DV15⟩ := hQ15
  refine own_st st15 ?_
  have Z15 : n0 ≤ T15.heap.size := Nat.le_trans Z13 K15.1
  have N15 := Fr.app N5 Nq15
  show own_Go p e below _ T15 (mkF m 39 #[rv d, rv lk, iv (3 : Int32), iv (1 : Int32)] [(.ref a13), (.int ((1 : Int32) - (1 : Int32))), (.ref a4)])
  have KD15 : Keep h0 T15.heap [d] := KD13.trans K15 (allS (Or.inr sz13) all0)
  have lq15 : a13 < r15 := Nat.lt_of_lt_of_le A13.lt szr15
  have EE_15 := EE_13.keep K15
  have AL_15 := AL_13.keep K15 (own_ninS (by omega) nin0)
  have EK_15 := EK_13.keep K15
  have Finboxes_15 := Finboxes_13.keep K15 (own_ninS (by omega) nin0)
  have Fkept_15 := Fkept_13.keep K15 (own_ninS (by omega) nin0)
  have FkeptParties_15 := FkeptParties_13.keep K15 (own_ninS (by omega) nin0)
  have FtoAll_15 := FtoAll_13.keep K15 (own_ninS (by omega) nin0)
  have FoneByOne_15 := FoneByOne_13.keep K15 (own_ninS (by omega) nin0)
  have Foutbox_15 := Foutbox_13.keep K15 (own_ninS (by omega) nin0)
  have Fcount_15 := Fcount_13.keep K15 (own_ninS (by omega) nin0)
  have AI_15 := AI_13.keep K15 (own_ninS (by omega) nin0)
  have OV_15 := OV_13.keep K15
  have EQ_15 := A13.keep K15
  have DW15 : own_Dv Z T15.heap a13 r15 d (Int32.ofNat (0 + 1)) (fun _ => -1) := DV15
  obtain ⟨T16, h16, X16, e16, W16, A16, st16⟩ := own_wrR X15 hx hZ rfl AI_15 rfl rfl (OV_15.sto AI_15 (Ins.self DW15.1)) (k := 0) (by decide) (by decide) (g := (mkF m 39 #[rv d, rv lk, iv (3 : Int32), iv (1 : Int32)] [(.ref a13), (.int ((1 : Int32) - (1 : Int32))), (.ref a4)])) rfl rfl (hb hby own_d1_39)
  refine own_st st16 ?_
  have Z16 : n0 ≤ h16.size := by rw [Wr.size W16]; exact Z15
  have N16 := Fr.snoc X16 N15 g_a4
  show own_Go p e below _ T16 (mkF m 40 #[rv d, rv lk, iv (3 : Int32), iv (1 : Int32)] [])
  have KK16 := Keep.of_wr W16
  have EE_16 := EE_15.keep KK16
  have AL_16 := AL_15.keep KK16 (own_ninS (by omega) nin0)
  have EK_16 := EK_15.keep KK16
  have Finboxes_16 := Finboxes_15.keep KK16 (own_ninS (by omega) nin0)
  have Fkept_16 := Fkept_15.keep KK16 (own_ninS (by omega) nin0)
  have FkeptParties_16 := FkeptParties_15.keep KK16 (own_ninS (by omega) nin0)
  have FtoAll_16 := FtoAll_15.keep KK16 (own_ninS (by omega) nin0)
  have FoneByOne_16 := FoneByOne_15.keep KK16 (own_ninS (by omega) nin0)
  have Foutbox_16 := Foutbox_15.keep KK16 (own_ninS (by omega) nin0)
  have Fcount_16 := Fcount_15.keep KK16 (own_ninS (by omega) nin0)
  have OV_16 := OV_15.keep KK16
  have DV0_16 := DW15.keep KK16 (own_ninS (by omega) nin0) (own_ninS (by omega) nin0)
  have KD16 : Keep h0 h16 [d] := KD15.wr W16 (Or.inr sz4)
  have sg17 : own_V p e below T16 (mkF m 17 #[rv d, rv lk, iv (3 : Int32), iv ((1 : Int32) + (1 : Int32))] []) (mkF m 40 #[rv d, rv lk, iv (3 : Int32), iv (1 : Int32)] []) := by
    intro t kt
    refine XS.iinc X16.here hx rfl (hb hby own_d1_40) rfl (l' := #[rv d, rv lk, iv (3 : Int32), iv ((1 : Int32) + (1 : Int32))]) rfl ?_
    show own_S p e below T16 m 43 #[rv d, rv lk, iv (3 : Int32), iv ((1 : Int32) + (1 : Int32))] [] _
    refine XS.goto X16.here hx rfl (pc0 := 43) (pc' := 17) rfl (hb hby own_d1_43) (by decide) (by decide) ?_
    show own_S p e below T16 m 17 #[rv d, rv lk, iv (3 : Int32), iv ((1 : Int32) + (1 : Int32))] [] _
    exact kt
  refine own_st sg17 ?_
  have sg18 : own_V p e below T16 (mkF m 19 #[rv d, rv lk, iv (3 : Int32), iv ((1 : Int32) + (1 : Int32))] [(.int (3 : Int32)), (.int ((1 : Int32) + (1 : Int32)))]) (mkF m 17 #[rv d, rv lk, iv (3 : Int32), iv ((1 : Int32) + (1 : Int32))] []) := by
    intro t kt
    refine XS.iloadN X16.here hx rfl (hb hby own_d1_17) rfl ?_
    show own_S p e below T16 m 18 #[rv d, rv lk, iv (3 : Int32), iv ((1 : Int32) + (1 : Int32))] [(.int ((1 : Int32) + (1 : Int32)))] _
    refine XS.iloadN X16.here hx rfl (hb hby own_d1_18) rfl ?_
    show own_S p e below T16 m 19 #[rv d, rv lk, iv (3 : Int32), iv ((1 : Int32) + (1 : Int32))] [(.int (3 : Int32)), (.int ((1 : Int32) + (1 : Int32)))] _
    exact kt
  refine own_st sg18 ?_
  have sg20 : own_V p e below T16 (mkF m 22 #[rv d, rv lk, iv (3 : Int32), iv ((1 : Int32) + (1 : Int32))] []) (mkF m 19 #[rv d, rv lk, iv (3 : Int32), iv ((1 : Int32) + (1 : Int32))] [(.int (3 : Int32)), (.int ((1 : Int32) + (1 : Int32)))]) := by
    intro t kt
    refine XS.icmpNo X16.here hx rfl (hb hby own_d1_19) rfl (flt (by decide : ¬ (3 : Int32) < ((1 : Int32) + (1 : Int32)))).2.2.1 ?_
    exact kt
  refine own_st sg20 ?_
  have sg21 : own_V p e below T16 (mkF m 23 #[rv d, rv lk, iv (3 : Int32), iv ((1 : Int32) + (1 : Int32))] [(.ref d)]) (mkF m 22 #[rv d, rv lk, iv (3 : Int32), iv ((1 : Int32) + (1 : Int32))] []) := by
    intro t kt
    refine XS.aloadN X16.here hx rfl (hb hby own_d1_22) rfl rfl ?_
    show own_S p e below T16 m 23 #[rv d, rv lk, iv (3 : Int32), iv ((1 : Int32) + (1 : Int32))] [(.ref d)] _
    exact kt
  refine own_st sg21 ?_
  obtain ⟨T22, X22, e22, st22⟩ := getF X16 hx hZ hown (host := "") (Or.inl (hw _ (List.mem_of_getElem? (i := 13) rfl))) Via.refl e16 Finboxes_16 (g := (mkF m 23 #[rv d, rv lk, iv (3 : Int32), iv ((1 : Int32) + (1 : Int32))] [(.ref d)])) rfl rfl (hb hby own_d1_23)
  refine own_st st22 ?_
  show own_Go p e below _ T22 (mkF m 26 #[rv d, rv lk, iv (3 : Int32), iv ((1 : Int32) + (1 : Int32))] [(.ref a4)])
  have sg23 : own_V p e below T22 (mkF m 29 #[rv d, rv lk, iv (3 : Int32), iv ((1 : Int32) + (1 : Int32))] [(.int (((1 : Int32) + (1 : Int32)) - (1 : Int32))), (.ref a4)]) (mkF m 26 #[rv d, rv lk, iv (3 : Int32), iv ((1 : Int32) + (1 : Int32))] [(.ref a4)]) := by
    intro t kt
    refine XS.iloadN X22.here hx rfl (hb hby own_d1_26) rfl ?_
    show own_S p e below T22 m 27 #[rv d, rv lk, iv (3 : Int32), iv ((1 : Int32) + (1 : Int32))] [(.int ((1 : Int32) + (1 : Int32))), (.ref a4)] _
    refine XS.iconst X22.here hx rfl (hb hby own_d1_27) ?_
    show own_S p e below T22 m 28 #[rv d, rv lk, iv (3 : Int32), iv ((1 : Int32) + (1 : Int32))] [(.int (1 : Int32)), (.int ((1 : Int32) + (1 : Int32))), (.ref a4)] _
    refine XS.isub X22.here hx rfl (hb hby own_d1_28) rfl ?_
    show own_S p e below T22 m 29 #[rv d, rv lk, iv (3 : Int32), iv ((1 : Int32) + (1 : Int32))] [(.int (((1 : Int32) + (1 : Int32)) - (1 : Int32))), (.ref a4)] _
    exact kt
  refine own_st sg23 ?_
  obtain ⟨T24, h24, X24, e24, E24, A24, D24, -, st24⟩ := newO X22 hx hZ hown (hw _ (List.mem_of_getElem? (i := 11) rfl)) (hw _ (List.mem_of_getElem? (i := 15) rfl)) (hw _ (List.mem_of_getElem? (i := 16) rfl)) e22 (g := (mkF m 29 #[rv d, rv lk, iv (3 : Int32), iv ((1 : Int32) + (1 : Int32))] [(.int (((1 : Int32) + (1 : Int32)) - (1 : Int32))), (.ref a4)])) rfl (hb hby own_d1_29) (by decide) (by decide)
  obtain ⟨a24, g24⟩ : ∃ z, z = h16.size := ⟨_, rfl⟩
  rw [← g24] at A24 D24 st24
  refine own_st st24 ?_
  have g_a24 : n0 ≤ a24 := by rw [g24]; exact Z16
  have Z24 : n0 ≤ h24.size := Nat.le_trans Z16 E24.1
  show own_Go p e below _ T24 (mkF m 32 #[rv d, rv lk, iv (3 : Int32), iv ((1 : Int32) + (1 : Int32))] [(.ref a24), (.int (((1 : Int32) + (1 : Int32)) - (1 : Int32))), (.ref a4)])
  have ltDV0_24 : r15 < a24 := by rw [g24]; exact DV0_16.2.2.2.2.lt
  have KK24 : Keep h16 h24 [] := (Keep.refl _ _).ext E24
  have EE_24 := EE_16.keep KK24
  have AL_24 := AL_16.keep KK24 nin0
  have EK_24 := EK_16.keep KK24
  have Finboxes_24 := Finboxes_16.keep KK24 nin0
  have Fkept_24 := Fkept_16.keep KK24 nin0
  have FkeptParties_24 := FkeptParties_16.keep KK24 nin0
  have FtoAll_24 := FtoAll_16.keep KK24 nin0
  have FoneByOne_24 := FoneByOne_16.keep KK24 nin0
  have Foutbox_24 := Foutbox_16.keep KK24 nin0
  have Fcount_24 := Fcount_16.keep KK24 nin0
  have AI_24 := A16.keep KK24 nin0
  have OV_24 := OV_16.keep KK24
  have DV0_24 := DV0_16.keep KK24 nin0 nin0
  have sz24 : h0.size ≤ a24 := by rw [g24]; exact KD16.1
  have KD24 : Keep h0 h24 [d] := KD16.ext E24
  have Gthis01 : Fld Z h24 a24 "com/example/kingsround/kingsround/engine/Deliveries$Delivered" "this$0" "Lcom/example/kingsround/kingsround/engine/Deliveries;" .null := D24 (Or.inr (hw _ (List.mem_of_getElem? (i := 21) rfl))) (ty := (.object "com/example/kingsround/kingsround/engine/Deliveries")) (by decide)
  have Gto1 : Fld Z h24 a24 "com/example/kingsround/kingsround/engine/Deliveries$Delivered" "to" "I" (.int (0 : Int32)) := D24 (Or.inr (hw _ (List.mem_of_getElem? (i := 24) rfl))) (ty := .int) (by decide)
  have Greceived1 : Fld Z h24 a24 "com/example/kingsround/kingsround/engine/Deliveries$Delivered" "received" "[B" .null := D24 (Or.inr (hw _ (List.mem_of_getElem? (i := 27) rfl))) (ty := (.array .byte)) (by decide)
  have sg25 : own_V p e below T24 (mkF m 36 #[rv d, rv lk, iv (3 : Int32), iv ((1 : Int32) + (1 : Int32))] [(.int (3 : Int32)), (.int ((1 : Int32) + (1 : Int32))), (.ref d), (.ref a24), (.ref a24), (.int (((1 : Int32) + (1 : Int32)) - (1 : Int32))), (.ref a4)]) (mkF m 32 #[rv d, rv lk, iv (3 : Int32), iv ((1 : Int32) + (1 : Int32))] [(.ref a24), (.int (((1 : Int32) + (1 : Int32)) - (1 : Int32))), (.ref a4)]) := by
    intro t kt
    refine XS.dup X24.here hx rfl (hb hby own_d1_32) rfl rfl ?_
    show own_S p e below T24 m 33 #[rv d, rv lk, iv (3 : Int32), iv ((1 : Int32) + (1 : Int32))] [(.ref a24), (.ref a24), (.int (((1 : Int32) + (1 : Int32)) - (1 : Int32))), (.ref a4)] _
    refine XS.aloadN X24.here hx rfl (hb hby own_d1_33) rfl rfl ?_
    show own_S p e below T24 m 34 #[rv d, rv lk, iv (3 : Int32), iv ((1 : Int32) + (1 : Int32))] [(.ref d), (.ref a24), (.ref a24), (.int (((1 : Int32) + (1 : Int32)) - (1 : Int32))), (.ref a4)] _
    refine XS.iloadN X24.here hx rfl (hb hby own_d1_34) rfl ?_
    show own_S p e below T24 m 35 #[rv d, rv lk, iv (3 : Int32), iv ((1 : Int32) + (1 : Int32))] [(.int ((1 : Int32) + (1 : Int32))), (.ref d), (.ref a24), (.ref a24), (.int (((1 : Int32) + (1 : Int32)) - (1 : Int32))), (.ref a4)] _
    refine XS.iloadN X24.here hx rfl (hb hby own_d1_35) rfl ?_
    show own_S p e below T24 m 36 #[rv d, rv lk, iv (3 : Int32), iv ((1 : Int32) + (1 : Int32))] [(.int (3 : Int32)), (.int ((1 : Int32) + (1 : Int32))), (.ref d), (.ref a24), (.ref a24), (.int (((1 : Int32) + (1 : Int32)) - (1 : Int32))), (.ref a4)] _
    exact kt
  refine own_st sg25 ?_
  obtain ⟨_, T26, L26, X26, hQ26, st26⟩ := own_callI (y := (⟨"com/example/kingsround/kingsround/engine/Deliveries$Delivered", "<init>", "(Lcom/example/kingsround/kingsround/engine/Deliveries;II)V"⟩ : MethodName)) (a := a24) X24 hx hZ hown rfl (hw _ (List.mem_of_getElem? (i := 17) rfl)) (hw _ (List.mem_of_getElem? (i := 18) rfl)) (hw _ (List.mem_of_getElem? (i := 16) rfl)) (hw _ (List.mem_of_getElem? (i := 19) rfl)) (by decide) (own_rmdv l Z a0 hw a24 d ((1 : Int32) + (1 : Int32)) (3 : Int32) h24 n0 Z24 A24 Gthis01 Gto1 Greceived1 g_a24 rfl) e24 (g := (mkF m 36 #[rv d, rv lk, iv (3 : Int32), iv ((1 : Int32) + (1 : Int32))] [(.int (3 : Int32)), (.int ((1 : Int32) + (1 : Int32))), (.ref d), (.ref a24), (.ref a24), (.int (((1 : Int32) + (1 : Int32)) - (1 : Int32))), (.ref a4)])) rfl (by rw [hml]; rfl) (argsL := [(.ref d), (.int ((1 : Int32) + (1 : Int32))), (.int (3 : Int32))]) (rest := [(.ref a24), (.int (((1 : Int32) + (1 : Int32)) - (1 : Int32))), (.ref a4)]) (lenOf own_pd1 rfl) rfl (W := 3) (by show 2 * 0 + _ ≤ _; exact Nat.le_of_eq rfl) (hb hby own_d1_36) (by decide) (by decide) (by decide) (by decide)
  obtain ⟨rfl, Nq26, K26, r26, szr26, DV26⟩ := hQ26
  refine own_st st26 ?_
  have Z26 : n0 ≤ T26.heap.size := Nat.le_trans Z24 K26.1
  have N26 := Fr.app N16 Nq26
  show own_Go p e below _ T26 (mkF m 39 #[rv d, rv lk, iv (3 : Int32), iv ((1 : Int32) + (1 : Int32))] [(.ref a24), (.int (((1 : Int32) + (1 : Int32)) - (1 : Int32))), (.ref a4)])
  have KD26 : Keep h0 T26.heap [d] := KD24.trans K26 (allS (Or.inr sz24) all0)
  have lq26 : a24 < r26 := Nat.lt_of_lt_of_le A24.lt szr26
  have EE_26 := EE_24.keep K26
  have AL_26 := AL_24.keep K26 (own_ninS (by omega) nin0)
  have EK_26 := EK_24.keep K26
  have Finboxes_26 := Finboxes_24.keep K26 (own_ninS (by omega) nin0)
  have Fkept_26 := Fkept_24.keep K26 (own_ninS (by omega) nin0)
  have FkeptParties_26 := FkeptParties_24.keep K26 (own_ninS (by omega) nin0)
  have FtoAll_26 := FtoAll_24.keep K26 (own_ninS (by omega) nin0)
  have FoneByOne_26 := FoneByOne_24.keep K26 (own_ninS (by omega) nin0)
  have Foutbox_26 := Foutbox_24.keep K26 (own_ninS (by omega) nin0)
  have Fcount_26 := Fcount_24.keep K26 (own_ninS (by omega) nin0)
  have AI_26 := AI_24.keep K26 (own_ninS (by omega) nin0)
  have OV_26 := OV_24.keep K26
  have DV0_26 := DV0_24.keep K26 (own_ninS (by omega) nin0) (own_ninS (by omega) nin0)
  have EQ_26 := A24.keep K26
  have DW26 : own_Dv Z T26.heap a24 r26 d (Int32.ofNat (1 + 1)) (fun _ => -1) := DV26
  obtain ⟨T27, h27, X27, e27, W27, A27, st27⟩ := own_wrR X26 hx hZ rfl AI_26 rfl rfl (OV_26.sto AI_26 (Ins.self DW26.1)) (k := 1) (by decide) (by decide) (g := (mkF m 39 #[rv d, rv lk, iv (3 : Int32), iv ((1 : Int32) + (1 : Int32))] [(.ref a24), (.int (((1 : Int32) + (1 : Int32)) - (1 : Int32))), (.ref a4)])) rfl rfl (hb hby own_d1_39)
  refine own_st st27 ?_
  have Z27 : n0 ≤ h27.size := by rw [Wr.size W27]; exact Z26
  have N27 := Fr.snoc X27 N26 g_a4
  show own_Go p e below _ T27 (mkF m 40 #[rv d, rv lk, iv (3 : Int32), iv ((1 : Int32) + (1 : Int32))] [])
  have KK27 := Keep.of_wr W27
  have EE_27 := EE_26.keep KK27
  have AL_27 := AL_26.keep KK27 (own_ninS (by omega) nin0)
  have EK_27 := EK_26.keep KK27
  have Finboxes_27 := Finboxes_26.keep KK27 (own_ninS (by omega) nin0)
  have Fkept_27 := Fkept_26.keep KK27 (own_ninS (by omega) nin0)
  have FkeptParties_27 := FkeptParties_26.keep KK27 (own_ninS (by omega) nin0)
  have FtoAll_27 := FtoAll_26.keep KK27 (own_ninS (by omega) nin0)
  have FoneByOne_27 := FoneByOne_26.keep KK27 (own_ninS (by omega) nin0)
  have Foutbox_27 := Foutbox_26.keep KK27 (own_ninS (by omega) nin0)
  have Fcount_27 := Fcount_26.keep KK27 (own_ninS (by omega) nin0)
  have OV_27 := OV_26.keep KK27
  have DV0_27 := DV0_26.keep KK27 (own_ninS (by omega) nin0) (own_ninS (by omega) nin0)
  have DV1_27 := DW26.keep KK27 (own_ninS (by omega) nin0) (own_ninS (by omega) nin0)
  have KD27 : Keep h0 h27 [d] := KD26.wr W27 (Or.inr sz4)
  have sg28 : own_V p e below T27 (mkF m 17 #[rv d, rv lk, iv (3 : Int32), iv (((1 : Int32) + (1 : Int32)) + (1 : Int32))] []) (mkF m 40 #[rv d, rv lk, iv (3 : Int32), iv ((1 : Int32) + (1 : Int32))] []) := by
    intro t kt
    refine XS.iinc X27.here hx rfl (hb hby own_d1_40) rfl (l' := #[rv d, rv lk, iv (3 : Int32), iv (((1 : Int32) + (1 : Int32)) + (1 : Int32))]) rfl ?_
    show own_S p e below T27 m 43 #[rv d, rv lk, iv (3 : Int32), iv (((1 : Int32) + (1 : Int32)) + (1 : Int32))] [] _
    refine XS.goto X27.here hx rfl (pc0 := 43) (pc' := 17) rfl (hb hby own_d1_43) (by decide) (by decide) ?_
    show own_S p e below T27 m 17 #[rv d, rv lk, iv (3 : Int32), iv (((1 : Int32) + (1 : Int32)) + (1 : Int32))] [] _
    exact kt
  refine own_st sg28 ?_
  have sg29 : own_V p e below T27 (mkF m 19 #[rv d, rv lk, iv (3 : Int32), iv (((1 : Int32) + (1 : Int32)) + (1 : Int32))] [(.int (3 : Int32)), (.int (((1 : Int32) + (1 : Int32)) + (1 : Int32)))]) (mkF m 17 #[rv d, rv lk, iv (3 : Int32), iv (((1 : Int32) + (1 : Int32)) + (1 : Int32))] []) := by
    intro t kt
    refine XS.iloadN X27.here hx rfl (hb hby own_d1_17) rfl ?_
    show own_S p e below T27 m 18 #[rv d, rv lk, iv (3 : Int32), iv (((1 : Int32) + (1 : Int32)) + (1 : Int32))] [(.int (((1 : Int32) + (1 : Int32)) + (1 : Int32)))] _
    refine XS.iloadN X27.here hx rfl (hb hby own_d1_18) rfl ?_
    show own_S p e below T27 m 19 #[rv d, rv lk, iv (3 : Int32), iv (((1 : Int32) + (1 : Int32)) + (1 : Int32))] [(.int (3 : Int32)), (.int (((1 : Int32) + (1 : Int32)) + (1 : Int32)))] _
    exact kt
  refine own_st sg29 ?_
  have sg31 : own_V p e below T27 (mkF m 22 #[rv d, rv lk, iv (3 : Int32), iv (((1 : Int32) + (1 : Int32)) + (1 : Int32))] []) (mkF m 19 #[rv d, rv lk, iv (3 : Int32), iv (((1 : Int32) + (1 : Int32)) + (1 : Int32))] [(.int (3 : Int32)), (.int (((1 : Int32) + (1 : Int32)) + (1 : Int32)))]) := by
    intro t kt
    refine XS.icmpNo X27.here hx rfl (hb hby own_d1_19) rfl (flt (by decide : ¬ (3 : Int32) < (((1 : Int32) + (1 : Int32)) + (1 : Int32)))).2.2.1 ?_
    exact kt
  refine own_st sg31 ?_
  have sg32 : own_V p e below T27 (mkF m 23 #[rv d, rv lk, iv (3 : Int32), iv (((1 : Int32) + (1 : Int32)) + (1 : Int32))] [(.ref d)]) (mkF m 22 #[rv d, rv lk, iv (3 : Int32), iv (((1 : Int32) + (1 : Int32)) + (1 : Int32))] []) := by
    intro t kt
    refine XS.aloadN X27.here hx rfl (hb hby own_d1_22) rfl rfl ?_
    show own_S p e below T27 m 23 #[rv d, rv lk, iv (3 : Int32), iv (((1 : Int32) + (1 : Int32)) + (1 : Int32))] [(.ref d)] _
    exact kt
  refine own_st sg32 ?_
  obtain ⟨T33, X33, e33, st33⟩ := getF X27 hx hZ hown (host := "") (Or.inl (hw _ (List.mem_of_getElem? (i := 13) rfl))) Via.refl e27 Finboxes_27 (g := (mkF m 23 #[rv d, rv lk, iv (3 : Int32), iv (((1 : Int32) + (1 : Int32)) + (1 : Int32))] [(.ref d)])) rfl rfl (hb hby own_d1_23)
  refine own_st st33 ?_
  show own_Go p e below _ T33 (mkF m 26 #[rv d, rv lk, iv (3 : Int32), iv (((1 : Int32) + (1 : Int32)) + (1 : Int32))] [(.ref a4)])
  have sg34 : own_V p e below T33 (mkF m 29 #[rv d, rv lk, iv (3 : Int32), iv (((1 : Int32) + (1 : Int32)) + (1 : Int32))] [(.int ((((1 : Int32) + (1 : Int32)) + (1 : Int32)) - (1 : Int32))), (.ref a4)]) (mkF m 26 #[rv d, rv lk, iv (3 : Int32), iv (((1 : Int32) + (1 : Int32)) + (1 : Int32))] [(.ref a4)]) := by
    intro t kt
    refine XS.iloadN X33.here hx rfl (hb hby own_d1_26) rfl ?_
    show own_S p e below T33 m 27 #[rv d, rv lk, iv (3 : Int32), iv (((1 : Int32) + (1 : Int32)) + (1 : Int32))] [(.int (((1 : Int32) + (1 : Int32)) + (1 : Int32))), (.ref a4)] _
    refine XS.iconst X33.here hx rfl (hb hby own_d1_27) ?_
    show own_S p e below T33 m 28 #[rv d, rv lk, iv (3 : Int32), iv (((1 : Int32) + (1 : Int32)) + (1 : Int32))] [(.int (1 : Int32)), (.int (((1 : Int32) + (1 : Int32)) + (1 : Int32))), (.ref a4)] _
    refine XS.isub X33.here hx rfl (hb hby own_d1_28) rfl ?_
    show own_S p e below T33 m 29 #[rv d, rv lk, iv (3 : Int32), iv (((1 : Int32) + (1 : Int32)) + (1 : Int32))] [(.int ((((1 : Int32) + (1 : Int32)) + (1 : Int32)) - (1 : Int32))), (.ref a4)] _
    exact kt
  refine own_st sg34 ?_
  obtain ⟨T35, h35, X35, e35, E35, A35, D35, -, st35⟩ := newO X33 hx hZ hown (hw _ (List.mem_of_getElem? (i := 11) rfl)) (hw _ (List.mem_of_getElem? (i := 15) rfl)) (hw _ (List.mem_of_getElem? (i := 16) rfl)) e33 (g := (mkF m 29 #[rv d, rv lk, iv (3 : Int32), iv (((1 : Int32) + (1 : Int32)) + (1 : Int32))] [(.int ((((1 : Int32) + (1 : Int32)) + (1 : Int32)) - (1 : Int32))), (.ref a4)])) rfl (hb hby own_d1_29) (by decide) (by decide)
  obtain ⟨a35, g35⟩ : ∃ z, z = h27.size := ⟨_, rfl⟩
  rw [← g35] at A35 D35 st35
  refine own_st st35 ?_
  have g_a35 : n0 ≤ a35 := by rw [g35]; exact Z27
  have Z35 : n0 ≤ h35.size := Nat.le_trans Z27 E35.1
  show own_Go p e below _ T35 (mkF m 32 #[rv d, rv lk, iv (3 : Int32), iv (((1 : Int32) + (1 : Int32)) + (1 : Int32))] [(.ref a35), (.int ((((1 : Int32) + (1 : Int32)) + (1 : Int32)) - (1 : Int32))), (.ref a4)])
  have ltDV1_35 : r26 < a35 := by rw [g35]; exact DV1_27.2.2.2.2.lt
  have KK35 : Keep h27 h35 [] := (Keep.refl _ _).ext E35
  have EE_35 := EE_27.keep KK35
  have AL_35 := AL_27.keep KK35 nin0
  have EK_35 := EK_27.keep KK35
  have Finboxes_35 := Finboxes_27.keep KK35 nin0
  have Fkept_35 := Fkept_27.keep KK35 nin0
  have FkeptParties_35 := FkeptParties_27.keep KK35 nin0
  have FtoAll_35 := FtoAll_27.keep KK35 nin0
  have FoneByOne_35 := FoneByOne_27.keep KK35 nin0
  have Foutbox_35 := Foutbox_27.keep KK35 nin0
  have Fcount_35 := Fcount_27.keep KK35 nin0
  have AI_35 := A27.keep KK35 nin0
  have OV_35 := OV_27.keep KK35
  have DV0_35 := DV0_27.keep KK35 nin0 nin0
  have DV1_35 := DV1_27.keep KK35 nin0 nin0
  have sz35 : h0.size ≤ a35 := by rw [g35]; exact KD27.1
  have KD35 : Keep h0 h35 [d] := KD27.ext E35
  have Gthis02 : Fld Z h35 a35 "com/example/kingsround/kingsround/engine/Deliveries$Delivered" "this$0" "Lcom/example/kingsround/kingsround/engine/Deliveries;" .null := D35 (Or.inr (hw _ (List.mem_of_getElem? (i := 21) rfl))) (ty := (.object "com/example/kingsround/kingsround/engine/Deliveries")) (by decide)
  have Gto2 : Fld Z h35 a35 "com/example/kingsround/kingsround/engine/Deliveries$Delivered" "to" "I" (.int (0 : Int32)) := D35 (Or.inr (hw _ (List.mem_of_getElem? (i := 24) rfl))) (ty := .int) (by decide)
  have Greceived2 : Fld Z h35 a35 "com/example/kingsround/kingsround/engine/Deliveries$Delivered" "received" "[B" .null := D35 (Or.inr (hw _ (List.mem_of_getElem? (i := 27) rfl))) (ty := (.array .byte)) (by decide)
  have sg36 : own_V p e below T35 (mkF m 36 #[rv d, rv lk, iv (3 : Int32), iv (((1 : Int32) + (1 : Int32)) + (1 : Int32))] [(.int (3 : Int32)), (.int (((1 : Int32) + (1 : Int32)) + (1 : Int32))), (.ref d), (.ref a35), (.ref a35), (.int ((((1 : Int32) + (1 : Int32)) + (1 : Int32)) - (1 : Int32))), (.ref a4)]) (mkF m 32 #[rv d, rv lk, iv (3 : Int32), iv (((1 : Int32) + (1 : Int32)) + (1 : Int32))] [(.ref a35), (.int ((((1 : Int32) + (1 : Int32)) + (1 : Int32)) - (1 : Int32))), (.ref a4)]) := by
    intro t kt
    refine XS.dup X35.here hx rfl (hb hby own_d1_32) rfl rfl ?_
    show own_S p e below T35 m 33 #[rv d, rv lk, iv (3 : Int32), iv (((1 : Int32) + (1 : Int32)) + (1 : Int32))] [(.ref a35), (.ref a35), (.int ((((1 : Int32) + (1 : Int32)) + (1 : Int32)) - (1 : Int32))), (.ref a4)] _
    refine XS.aloadN X35.here hx rfl (hb hby own_d1_33) rfl rfl ?_
    show own_S p e below T35 m 34 #[rv d, rv lk, iv (3 : Int32), iv (((1 : Int32) + (1 : Int32)) + (1 : Int32))] [(.ref d), (.ref a35), (.ref a35), (.int ((((1 : Int32) + (1 : Int32)) + (1 : Int32)) - (1 : Int32))), (.ref a4)] _
    refine XS.iloadN X35.here hx rfl (hb hby own_d1_34) rfl ?_
    show own_S p e below T35 m 35 #[rv d, rv lk, iv (3 : Int32), iv (((1 : Int32) + (1 : Int32)) + (1 : Int32))] [(.int (((1 : Int32) + (1 : Int32)) + (1 : Int32))), (.ref d), (.ref a35), (.ref a35), (.int ((((1 : Int32) + (1 : Int32)) + (1 : Int32)) - (1 : Int32))), (.ref a4)] _
    refine XS.iloadN X35.here hx rfl (hb hby own_d1_35) rfl ?_
    show own_S p e below T35 m 36 #[rv d, rv lk, iv (3 : Int32), iv (((1 : Int32) + (1 : Int32)) + (1 : Int32))] [(.int (3 : Int32)), (.int (((1 : Int32) + (1 : Int32)) + (1 : Int32))), (.ref d), (.ref a35), (.ref a35), (.int ((((1 : Int32) + (1 : Int32)) + (1 : Int32)) - (1 : Int32))), (.ref a4)] _
    exact kt
  refine own_st sg36 ?_
  obtain ⟨_, T37, L37, X37, hQ37, st37⟩ := own_callI (y := (⟨"com/example/kingsround/kingsround/engine/Deliveries$Delivered", "<init>", "(Lcom/example/kingsround/kingsround/engine/Deliveries;II)V"⟩ : MethodName)) (a := a35) X35 hx hZ hown rfl (hw _ (List.mem_of_getElem? (i := 17) rfl)) (hw _ (List.mem_of_getElem? (i := 18) rfl)) (hw _ (List.mem_of_getElem? (i := 16) rfl)) (hw _ (List.mem_of_getElem? (i := 19) rfl)) (by decide) (own_rmdv l Z a0 hw a35 d (((1 : Int32) + (1 : Int32)) + (1 : Int32)) (3 : Int32) h35 n0 Z35 A35 Gthis02 Gto2 Greceived2 g_a35 rfl) e35 (g := (mkF m 36 #[rv d, rv lk, iv (3 : Int32), iv (((1 : Int32) + (1 : Int32)) + (1 : Int32))] [(.int (3 : Int32)), (.int (((1 : Int32) + (1 : Int32)) + (1 : Int32))), (.ref d), (.ref a35), (.ref a35), (.int ((((1 : Int32) + (1 : Int32)) + (1 : Int32)) - (1 : Int32))), (.ref a4)])) rfl (by rw [hml]; rfl) (argsL := [(.ref d), (.int (((1 : Int32) + (1 : Int32)) + (1 : Int32))), (.int (3 : Int32))]) (rest := [(.ref a35), (.int ((((1 : Int32) + (1 : Int32)) + (1 : Int32)) - (1 : Int32))), (.ref a4)]) (lenOf own_pd1 rfl) rfl (W := 3) (by show 2 * 0 + _ ≤ _; exact Nat.le_of_eq rfl) (hb hby own_d1_36) (by decide) (by decide) (by decide) (by decide)
  obtain ⟨rfl, Nq37, K37, r37, szr37, DV37⟩ := hQ37
  refine own_st st37 ?_
  have Z37 : n0 ≤ T37.heap.size := Nat.le_trans Z35 K37.1
  have N37 := Fr.app N27 Nq37
  show own_Go p e below _ T37 (mkF m 39 #[rv d, rv lk, iv (3 : Int32), iv (((1 : Int32) + (1 : Int32)) + (1 : Int32))] [(.ref a35), (.int ((((1 : Int32) + (1 : Int32)) + (1 : Int32)) - (1 : Int32))), (.ref a4)])
  have KD37 : Keep h0 T37.heap [d] := KD35.trans K37 (allS (Or.inr sz35) all0)
  have lq37 : a35 < r37 := Nat.lt_of_lt_of_le A35.lt szr37
  have EE_37 := EE_35.keep K37
  have AL_37 := AL_35.keep K37 (own_ninS (by omega) nin0)
  have EK_37 := EK_35.keep K37
  have Finboxes_37 := Finboxes_35.keep K37 (own_ninS (by omega) nin0)
  have Fkept_37 := Fkept_35.keep K37 (own_ninS (by omega) nin0)
  have FkeptParties_37 := FkeptParties_35.keep K37 (own_ninS (by omega) nin0)
  have FtoAll_37 := FtoAll_35.keep K37 (own_ninS (by omega) nin0)
  have FoneByOne_37 := FoneByOne_35.keep K37 (own_ninS (by omega) nin0)
  have Foutbox_37 := Foutbox_35.keep K37 (own_ninS (by omega) nin0)
  have Fcount_37 := Fcount_35.keep K37 (own_ninS (by omega) nin0)
  have AI_37 := AI_35.keep K37 (own_ninS (by omega) nin0)
  have OV_37 := OV_35.keep K37
  have DV0_37 := DV0_35.keep K37 (own_ninS (by omega) nin0) (own_ninS (by omega) nin0)
  have DV1_37 := DV1_35.keep K37 (own_ninS (by omega) nin0) (own_ninS (by omega) nin0)
  have EQ_37 := A35.keep K37
  have DW37 : own_Dv Z T37.heap a35 r37 d (Int32.ofNat (2 + 1)) (fun _ => -1) := DV37
  obtain ⟨T38, h38, X38, e38, W38, A38, st38⟩ := own_wrR X37 hx hZ rfl AI_37 rfl rfl (OV_37.sto AI_37 (Ins.self DW37.1)) (k := 2) (by decide) (by decide) (g := (mkF m 39 #[rv d, rv lk, iv (3 : Int32), iv (((1 : Int32) + (1 : Int32)) + (1 : Int32))] [(.ref a35), (.int ((((1 : Int32) + (1 : Int32)) + (1 : Int32)) - (1 : Int32))), (.ref a4)])) rfl rfl (hb hby own_d1_39)
  refine own_st st38 ?_
  have Z38 : n0 ≤ h38.size := by rw [Wr.size W38]; exact Z37
  have N38 := Fr.snoc X38 N37 g_a4
  show own_Go p e below _ T38 (mkF m 40 #[rv d, rv lk, iv (3 : Int32), iv (((1 : Int32) + (1 : Int32)) + (1 : Int32))] [])
  have KK38 := Keep.of_wr W38
  have EE_38 := EE_37.keep KK38
  have AL_38 := AL_37.keep KK38 (own_ninS (by omega) nin0)
  have EK_38 := EK_37.keep KK38
  have Finboxes_38 := Finboxes_37.keep KK38 (own_ninS (by omega) nin0)
  have Fkept_38 := Fkept_37.keep KK38 (own_ninS (by omega) nin0)
  have FkeptParties_38 := FkeptParties_37.keep KK38 (own_ninS (by omega) nin0)
  have FtoAll_38 := FtoAll_37.keep KK38 (own_ninS (by omega) nin0)
  have FoneByOne_38 := FoneByOne_37.keep KK38 (own_ninS (by omega) nin0)
  have Foutbox_38 := Foutbox_37.keep KK38 (own_ninS (by omega) nin0)
  have Fcount_38 := Fcount_37.keep KK38 (own_ninS (by omega) nin0)
  have OV_38 := OV_37.keep KK38
  have DV0_38 := DV0_37.keep KK38 (own_ninS (by omega) nin0) (own_ninS (by omega) nin0)
  have DV1_38 := DV1_37.keep KK38 (own_ninS (by omega) nin0) (own_ninS (by omega) nin0)
  have DV2_38 := DW37.keep KK38 (own_ninS (by omega) nin0) (own_ninS (by omega) nin0)
  have KD38 : Keep h0 h38 [d] := KD37.wr W38 (Or.inr sz4)
  have sg39 : own_V p e below T38 (mkF m 17 #[rv d, rv lk, iv (3 : Int32), iv ((((1 : Int32) + (1 : Int32)) + (1 : Int32)) + (1 : Int32))] []) (mkF m 40 #[rv d, rv lk, iv (3 : Int32), iv (((1 : Int32) + (1 : Int32)) + (1 : Int32))] []) := by
    intro t kt
    refine XS.iinc X38.here hx rfl (hb hby own_d1_40) rfl (l' := #[rv d, rv lk, iv (3 : Int32), iv ((((1 : Int32) + (1 : Int32)) + (1 : Int32)) + (1 : Int32))]) rfl ?_
    show own_S p e below T38 m 43 #[rv d, rv lk, iv (3 : Int32), iv ((((1 : Int32) + (1 : Int32)) + (1 : Int32)) + (1 : Int32))] [] _
    refine XS.goto X38.here hx rfl (pc0 := 43) (pc' := 17) rfl (hb hby own_d1_43) (by decide) (by decide) ?_
    show own_S p e below T38 m 17 #[rv d, rv lk, iv (3 : Int32), iv ((((1 : Int32) + (1 : Int32)) + (1 : Int32)) + (1 : Int32))] [] _
    exact kt
  refine own_st sg39 ?_
  have sg40 : own_V p e below T38 (mkF m 19 #[rv d, rv lk, iv (3 : Int32), iv ((((1 : Int32) + (1 : Int32)) + (1 : Int32)) + (1 : Int32))] [(.int (3 : Int32)), (.int ((((1 : Int32) + (1 : Int32)) + (1 : Int32)) + (1 : Int32)))]) (mkF m 17 #[rv d, rv lk, iv (3 : Int32), iv ((((1 : Int32) + (1 : Int32)) + (1 : Int32)) + (1 : Int32))] []) := by
    intro t kt
    refine XS.iloadN X38.here hx rfl (hb hby own_d1_17) rfl ?_
    show own_S p e below T38 m 18 #[rv d, rv lk, iv (3 : Int32), iv ((((1 : Int32) + (1 : Int32)) + (1 : Int32)) + (1 : Int32))] [(.int ((((1 : Int32) + (1 : Int32)) + (1 : Int32)) + (1 : Int32)))] _
    refine XS.iloadN X38.here hx rfl (hb hby own_d1_18) rfl ?_
    show own_S p e below T38 m 19 #[rv d, rv lk, iv (3 : Int32), iv ((((1 : Int32) + (1 : Int32)) + (1 : Int32)) + (1 : Int32))] [(.int (3 : Int32)), (.int ((((1 : Int32) + (1 : Int32)) + (1 : Int32)) + (1 : Int32)))] _
    exact kt
  refine own_st sg40 ?_
  have sg42 : own_V p e below T38 (mkF m 46 #[rv d, rv lk, iv (3 : Int32), iv ((((1 : Int32) + (1 : Int32)) + (1 : Int32)) + (1 : Int32))] []) (mkF m 19 #[rv d, rv lk, iv (3 : Int32), iv ((((1 : Int32) + (1 : Int32)) + (1 : Int32)) + (1 : Int32))] [(.int (3 : Int32)), (.int ((((1 : Int32) + (1 : Int32)) + (1 : Int32)) + (1 : Int32)))]) := by
    intro t kt
    refine XS.icmpYes X38.here hx rfl (pc0 := 19) (pc' := 46) rfl (hb hby own_d1_19) rfl (tlt (by decide : (3 : Int32) < ((((1 : Int32) + (1 : Int32)) + (1 : Int32)) + (1 : Int32)))).2.2.1 (by decide) (by decide) ?_
    exact kt
  refine own_st sg42 ?_
  have sg43 : own_V p e below T38 (mkF m 48 #[rv d, rv lk, iv (3 : Int32), iv ((((1 : Int32) + (1 : Int32)) + (1 : Int32)) + (1 : Int32))] [(.ref lk), (.ref d)]) (mkF m 46 #[rv d, rv lk, iv (3 : Int32), iv ((((1 : Int32) + (1 : Int32)) + (1 : Int32)) + (1 : Int32))] []) := by
    intro t kt
    refine XS.aloadN X38.here hx rfl (hb hby own_d1_46) rfl rfl ?_
    show own_S p e below T38 m 47 #[rv d, rv lk, iv (3 : Int32), iv ((((1 : Int32) + (1 : Int32)) + (1 : Int32)) + (1 : Int32))] [(.ref d)] _
    refine XS.aloadN X38.here hx rfl (hb hby own_d1_47) rfl rfl ?_
    show own_S p e below T38 m 48 #[rv d, rv lk, iv (3 : Int32), iv ((((1 : Int32) + (1 : Int32)) + (1 : Int32)) + (1 : Int32))] [(.ref lk), (.ref d)] _
    exact kt
  refine own_st sg43 ?_
  obtain ⟨T44, h44, a44, g44, X44, e44, E44, A44, C44, st44⟩ := own_clone (n := 3) (ad := "[Z") X38 hx hZ hown (hw _ (List.mem_of_getElem? (i := 33) rfl)) (hw _ (List.mem_of_getElem? (i := 34) rfl)) (hw _ (List.mem_of_getElem? (i := 38) rfl)) (hw _ (List.mem_of_getElem? (i := 36) rfl)) (hw _ (List.mem_of_getElem? (i := 37) rfl)) (hw _ (List.mem_of_getElem? (i := 39) rfl)) e38 AL_38 EK_38 (g := (mkF m 48 #[rv d, rv lk, iv (3 : Int32), iv ((((1 : Int32) + (1 : Int32)) + (1 : Int32)) + (1 : Int32))] [(.ref lk), (.ref d)])) rfl (by rw [hml]; rfl) rfl (hb hby own_d1_48) (by decide) (W := 1) (by show 2 * 0 + _ ≤ _; exact Nat.le_of_eq rfl) (by decide) (by decide) (by decide)
  refine own_st st44 ?_
  have g_a44 : n0 ≤ a44 := by rw [g44]; exact Z38
  have Z44 : n0 ≤ h44.size := Nat.le_trans Z38 E44.1
  show own_Go p e below _ T44 (mkF m 51 #[rv d, rv lk, iv (3 : Int32), iv ((((1 : Int32) + (1 : Int32)) + (1 : Int32)) + (1 : Int32))] [(.ref a44), (.ref d)])
  have ltDV2_44 : r37 < a44 := by rw [g44]; exact DV2_38.2.2.2.2.lt
  have KK44 : Keep h38 h44 [] := (Keep.refl _ _).ext E44
  have EE_44 := EE_38.keep KK44
  have AL_44 := AL_38.keep KK44 nin0
  have EK_44 := EK_38.keep KK44
  have Finboxes_44 := Finboxes_38.keep KK44 nin0
  have Fkept_44 := Fkept_38.keep KK44 nin0
  have FkeptParties_44 := FkeptParties_38.keep KK44 nin0
  have FtoAll_44 := FtoAll_38.keep KK44 nin0
  have FoneByOne_44 := FoneByOne_38.keep KK44 nin0
  have Foutbox_44 := Foutbox_38.keep KK44 nin0
  have Fcount_44 := Fcount_38.keep KK44 nin0
  have AI_44 := A38.keep KK44 nin0
  have OV_44 := OV_38.keep KK44
  have DV0_44 := DV0_38.keep KK44 nin0 nin0
  have DV1_44 := DV1_38.keep KK44 nin0 nin0
  have DV2_44 := DV2_38.keep KK44 nin0 nin0
  have sz44 : h0.size ≤ a44 := by rw [g44]; exact KD38.1
  have KD44 : Keep h0 h44 [d] := KD38.ext E44
  obtain ⟨T45, X45, e45, st45⟩ := castY X44 hx hZ hown (hw _ (List.mem_of_getElem? (i := 40) rfl)) e44 (Ins.self C44) (g := (mkF m 51 #[rv d, rv lk, iv (3 : Int32), iv ((((1 : Int32) + (1 : Int32)) + (1 : Int32)) + (1 : Int32))] [(.ref a44), (.ref d)])) rfl rfl (hb hby own_d1_51)
  refine own_st st45 ?_
  show own_Go p e below _ T45 (mkF m 54 #[rv d, rv lk, iv (3 : Int32), iv ((((1 : Int32) + (1 : Int32)) + (1 : Int32)) + (1 : Int32))] [(.ref a44), (.ref d)])
  obtain ⟨T46, h46, X46, e46, W46, st46⟩ := putF X45 hx hZ hown (host := "") (Or.inl (hw _ (List.mem_of_getElem? (i := 42) rfl))) Via.refl e45 Fkept_44 EE_44 (Or.inr ⟨(hw _ (List.mem_of_getElem? (i := 43) rfl)), rfl, hnm⟩) (hw _ (List.mem_of_getElem? (i := 3) rfl)) (ty := (.array .boolean)) (by decide) rfl rfl (g := (mkF m 54 #[rv d, rv lk, iv (3 : Int32), iv ((((1 : Int32) + (1 : Int32)) + (1 : Int32)) + (1 : Int32))] [(.ref a44), (.ref d)])) rfl rfl (hb hby own_d1_54)
  refine own_st st46 ?_
  have Z46 : n0 ≤ h46.size := by rw [Wr.size W46]; exact Z44
  have N46 := Fr.snoc X46 N38 g_d
  show own_Go p e below _ T46 (mkF m 57 #[rv d, rv lk, iv (3 : Int32), iv ((((1 : Int32) + (1 : Int32)) + (1 : Int32)) + (1 : Int32))] [])
  have KK46 := Keep.of_wr W46
  have Finboxes_46 := Finboxes_44.other W46 (Or.inr (slot_ne (Or.inr (hw _ (List.mem_of_getElem? (i := 14) rfl))) (Or.inr (hw _ (List.mem_of_getElem? (i := 43) rfl))) (by decide) (t := (.array (.object "com/example/kingsround/kingsround/engine/Deliveries$Delivered"))) (t' := (.array .boolean)) (by decide) (by decide)))
  have FkeptParties_46 := FkeptParties_44.other W46 (Or.inr (slot_ne (Or.inr (hw _ (List.mem_of_getElem? (i := 49) rfl))) (Or.inr (hw _ (List.mem_of_getElem? (i := 43) rfl))) (by decide) (t := (.array .int)) (t' := (.array .boolean)) (by decide) (by decide)))
  have FtoAll_46 := FtoAll_44.other W46 (Or.inr (slot_ne (Or.inr (hw _ (List.mem_of_getElem? (i := 51) rfl))) (Or.inr (hw _ (List.mem_of_getElem? (i := 43) rfl))) (by decide) (t := (.array .byte)) (t' := (.array .boolean)) (by decide) (by decide)))
  have FoneByOne_46 := FoneByOne_44.other W46 (Or.inr (slot_ne (Or.inr (hw _ (List.mem_of_getElem? (i := 54) rfl))) (Or.inr (hw _ (List.mem_of_getElem? (i := 43) rfl))) (by decide) (t := (.array .boolean)) (t' := (.array .boolean)) (by decide) (by decide)))
  have Foutbox_46 := Foutbox_44.other W46 (Or.inr (slot_ne (Or.inr (hw _ (List.mem_of_getElem? (i := 76) rfl))) (Or.inr (hw _ (List.mem_of_getElem? (i := 43) rfl))) (by decide) (t := (.object "com/example/kingsround/kingsround/engine/CheckedOutbox")) (t' := (.array .boolean)) (by decide) (by decide)))
  have Fcount_46 := Fcount_44.other W46 (Or.inr (slot_ne (Or.inl (hw _ (List.mem_of_getElem? (i := 88) rfl))) (Or.inr (hw _ (List.mem_of_getElem? (i := 43) rfl))) (by decide) (t := .long) (t' := (.array .boolean)) (by decide) (by decide)))
  have EE_46 := EE_44.keep KK46
  have AL_46 := AL_44.keep KK46 (own_ninS (by omega) nin0)
  have EK_46 := EK_44.keep KK46
  have AI_46 := AI_44.keep KK46 (own_ninS (by omega) nin0)
  have OV_46 := OV_44.keep KK46
  have DV0_46 := DV0_44.keep KK46 (own_ninS (by omega) nin0) (own_ninS (by omega) nin0)
  have DV1_46 := DV1_44.keep KK46 (own_ninS (by omega) nin0) (own_ninS (by omega) nin0)
  have DV2_46 := DV2_44.keep KK46 (own_ninS (by omega) nin0) (own_ninS (by omega) nin0)
  have AK_46 := A44.keep KK46 (own_ninS (by omega) nin0)
  have Fkept_46 := Fkept_44.same W46
  have KD46 : Keep h0 h46 [d] := KD44.wr W46 (Or.inl (List.mem_of_getElem? (i := 0) rfl))
  have sg47 : own_V p e below T46 (mkF m 59 #[rv d, rv lk, iv (3 : Int32), iv ((((1 : Int32) + (1 : Int32)) + (1 : Int32)) + (1 : Int32))] [(.ref lk), (.ref d)]) (mkF m 57 #[rv d, rv lk, iv (3 : Int32), iv ((((1 : Int32) + (1 : Int32)) + (1 : Int32)) + (1 : Int32))] []) := by
    intro t kt
    refine XS.aloadN X46.here hx rfl (hb hby own_d1_57) rfl rfl ?_
    show own_S p e below T46 m 58 #[rv d, rv lk, iv (3 : Int32), iv ((((1 : Int32) + (1 : Int32)) + (1 : Int32)) + (1 : Int32))] [(.ref d)] _
    refine XS.aloadN X46.here hx rfl (hb hby own_d1_58) rfl rfl ?_
    show own_S p e below T46 m 59 #[rv d, rv lk, iv (3 : Int32), iv ((((1 : Int32) + (1 : Int32)) + (1 : Int32)) + (1 : Int32))] [(.ref lk), (.ref d)] _
    exact kt
  refine own_st sg47 ?_
  obtain ⟨_, T48, L48, X48, hQ48, st48⟩ := own_callS (y := (⟨"com/example/kingsround/kingsround/engine/Deliveries", "keptParties", "([Z)[I"⟩ : MethodName)) X46 hx hZ hown (hw _ (List.mem_of_getElem? (i := 44) rfl)) (hw _ (List.mem_of_getElem? (i := 45) rfl)) (hw _ (List.mem_of_getElem? (i := 4) rfl)) (hw _ (List.mem_of_getElem? (i := 46) rfl)) (by decide) (own_rmkp l Z a0 hw lk kk h46 n0 Z46 AL_46) e46 (g := (mkF m 59 #[rv d, rv lk, iv (3 : Int32), iv ((((1 : Int32) + (1 : Int32)) + (1 : Int32)) + (1 : Int32))] [(.ref lk), (.ref d)])) rfl (by rw [hml]; rfl) (argsL := [(.ref lk)]) (rest := [(.ref d)]) (lenOf own_pd2 rfl) rfl (W := 1) (by show 2 * 0 + _ ≤ _; exact Nat.le_of_eq rfl) (hb hby own_d1_59) (by decide) (by decide) (by decide) (by decide)
  obtain ⟨⟨b48, rfl⟩, Nq48, K48⟩ := hQ48
  refine own_st st48 ?_
  have Z48 : n0 ≤ T48.heap.size := Nat.le_trans Z46 K48.1
  have N48 := Fr.app N46 Nq48
  show own_Go p e below _ T48 (mkF m 62 #[rv d, rv lk, iv (3 : Int32), iv ((((1 : Int32) + (1 : Int32)) + (1 : Int32)) + (1 : Int32))] [(.ref b48), (.ref d)])
  have EE_48 := EE_46.keep K48
  have AL_48 := AL_46.keep K48 nin0
  have EK_48 := EK_46.keep K48
  have Finboxes_48 := Finboxes_46.keep K48 nin0
  have Fkept_48 := Fkept_46.keep K48 nin0
  have FkeptParties_48 := FkeptParties_46.keep K48 nin0
  have FtoAll_48 := FtoAll_46.keep K48 nin0
  have FoneByOne_48 := FoneByOne_46.keep K48 nin0
  have Foutbox_48 := Foutbox_46.keep K48 nin0
  have Fcount_48 := Fcount_46.keep K48 nin0
  have AI_48 := AI_46.keep K48 nin0
  have OV_48 := OV_46.keep K48
  have DV0_48 := DV0_46.keep K48 nin0 nin0
  have DV1_48 := DV1_46.keep K48 nin0 nin0
  have DV2_48 := DV2_46.keep K48 nin0 nin0
  have AK_48 := AK_46.keep K48 nin0
  have KD48 : Keep h0 T48.heap [d] := KD46.trans K48 all0
  obtain ⟨T49, h49, X49, e49, W49, st49⟩ := putF X48 hx hZ hown (host := "") (Or.inl (hw _ (List.mem_of_getElem? (i := 48) rfl))) Via.refl rfl FkeptParties_48 EE_48 (Or.inr ⟨(hw _ (List.mem_of_getElem? (i := 49) rfl)), rfl, hnm⟩) (hw _ (List.mem_of_getElem? (i := 3) rfl)) (ty := (.array .int)) (by decide) rfl rfl (g := (mkF m 62 #[rv d, rv lk, iv (3 : Int32), iv ((((1 : Int32) + (1 : Int32)) + (1 : Int32)) + (1 : Int32))] [(.ref b48), (.ref d)])) rfl rfl (hb hby own_d1_62)
  refine own_st st49 ?_
  have Z49 : n0 ≤ h49.size := by rw [Wr.size W49]; exact Z48
  have N49 := Fr.snoc X49 N48 g_d
  show own_Go p e below _ T49 (mkF m 65 #[rv d, rv lk, iv (3 : Int32), iv ((((1 : Int32) + (1 : Int32)) + (1 : Int32)) + (1 : Int32))] [])
  have KK49 := Keep.of_wr W49
  have Finboxes_49 := Finboxes_48.other W49 (Or.inr (slot_ne (Or.inr (hw _ (List.mem_of_getElem? (i := 14) rfl))) (Or.inr (hw _ (List.mem_of_getElem? (i := 49) rfl))) (by decide) (t := (.array (.object "com/example/kingsround/kingsround/engine/Deliveries$Delivered"))) (t' := (.array .int)) (by decide) (by decide)))
  have Fkept_49 := Fkept_48.other W49 (Or.inr (slot_ne (Or.inr (hw _ (List.mem_of_getElem? (i := 43) rfl))) (Or.inr (hw _ (List.mem_of_getElem? (i := 49) rfl))) (by decide) (t := (.array .boolean)) (t' := (.array .int)) (by decide) (by decide)))
  have FtoAll_49 := FtoAll_48.other W49 (Or.inr (slot_ne (Or.inr (hw _ (List.mem_of_getElem? (i := 51) rfl))) (Or.inr (hw _ (List.mem_of_getElem? (i := 49) rfl))) (by decide) (t := (.array .byte)) (t' := (.array .int)) (by decide) (by decide)))
  have FoneByOne_49 := FoneByOne_48.other W49 (Or.inr (slot_ne (Or.inr (hw _ (List.mem_of_getElem? (i := 54) rfl))) (Or.inr (hw _ (List.mem_of_getElem? (i := 49) rfl))) (by decide) (t := (.array .boolean)) (t' := (.array .int)) (by decide) (by decide)))
  have Foutbox_49 := Foutbox_48.other W49 (Or.inr (slot_ne (Or.inr (hw _ (List.mem_of_getElem? (i := 76) rfl))) (Or.inr (hw _ (List.mem_of_getElem? (i := 49) rfl))) (by decide) (t := (.object "com/example/kingsround/kingsround/engine/CheckedOutbox")) (t' := (.array .int)) (by decide) (by decide)))
  have Fcount_49 := Fcount_48.other W49 (Or.inr (slot_ne (Or.inl (hw _ (List.mem_of_getElem? (i := 88) rfl))) (Or.inr (hw _ (List.mem_of_getElem? (i := 49) rfl))) (by decide) (t := .long) (t' := (.array .int)) (by decide) (by decide)))
  have EE_49 := EE_48.keep KK49
  have AL_49 := AL_48.keep KK49 (own_ninS (by omega) nin0)
  have EK_49 := EK_48.keep KK49
  have AI_49 := AI_48.keep KK49 (own_ninS (by omega) nin0)
  have OV_49 := OV_48.keep KK49
  have DV0_49 := DV0_48.keep KK49 (own_ninS (by omega) nin0) (own_ninS (by omega) nin0)
  have DV1_49 := DV1_48.keep KK49 (own_ninS (by omega) nin0) (own_ninS (by omega) nin0)
  have DV2_49 := DV2_48.keep KK49 (own_ninS (by omega) nin0) (own_ninS (by omega) nin0)
  have AK_49 := AK_48.keep KK49 (own_ninS (by omega) nin0)
  have FkeptParties_49 := FkeptParties_48.same W49
  have KD49 : Keep h0 h49 [d] := KD48.wr W49 (Or.inl (List.mem_of_getElem? (i := 0) rfl))
  have sg50 : own_V p e below T49 (mkF m 67 #[rv d, rv lk, iv (3 : Int32), iv ((((1 : Int32) + (1 : Int32)) + (1 : Int32)) + (1 : Int32))] [(.int (3 : Int32)), (.ref d)]) (mkF m 65 #[rv d, rv lk, iv (3 : Int32), iv ((((1 : Int32) + (1 : Int32)) + (1 : Int32)) + (1 : Int32))] []) := by
    intro t kt
    refine XS.aloadN X49.here hx rfl (hb hby own_d1_65) rfl rfl ?_
    show own_S p e below T49 m 66 #[rv d, rv lk, iv (3 : Int32), iv ((((1 : Int32) + (1 : Int32)) + (1 : Int32)) + (1 : Int32))] [(.ref d)] _
    refine XS.iloadN X49.here hx rfl (hb hby own_d1_66) rfl ?_
    show own_S p e below T49 m 67 #[rv d, rv lk, iv (3 : Int32), iv ((((1 : Int32) + (1 : Int32)) + (1 : Int32)) + (1 : Int32))] [(.int (3 : Int32)), (.ref d)] _
    exact kt
  refine own_st sg50 ?_
  obtain ⟨T51, h51, a51, g51, X51, e51, E51, A51, st51⟩ := own_newP (n := 3) X49 hx hZ (hw _ (List.mem_of_getElem? (i := 25) rfl)) e49 (by decide) rfl (g := (mkF m 67 #[rv d, rv lk, iv (3 : Int32), iv ((((1 : Int32) + (1 : Int32)) + (1 : Int32)) + (1 : Int32))] [(.int (3 : Int32)), (.ref d)])) rfl rfl (hb hby own_d1_67) (cap := 3) (by decide) (by decide) (by decide) (by decide)
  refine own_st st51 ?_
  have g_a51 : n0 ≤ a51 := by rw [g51]; exact Z49
  have Z51 : n0 ≤ h51.size := Nat.le_trans Z49 E51.1
  have B51 : own_AI Z h51 a51 .byte 3 (fun _ => 0) := A51
  show own_Go p e below _ T51 (mkF m 69 #[rv d, rv lk, iv (3 : Int32), iv ((((1 : Int32) + (1 : Int32)) + (1 : Int32)) + (1 : Int32))] [(.ref a51), (.ref d)])
  have ltAK_51 : a44 < a51 := by rw [g51]; exact AK_49.lt
  have KK51 : Keep h49 h51 [] := (Keep.refl _ _).ext E51
  have EE_51 := EE_49.keep KK51
  have AL_51 := AL_49.keep KK51 nin0
  have EK_51 := EK_49.keep KK51
  have Finboxes_51 := Finboxes_49.keep KK51 nin0
  have Fkept_51 := Fkept_49.keep KK51 nin0
  have FkeptParties_51 := FkeptParties_49.keep KK51 nin0
  have FtoAll_51 := FtoAll_49.keep KK51 nin0
  have FoneByOne_51 := FoneByOne_49.keep KK51 nin0
  have Foutbox_51 := Foutbox_49.keep KK51 nin0
  have Fcount_51 := Fcount_49.keep KK51 nin0
  have AI_51 := AI_49.keep KK51 nin0
  have OV_51 := OV_49.keep KK51
  have DV0_51 := DV0_49.keep KK51 nin0 nin0
  have DV1_51 := DV1_49.keep KK51 nin0 nin0
  have DV2_51 := DV2_49.keep KK51 nin0 nin0
  have AK_51 := AK_49.keep KK51 nin0
  have sz51 : h0.size ≤ a51 := by rw [g51]; exact KD49.1
  have KD51 : Keep h0 h51 [d] := KD49.ext E51
  obtain ⟨T52, h52, X52, e52, W52, st52⟩ := putF X51 hx hZ hown (host := "") (Or.inl (hw _ (List.mem_of_getElem? (i := 50) rfl))) Via.refl e51 FtoAll_51 EE_51 (Or.inr ⟨(hw _ (List.mem_of_getElem? (i := 51) rfl)), rfl, hnm⟩) (hw _ (List.mem_of_getElem? (i := 3) rfl)) (ty := (.array .byte)) (by decide) rfl rfl (g := (mkF m 69 #[rv d, rv lk, iv (3 : Int32), iv ((((1 : Int32) + (1 : Int32)) + (1 : Int32)) + (1 : Int32))] [(.ref a51), (.ref d)])) rfl rfl (hb hby own_d1_69)
  refine own_st st52 ?_
  have Z52 : n0 ≤ h52.size := by rw [Wr.size W52]; exact Z51
  have N52 := Fr.snoc X52 N49 g_d
  show own_Go p e below _ T52 (mkF m 72 #[rv d, rv lk, iv (3 : Int32), iv ((((1 : Int32) + (1 : Int32)) + (1 : Int32)) + (1 : Int32))] [])
  have KK52 := Keep.of_wr W52
  have Finboxes_52 := Finboxes_51.other W52 (Or.inr (slot_ne (Or.inr (hw _ (List.mem_of_getElem? (i := 14) rfl))) (Or.inr (hw _ (List.mem_of_getElem? (i := 51) rfl))) (by decide) (t := (.array (.object "com/example/kingsround/kingsround/engine/Deliveries$Delivered"))) (t' := (.array .byte)) (by decide) (by decide)))
  have Fkept_52 := Fkept_51.other W52 (Or.inr (slot_ne (Or.inr (hw _ (List.mem_of_getElem? (i := 43) rfl))) (Or.inr (hw _ (List.mem_of_getElem? (i := 51) rfl))) (by decide) (t := (.array .boolean)) (t' := (.array .byte)) (by decide) (by decide)))
  have FkeptParties_52 := FkeptParties_51.other W52 (Or.inr (slot_ne (Or.inr (hw _ (List.mem_of_getElem? (i := 49) rfl))) (Or.inr (hw _ (List.mem_of_getElem? (i := 51) rfl))) (by decide) (t := (.array .int)) (t' := (.array .byte)) (by decide) (by decide)))
  have FoneByOne_52 := FoneByOne_51.other W52 (Or.inr (slot_ne (Or.inr (hw _ (List.mem_of_getElem? (i := 54) rfl))) (Or.inr (hw _ (List.mem_of_getElem? (i := 51) rfl))) (by decide) (t := (.array .boolean)) (t' := (.array .byte)) (by decide) (by decide)))
  have Foutbox_52 := Foutbox_51.other W52 (Or.inr (slot_ne (Or.inr (hw _ (List.mem_of_getElem? (i := 76) rfl))) (Or.inr (hw _ (List.mem_of_getElem? (i := 51) rfl))) (by decide) (t := (.object "com/example/kingsround/kingsround/engine/CheckedOutbox")) (t' := (.array .byte)) (by decide) (by decide)))
  have Fcount_52 := Fcount_51.other W52 (Or.inr (slot_ne (Or.inl (hw _ (List.mem_of_getElem? (i := 88) rfl))) (Or.inr (hw _ (List.mem_of_getElem? (i := 51) rfl))) (by decide) (t := .long) (t' := (.array .byte)) (by decide) (by decide)))
  have EE_52 := EE_51.keep KK52
  have AL_52 := AL_51.keep KK52 (own_ninS (by omega) nin0)
  have EK_52 := EK_51.keep KK52
  have AI_52 := AI_51.keep KK52 (own_ninS (by omega) nin0)
  have OV_52 := OV_51.keep KK52
  have DV0_52 := DV0_51.keep KK52 (own_ninS (by omega) nin0) (own_ninS (by omega) nin0)
  have DV1_52 := DV1_51.keep KK52 (own_ninS (by omega) nin0) (own_ninS (by omega) nin0)
  have DV2_52 := DV2_51.keep KK52 (own_ninS (by omega) nin0) (own_ninS (by omega) nin0)
  have AK_52 := AK_51.keep KK52 (own_ninS (by omega) nin0)
  have AT_52 := B51.keep KK52 (own_ninS (by omega) nin0)
  have FtoAll_52 := FtoAll_51.same W52
  have KD52 : Keep h0 h52 [d] := KD51.wr W52 (Or.inl (List.mem_of_getElem? (i := 0) rfl))
  have sg53 : own_V p e below T52 (mkF m 73 #[rv d, rv lk, iv (3 : Int32), iv ((((1 : Int32) + (1 : Int32)) + (1 : Int32)) + (1 : Int32))] [(.ref d)]) (mkF m 72 #[rv d, rv lk, iv (3 : Int32), iv ((((1 : Int32) + (1 : Int32)) + (1 : Int32)) + (1 : Int32))] []) := by
    intro t kt
    refine XS.aloadN X52.here hx rfl (hb hby own_d1_72) rfl rfl ?_
    show own_S p e below T52 m 73 #[rv d, rv lk, iv (3 : Int32), iv ((((1 : Int32) + (1 : Int32)) + (1 : Int32)) + (1 : Int32))] [(.ref d)] _
    exact kt
  refine own_st sg53 ?_
  obtain ⟨T54, X54, e54, st54⟩ := getF X52 hx hZ hown (host := "") (Or.inl (hw _ (List.mem_of_getElem? (i := 50) rfl))) Via.refl e52 FtoAll_52 (g := (mkF m 73 #[rv d, rv lk, iv (3 : Int32), iv ((((1 : Int32) + (1 : Int32)) + (1 : Int32)) + (1 : Int32))] [(.ref d)])) rfl rfl (hb hby own_d1_73)
  refine own_st st54 ?_
  show own_Go p e below _ T54 (mkF m 76 #[rv d, rv lk, iv (3 : Int32), iv ((((1 : Int32) + (1 : Int32)) + (1 : Int32)) + (1 : Int32))] [(.ref a51)])
  have sg55 : own_V p e below T54 (mkF m 77 #[rv d, rv lk, iv (3 : Int32), iv ((((1 : Int32) + (1 : Int32)) + (1 : Int32)) + (1 : Int32))] [(.int (-1 : Int32)), (.ref a51)]) (mkF m 76 #[rv d, rv lk, iv (3 : Int32), iv ((((1 : Int32) + (1 : Int32)) + (1 : Int32)) + (1 : Int32))] [(.ref a51)]) := by
    intro t kt
    refine XS.iconst X54.here hx rfl (hb hby own_d1_76) ?_
    show own_S p e below T54 m 77 #[rv d, rv lk, iv (3 : Int32), iv ((((1 : Int32) + (1 : Int32)) + (1 : Int32)) + (1 : Int32))] [(.int (-1 : Int32)), (.ref a51)] _
    exact kt
  refine own_st sg55 ?_
  obtain ⟨_, T56, L56, X56, hQ56, st56⟩ := own_callS (y := (⟨"java/util/Arrays", "fill", "([BB)V"⟩ : MethodName)) X54 hx hZ hown (hw _ (List.mem_of_getElem? (i := 52) rfl)) (hw _ (List.mem_of_getElem? (i := 29) rfl)) (hw _ (List.mem_of_getElem? (i := 30) rfl)) (hw _ (List.mem_of_getElem? (i := 31) rfl)) (by decide) (own_rmfil l Z a0 hw a51 (-1 : Int32) (fun _ => 0) h52 n0 Z52 AT_52 g_a51) e54 (g := (mkF m 77 #[rv d, rv lk, iv (3 : Int32), iv ((((1 : Int32) + (1 : Int32)) + (1 : Int32)) + (1 : Int32))] [(.int (-1 : Int32)), (.ref a51)])) rfl (by rw [hml]; rfl) (argsL := [(.ref a51), (.int (-1 : Int32))]) (rest := []) (lenOf own_pd0 rfl) rfl (W := 0) (by show 2 * 0 + _ ≤ _; exact Nat.le_of_eq rfl) (hb hby own_d1_77) (by decide) (by decide) (by decide) (by decide)
  obtain ⟨rfl, Nq56, K56, A56⟩ := hQ56
  refine own_st st56 ?_
  have Z56 : n0 ≤ T56.heap.size := Nat.le_trans Z52 K56.1
  have N56 := Fr.app N52 Nq56
  show own_Go p e below _ T56 (mkF m 80 #[rv d, rv lk, iv (3 : Int32), iv ((((1 : Int32) + (1 : Int32)) + (1 : Int32)) + (1 : Int32))] [])
  have EE_56 := EE_52.keep K56
  have AL_56 := AL_52.keep K56 (own_ninS (by omega) nin0)
  have EK_56 := EK_52.keep K56
  have Finboxes_56 := Finboxes_52.keep K56 (own_ninS (by omega) nin0)
  have Fkept_56 := Fkept_52.keep K56 (own_ninS (by omega) nin0)
  have FkeptParties_56 := FkeptParties_52.keep K56 (own_ninS (by omega) nin0)
  have FtoAll_56 := FtoAll_52.keep K56 (own_ninS (by omega) nin0)
  have FoneByOne_56 := FoneByOne_52.keep K56 (own_ninS (by omega) nin0)
  have Foutbox_56 := Foutbox_52.keep K56 (own_ninS (by omega) nin0)
  have Fcount_56 := Fcount_52.keep K56 (own_ninS (by omega) nin0)
  have AI_56 := AI_52.keep K56 (own_ninS (by omega) nin0)
  have OV_56 := OV_52.keep K56
  have DV0_56 := DV0_52.keep K56 (own_ninS (by omega) nin0) (own_ninS (by omega) nin0)
  have DV1_56 := DV1_52.keep K56 (own_ninS (by omega) nin0) (own_ninS (by omega) nin0)
  have DV2_56 := DV2_52.keep K56 (own_ninS (by omega) nin0) (own_ninS (by omega) nin0)
  have AK_56 := AK_52.keep K56 (own_ninS (by omega) nin0)
  have KD56 : Keep h0 T56.heap [d] := KD52.trans K56 (allS (Or.inr sz51) all0)
  have sg57 : own_V p e below T56 (mkF m 82 #[rv d, rv lk, iv (3 : Int32), iv ((((1 : Int32) + (1 : Int32)) + (1 : Int32)) + (1 : Int32))] [(.int (3 : Int32)), (.ref d)]) (mkF m 80 #[rv d, rv lk, iv (3 : Int32), iv ((((1 : Int32) + (1 : Int32)) + (1 : Int32)) + (1 : Int32))] []) := by
    intro t kt
    refine XS.aloadN X56.here hx rfl (hb hby own_d1_80) rfl rfl ?_
    show own_S p e below T56 m 81 #[rv d, rv lk, iv (3 : Int32), iv ((((1 : Int32) + (1 : Int32)) + (1 : Int32)) + (1 : Int32))] [(.ref d)] _
    refine XS.iloadN X56.here hx rfl (hb hby own_d1_81) rfl ?_
    show own_S p e below T56 m 82 #[rv d, rv lk, iv (3 : Int32), iv ((((1 : Int32) + (1 : Int32)) + (1 : Int32)) + (1 : Int32))] [(.int (3 : Int32)), (.ref d)] _
    exact kt
  refine own_st sg57 ?_
  obtain ⟨T58, h58, a58, g58, X58, e58, E58, A58, st58⟩ := own_newP (n := 3) X56 hx hZ (hw _ (List.mem_of_getElem? (i := 0) rfl)) rfl (by decide) rfl (g := (mkF m 82 #[rv d, rv lk, iv (3 : Int32), iv ((((1 : Int32) + (1 : Int32)) + (1 : Int32)) + (1 : Int32))] [(.int (3 : Int32)), (.ref d)])) rfl rfl (hb hby own_d1_82) (cap := 3) (by decide) (by decide) (by decide) (by decide)
  refine own_st st58 ?_
  have g_a58 : n0 ≤ a58 := by rw [g58]; exact Z56
  have Z58 : n0 ≤ h58.size := Nat.le_trans Z56 E58.1
  have B58 : own_AI Z h58 a58 .boolean 3 (fun _ => 0) := A58
  show own_Go p e below _ T58 (mkF m 84 #[rv d, rv lk, iv (3 : Int32), iv ((((1 : Int32) + (1 : Int32)) + (1 : Int32)) + (1 : Int32))] [(.ref a58), (.ref d)])
  have ltAT_58 : a51 < a58 := by rw [g58]; exact A56.lt
  have KK58 : Keep T56.heap h58 [] := (Keep.refl _ _).ext E58
  have EE_58 := EE_56.keep KK58
  have AL_58 := AL_56.keep KK58 nin0
  have EK_58 := EK_56.keep KK58
  have Finboxes_58 := Finboxes_56.keep KK58 nin0
  have Fkept_58 := Fkept_56.keep KK58 nin0
  have FkeptParties_58 := FkeptParties_56.keep KK58 nin0
  have FtoAll_58 := FtoAll_56.keep KK58 nin0
  have FoneByOne_58 := FoneByOne_56.keep KK58 nin0
  have Foutbox_58 := Foutbox_56.keep KK58 nin0
  have Fcount_58 := Fcount_56.keep KK58 nin0
  have AI_58 := AI_56.keep KK58 nin0
  have OV_58 := OV_56.keep KK58
  have DV0_58 := DV0_56.keep KK58 nin0 nin0
  have DV1_58 := DV1_56.keep KK58 nin0 nin0
  have DV2_58 := DV2_56.keep KK58 nin0 nin0
  have AK_58 := AK_56.keep KK58 nin0
  have AT_58 := A56.keep KK58 nin0
  have sz58 : h0.size ≤ a58 := by rw [g58]; exact KD56.1
  have KD58 : Keep h0 h58 [d] := KD56.ext E58
  obtain ⟨T59, h59, X59, e59, W59, st59⟩ := putF X58 hx hZ hown (host := "") (Or.inl (hw _ (List.mem_of_getElem? (i := 53) rfl))) Via.refl e58 FoneByOne_58 EE_58 (Or.inr ⟨(hw _ (List.mem_of_getElem? (i := 54) rfl)), rfl, hnm⟩) (hw _ (List.mem_of_getElem? (i := 3) rfl)) (ty := (.array .boolean)) (by decide) rfl rfl (g := (mkF m 84 #[rv d, rv lk, iv (3 : Int32), iv ((((1 : Int32) + (1 : Int32)) + (1 : Int32)) + (1 : Int32))] [(.ref a58), (.ref d)])) rfl rfl (hb hby own_d1_84)
  refine own_st st59 ?_
  have Z59 : n0 ≤ h59.size := by rw [Wr.size W59]; exact Z58
  have N59 := Fr.snoc X59 N56 g_d
  show own_Go p e below _ T59 (mkF m 87 #[rv d, rv lk, iv (3 : Int32), iv ((((1 : Int32) + (1 : Int32)) + (1 : Int32)) + (1 : Int32))] [])
  have KK59 := Keep.of_wr W59
  have Finboxes_59 := Finboxes_58.other W59 (Or.inr (slot_ne (Or.inr (hw _ (List.mem_of_getElem? (i := 14) rfl))) (Or.inr (hw _ (List.mem_of_getElem? (i := 54) rfl))) (by decide) (t := (.array (.object "com/example/kingsround/kingsround/engine/Deliveries$Delivered"))) (t' := (.array .boolean)) (by decide) (by decide)))
  have Fkept_59 := Fkept_58.other W59 (Or.inr (slot_ne (Or.inr (hw _ (List.mem_of_getElem? (i := 43) rfl))) (Or.inr (hw _ (List.mem_of_getElem? (i := 54) rfl))) (by decide) (t := (.array .boolean)) (t' := (.array .boolean)) (by decide) (by decide)))
  have FkeptParties_59 := FkeptParties_58.other W59 (Or.inr (slot_ne (Or.inr (hw _ (List.mem_of_getElem? (i := 49) rfl))) (Or.inr (hw _ (List.mem_of_getElem? (i := 54) rfl))) (by decide) (t := (.array .int)) (t' := (.array .boolean)) (by decide) (by decide)))
  have FtoAll_59 := FtoAll_58.other W59 (Or.inr (slot_ne (Or.inr (hw _ (List.mem_of_getElem? (i := 51) rfl))) (Or.inr (hw _ (List.mem_of_getElem? (i := 54) rfl))) (by decide) (t := (.array .byte)) (t' := (.array .boolean)) (by decide) (by decide)))
  have Foutbox_59 := Foutbox_58.other W59 (Or.inr (slot_ne (Or.inr (hw _ (List.mem_of_getElem? (i := 76) rfl))) (Or.inr (hw _ (List.mem_of_getElem? (i := 54) rfl))) (by decide) (t := (.object "com/example/kingsround/kingsround/engine/CheckedOutbox")) (t' := (.array .boolean)) (by decide) (by decide)))
  have Fcount_59 := Fcount_58.other W59 (Or.inr (slot_ne (Or.inl (hw _ (List.mem_of_getElem? (i := 88) rfl))) (Or.inr (hw _ (List.mem_of_getElem? (i := 54) rfl))) (by decide) (t := .long) (t' := (.array .boolean)) (by decide) (by decide)))
  have EE_59 := EE_58.keep KK59
  have AL_59 := AL_58.keep KK59 (own_ninS (by omega) nin0)
  have EK_59 := EK_58.keep KK59
  have AI_59 := AI_58.keep KK59 (own_ninS (by omega) nin0)
  have OV_59 := OV_58.keep KK59
  have DV0_59 := DV0_58.keep KK59 (own_ninS (by omega) nin0) (own_ninS (by omega) nin0)
  have DV1_59 := DV1_58.keep KK59 (own_ninS (by omega) nin0) (own_ninS (by omega) nin0)
  have DV2_59 := DV2_58.keep KK59 (own_ninS (by omega) nin0) (own_ninS (by omega) nin0)
  have AK_59 := AK_58.keep KK59 (own_ninS (by omega) nin0)
  have AT_59 := AT_58.keep KK59 (own_ninS (by omega) nin0)
  have AO_59 := B58.keep KK59 (own_ninS (by omega) nin0)
  have FoneByOne_59 := FoneByOne_58.same W59
  have KD59 : Keep h0 h59 [d] := KD58.wr W59 (Or.inl (List.mem_of_getElem? (i := 0) rfl))
  have sg60 : own_V p e below T59 (mkF m 88 #[rv d, rv lk, iv (3 : Int32), iv ((((1 : Int32) + (1 : Int32)) + (1 : Int32)) + (1 : Int32))] [(.ref d)]) (mkF m 87 #[rv d, rv lk, iv (3 : Int32), iv ((((1 : Int32) + (1 : Int32)) + (1 : Int32)) + (1 : Int32))] []) := by
    intro t kt
    refine XS.aloadN X59.here hx rfl (hb hby own_d1_87) rfl rfl ?_
    show own_S p e below T59 m 88 #[rv d, rv lk, iv (3 : Int32), iv ((((1 : Int32) + (1 : Int32)) + (1 : Int32)) + (1 : Int32))] [(.ref d)] _
    exact kt
  refine own_st sg60 ?_
  obtain ⟨T61, h61, X61, e61, E61, A61, D61, -, st61⟩ := newO X59 hx hZ hown (hw _ (List.mem_of_getElem? (i := 55) rfl)) (hw _ (List.mem_of_getElem? (i := 56) rfl)) (hw _ (List.mem_of_getElem? (i := 57) rfl)) e59 (g := (mkF m 88 #[rv d, rv lk, iv (3 : Int32), iv ((((1 : Int32) + (1 : Int32)) + (1 : Int32)) + (1 : Int32))] [(.ref d)])) rfl (hb hby own_d1_88) (by decide) (by decide)
  obtain ⟨a61, g61⟩ : ∃ z, z = h59.size := ⟨_, rfl⟩
  rw [← g61] at A61 D61 st61
  refine own_st st61 ?_
  have g_a61 : n0 ≤ a61 := by rw [g61]; exact Z59
  have Z61 : n0 ≤ h61.size := Nat.le_trans Z59 E61.1
  show own_Go p e below _ T61 (mkF m 91 #[rv d, rv lk, iv (3 : Int32), iv ((((1 : Int32) + (1 : Int32)) + (1 : Int32)) + (1 : Int32))] [(.ref a61), (.ref d)])
  have ltAO_61 : a58 < a61 := by rw [g61]; exact AO_59.lt
  have KK61 : Keep h59 h61 [] := (Keep.refl _ _).ext E61
  have EE_61 := EE_59.keep KK61
  have AL_61 := AL_59.keep KK61 nin0
  have EK_61 := EK_59.keep KK61
  have Finboxes_61 := Finboxes_59.keep KK61 nin0
  have Fkept_61 := Fkept_59.keep KK61 nin0
  have FkeptParties_61 := FkeptParties_59.keep KK61 nin0
  have FtoAll_61 := FtoAll_59.keep KK61 nin0
  have FoneByOne_61 := FoneByOne_59.keep KK61 nin0
  have Foutbox_61 := Foutbox_59.keep KK61 nin0
  have Fcount_61 := Fcount_59.keep KK61 nin0
  have AI_61 := AI_59.keep KK61 nin0
  have OV_61 := OV_59.keep KK61
  have DV0_61 := DV0_59.keep KK61 nin0 nin0
  have DV1_61 := DV1_59.keep KK61 nin0 nin0
  have DV2_61 := DV2_59.keep KK61 nin0 nin0
  have AK_61 := AK_59.keep KK61 nin0
  have AT_61 := AT_59.keep KK61 nin0
  have AO_61 := AO_59.keep KK61 nin0
  have sz61 : h0.size ≤ a61 := by rw [g61]; exact KD59.1
  have KD61 : Keep h0 h61 [d] := KD59.ext E61
  have Gn : Fld Z h61 a61 "com/example/kingsround/kingsround/engine/CheckedOutbox" "n" "I" (.int (0 : Int32)) := D61 (Or.inr (hw _ (List.mem_of_getElem? (i := 72) rfl))) (ty := .int) (by decide)
  have Gsink : Fld Z h61 a61 "com/example/kingsround/kingsround/engine/CheckedOutbox" "sink" "Lcom/example/kingsround/kingsround/engine/CheckedOutbox$Sink;" .null := D61 (Or.inr (hw _ (List.mem_of_getElem? (i := 74) rfl))) (ty := (.object "com/example/kingsround/kingsround/engine/CheckedOutbox$Sink")) (by decide)
  have sg62 : own_V p e below T61 (mkF m 93 #[rv d, rv lk, iv (3 : Int32), iv ((((1 : Int32) + (1 : Int32)) + (1 : Int32)) + (1 : Int32))] [(.int (3 : Int32)), (.ref a61), (.ref a61), (.ref d)]) (mkF m 91 #[rv d, rv lk, iv (3 : Int32), iv ((((1 : Int32) + (1 : Int32)) + (1 : Int32)) + (1 : Int32))] [(.ref a61), (.ref d)]) := by
    intro t kt
    refine XS.dup X61.here hx rfl (hb hby own_d1_91) rfl rfl ?_
    show own_S p e below T61 m 92 #[rv d, rv lk, iv (3 : Int32), iv ((((1 : Int32) + (1 : Int32)) + (1 : Int32)) + (1 : Int32))] [(.ref a61), (.ref a61), (.ref d)] _
    refine XS.iloadN X61.here hx rfl (hb hby own_d1_92) rfl ?_
    show own_S p e below T61 m 93 #[rv d, rv lk, iv (3 : Int32), iv ((((1 : Int32) + (1 : Int32)) + (1 : Int32)) + (1 : Int32))] [(.int (3 : Int32)), (.ref a61), (.ref a61), (.ref d)] _
    exact kt
  refine own_st sg62 ?_
  obtain ⟨T63, h63, X63, e63, E63, A63, D63, -, st63⟩ := newO X61 hx hZ hown (hw _ (List.mem_of_getElem? (i := 58) rfl)) (hw _ (List.mem_of_getElem? (i := 59) rfl)) (hw _ (List.mem_of_getElem? (i := 60) rfl)) e61 (g := (mkF m 93 #[rv d, rv lk, iv (3 : Int32), iv ((((1 : Int32) + (1 : Int32)) + (1 : Int32)) + (1 : Int32))] [(.int (3 : Int32)), (.ref a61), (.ref a61), (.ref d)])) rfl (hb hby own_d1_93) (by decide) (by decide)
  obtain ⟨a63, g63⟩ : ∃ z, z = h61.size := ⟨_, rfl⟩
  rw [← g63] at A63 D63 st63
  refine own_st st63 ?_
  have g_a63 : n0 ≤ a63 := by rw [g63]; exact Z61
  have Z63 : n0 ≤ h63.size := Nat.le_trans Z61 E63.1
  show own_Go p e below _ T63 (mkF m 96 #[rv d, rv lk, iv (3 : Int32), iv ((((1 : Int32) + (1 : Int32)) + (1 : Int32)) + (1 : Int32))] [(.ref a63), (.int (3 : Int32)), (.ref a61), (.ref a61), (.ref d)])
  have ltEO_63 : a61 < a63 := by rw [g63]; exact A61.lt
  have KK63 : Keep h61 h63 [] := (Keep.refl _ _).ext E63
  have EE_63 := EE_61.keep KK63
  have AL_63 := AL_61.keep KK63 nin0
  have EK_63 := EK_61.keep KK63
  have Finboxes_63 := Finboxes_61.keep KK63 nin0
  have Fkept_63 := Fkept_61.keep KK63 nin0
  have FkeptParties_63 := FkeptParties_61.keep KK63 nin0
  have FtoAll_63 := FtoAll_61.keep KK63 nin0
  have FoneByOne_63 := FoneByOne_61.keep KK63 nin0
  have Foutbox_63 := Foutbox_61.keep KK63 nin0
  have Fcount_63 := Fcount_61.keep KK63 nin0
  have AI_63 := AI_61.keep KK63 nin0
  have OV_63 := OV_61.keep KK63
  have DV0_63 := DV0_61.keep KK63 nin0 nin0
  have DV1_63 := DV1_61.keep KK63 nin0 nin0
  have DV2_63 := DV2_61.keep KK63 nin0 nin0
  have AK_63 := AK_61.keep KK63 nin0
  have AT_63 := AT_61.keep KK63 nin0
  have AO_63 := AO_61.keep KK63 nin0
  have EO_63 := A61.keep KK63
  have Gn_63 := Gn.keep KK63 nin0
  have Gsink_63 := Gsink.keep KK63 nin0
  have sz63 : h0.size ≤ a63 := by rw [g63]; exact KD61.1
  have KD63 : Keep h0 h63 [d] := KD61.ext E63
  have Gd : Fld Z h63 a63 "com/example/kingsround/kingsround/engine/Deliveries$1" "this$0" "Lcom/example/kingsround/kingsround/engine/Deliveries;" .null := D63 (Or.inr (hw _ (List.mem_of_getElem? (i := 65) rfl))) (ty := (.object "com/example/kingsround/kingsround/engine/Deliveries")) (by decide)
  have sg64 : own_V p e below T63 (mkF m 98 #[rv d, rv lk, iv (3 : Int32), iv ((((1 : Int32) + (1 : Int32)) + (1 : Int32)) + (1 : Int32))] [(.ref d), (.ref a63), (.ref a63), (.int (3 : Int32)), (.ref a61), (.ref a61), (.ref d)]) (mkF m 96 #[rv d, rv lk, iv (3 : Int32), iv ((((1 : Int32) + (1 : Int32)) + (1 : Int32)) + (1 : Int32))] [(.ref a63), (.int (3 : Int32)), (.ref a61), (.ref a61), (.ref d)]) := by
    intro t kt
    refine XS.dup X63.here hx rfl (hb hby own_d1_96) rfl rfl ?_
    show own_S p e below T63 m 97 #[rv d, rv lk, iv (3 : Int32), iv ((((1 : Int32) + (1 : Int32)) + (1 : Int32)) + (1 : Int32))] [(.ref a63), (.ref a63), (.int (3 : Int32)), (.ref a61), (.ref a61), (.ref d)] _
    refine XS.aloadN X63.here hx rfl (hb hby own_d1_97) rfl rfl ?_
    show own_S p e below T63 m 98 #[rv d, rv lk, iv (3 : Int32), iv ((((1 : Int32) + (1 : Int32)) + (1 : Int32)) + (1 : Int32))] [(.ref d), (.ref a63), (.ref a63), (.int (3 : Int32)), (.ref a61), (.ref a61), (.ref d)] _
    exact kt
  refine own_st sg64 ?_
  obtain ⟨_, T65, L65, X65, hQ65, st65⟩ := own_callI (y := (⟨"com/example/kingsround/kingsround/engine/Deliveries$1", "<init>", "(Lcom/example/kingsround/kingsround/engine/Deliveries;)V"⟩ : MethodName)) (a := a63) X63 hx hZ hown rfl (hw _ (List.mem_of_getElem? (i := 61) rfl)) (hw _ (List.mem_of_getElem? (i := 62) rfl)) (hw _ (List.mem_of_getElem? (i := 60) rfl)) (hw _ (List.mem_of_getElem? (i := 63) rfl)) (by decide) (own_rmd1 l Z a0 hw a63 d h63 n0 Z63 A63 Gd g_a63) e63 (g := (mkF m 98 #[rv d, rv lk, iv (3 : Int32), iv ((((1 : Int32) + (1 : Int32)) + (1 : Int32)) + (1 : Int32))] [(.ref d), (.ref a63), (.ref a63), (.int (3 : Int32)), (.ref a61), (.ref a61), (.ref d)])) rfl (by rw [hml]; rfl) (argsL := [(.ref d)]) (rest := [(.ref a63), (.int (3 : Int32)), (.ref a61), (.ref a61), (.ref d)]) (lenOf own_pd3 rfl) rfl (W := 5) (by show 2 * 0 + _ ≤ _; exact Nat.le_of_eq rfl) (hb hby own_d1_98) (by decide) (by decide) (by decide) (by decide)
  obtain ⟨rfl, Nq65, K65⟩ := hQ65
  refine own_st st65 ?_
  have Z65 : n0 ≤ T65.heap.size := Nat.le_trans Z63 K65.1
  have N65 := Fr.app N59 Nq65
  show own_Go p e below _ T65 (mkF m 101 #[rv d, rv lk, iv (3 : Int32), iv ((((1 : Int32) + (1 : Int32)) + (1 : Int32)) + (1 : Int32))] [(.ref a63), (.int (3 : Int32)), (.ref a61), (.ref a61), (.ref d)])
  have EE_65 := EE_63.keep K65
  have AL_65 := AL_63.keep K65 (own_ninS (by omega) nin0)
  have EK_65 := EK_63.keep K65
  have Finboxes_65 := Finboxes_63.keep K65 (own_ninS (by omega) nin0)
  have Fkept_65 := Fkept_63.keep K65 (own_ninS (by omega) nin0)
  have FkeptParties_65 := FkeptParties_63.keep K65 (own_ninS (by omega) nin0)
  have FtoAll_65 := FtoAll_63.keep K65 (own_ninS (by omega) nin0)
  have FoneByOne_65 := FoneByOne_63.keep K65 (own_ninS (by omega) nin0)
  have Foutbox_65 := Foutbox_63.keep K65 (own_ninS (by omega) nin0)
  have Fcount_65 := Fcount_63.keep K65 (own_ninS (by omega) nin0)
  have AI_65 := AI_63.keep K65 (own_ninS (by omega) nin0)
  have OV_65 := OV_63.keep K65
  have DV0_65 := DV0_63.keep K65 (own_ninS (by omega) nin0) (own_ninS (by omega) nin0)
  have DV1_65 := DV1_63.keep K65 (own_ninS (by omega) nin0) (own_ninS (by omega) nin0)
  have DV2_65 := DV2_63.keep K65 (own_ninS (by omega) nin0) (own_ninS (by omega) nin0)
  have AK_65 := AK_63.keep K65 (own_ninS (by omega) nin0)
  have AT_65 := AT_63.keep K65 (own_ninS (by omega) nin0)
  have AO_65 := AO_63.keep K65 (own_ninS (by omega) nin0)
  have EO_65 := EO_63.keep K65
  have Gn_65 := Gn_63.keep K65 (own_ninS (by omega) nin0)
  have Gsink_65 := Gsink_63.keep K65 (own_ninS (by omega) nin0)
  have KD65 : Keep h0 T65.heap [d] := KD63.trans K65 (allS (Or.inr sz63) all0)
  obtain ⟨_, T66, L66, X66, hQ66, st66⟩ := own_callI (y := (⟨"com/example/kingsround/kingsround/engine/CheckedOutbox", "<init>", "(ILcom/example/kingsround/kingsround/engine/CheckedOutbox$Sink;)V"⟩ : MethodName)) (a := a61) X65 hx hZ hown rfl (hw _ (List.mem_of_getElem? (i := 67) rfl)) (hw _ (List.mem_of_getElem? (i := 68) rfl)) (hw _ (List.mem_of_getElem? (i := 57) rfl)) (hw _ (List.mem_of_getElem? (i := 69) rfl)) (by decide) (own_rmobx l Z a0 hw a61 (3 : Int32) a63 T65.heap n0 Z65 EO_65 Gn_65 Gsink_65 g_a61) rfl (g := (mkF m 101 #[rv d, rv lk, iv (3 : Int32), iv ((((1 : Int32) + (1 : Int32)) + (1 : Int32)) + (1 : Int32))] [(.ref a63), (.int (3 : Int32)), (.ref a61), (.ref a61), (.ref d)])) rfl (by rw [hml]; rfl) (argsL := [(.int (3 : Int32)), (.ref a63)]) (rest := [(.ref a61), (.ref d)]) (lenOf own_pd4 rfl) rfl (W := 2) (by show 2 * 0 + _ ≤ _; exact Nat.le_of_eq rfl) (hb hby own_d1_101) (by decide) (by decide) (by decide) (by decide)
  obtain ⟨rfl, Nq66, K66⟩ := hQ66
  refine own_st st66 ?_
  have Z66 : n0 ≤ T66.heap.size := Nat.le_trans Z65 K66.1
  have N66 := Fr.app N65 Nq66
  show own_Go p e below _ T66 (mkF m 104 #[rv d, rv lk, iv (3 : Int32), iv ((((1 : Int32) + (1 : Int32)) + (1 : Int32)) + (1 : Int32))] [(.ref a61), (.ref d)])
  have EE_66 := EE_65.keep K66
  have AL_66 := AL_65.keep K66 (own_ninS (by omega) nin0)
  have EK_66 := EK_65.keep K66
  have Finboxes_66 := Finboxes_65.keep K66 (own_ninS (by omega) nin0)
  have Fkept_66 := Fkept_65.keep K66 (own_ninS (by omega) nin0)
  have FkeptParties_66 := FkeptParties_65.keep K66 (own_ninS (by omega) nin0)
  have FtoAll_66 := FtoAll_65.keep K66 (own_ninS (by omega) nin0)
  have FoneByOne_66 := FoneByOne_65.keep K66 (own_ninS (by omega) nin0)
  have Foutbox_66 := Foutbox_65.keep K66 (own_ninS (by omega) nin0)
  have Fcount_66 := Fcount_65.keep K66 (own_ninS (by omega) nin0)
  have AI_66 := AI_65.keep K66 (own_ninS (by omega) nin0)
  have OV_66 := OV_65.keep K66
  have DV0_66 := DV0_65.keep K66 (own_ninS (by omega) nin0) (own_ninS (by omega) nin0)
  have DV1_66 := DV1_65.keep K66 (own_ninS (by omega) nin0) (own_ninS (by omega) nin0)
  have DV2_66 := DV2_65.keep K66 (own_ninS (by omega) nin0) (own_ninS (by omega) nin0)
  have AK_66 := AK_65.keep K66 (own_ninS (by omega) nin0)
  have AT_66 := AT_65.keep K66 (own_ninS (by omega) nin0)
  have AO_66 := AO_65.keep K66 (own_ninS (by omega) nin0)
  have EO_66 := EO_65.keep K66
  have KD66 : Keep h0 T66.heap [d] := KD65.trans K66 (allS (Or.inr sz61) all0)
  obtain ⟨T67, h67, X67, e67, W67, st67⟩ := putF X66 hx hZ hown (host := "") (Or.inl (hw _ (List.mem_of_getElem? (i := 75) rfl))) Via.refl rfl Foutbox_66 EE_66 (Or.inr ⟨(hw _ (List.mem_of_getElem? (i := 76) rfl)), rfl, hnm⟩) (hw _ (List.mem_of_getElem? (i := 3) rfl)) (ty := (.object "com/example/kingsround/kingsround/engine/CheckedOutbox")) (by decide) rfl rfl (g := (mkF m 104 #[rv d, rv lk, iv (3 : Int32), iv ((((1 : Int32) + (1 : Int32)) + (1 : Int32)) + (1 : Int32))] [(.ref a61), (.ref d)])) rfl rfl (hb hby own_d1_104)
  refine own_st st67 ?_
  have Z67 : n0 ≤ h67.size := by rw [Wr.size W67]; exact Z66
  have N67 := Fr.snoc X67 N66 g_d
  show own_Go p e below _ T67 (mkF m 107 #[rv d, rv lk, iv (3 : Int32), iv ((((1 : Int32) + (1 : Int32)) + (1 : Int32)) + (1 : Int32))] [])
  have KK67 := Keep.of_wr W67
  have Finboxes_67 := Finboxes_66.other W67 (Or.inr (slot_ne (Or.inr (hw _ (List.mem_of_getElem? (i := 14) rfl))) (Or.inr (hw _ (List.mem_of_getElem? (i := 76) rfl))) (by decide) (t := (.array (.object "com/example/kingsround/kingsround/engine/Deliveries$Delivered"))) (t' := (.object "com/example/kingsround/kingsround/engine/CheckedOutbox")) (by decide) (by decide)))
  have Fkept_67 := Fkept_66.other W67 (Or.inr (slot_ne (Or.inr (hw _ (List.mem_of_getElem? (i := 43) rfl))) (Or.inr (hw _ (List.mem_of_getElem? (i := 76) rfl))) (by decide) (t := (.array .boolean)) (t' := (.object "com/example/kingsround/kingsround/engine/CheckedOutbox")) (by decide) (by decide)))
  have FkeptParties_67 := FkeptParties_66.other W67 (Or.inr (slot_ne (Or.inr (hw _ (List.mem_of_getElem? (i := 49) rfl))) (Or.inr (hw _ (List.mem_of_getElem? (i := 76) rfl))) (by decide) (t := (.array .int)) (t' := (.object "com/example/kingsround/kingsround/engine/CheckedOutbox")) (by decide) (by decide)))
  have FtoAll_67 := FtoAll_66.other W67 (Or.inr (slot_ne (Or.inr (hw _ (List.mem_of_getElem? (i := 51) rfl))) (Or.inr (hw _ (List.mem_of_getElem? (i := 76) rfl))) (by decide) (t := (.array .byte)) (t' := (.object "com/example/kingsround/kingsround/engine/CheckedOutbox")) (by decide) (by decide)))
  have FoneByOne_67 := FoneByOne_66.other W67 (Or.inr (slot_ne (Or.inr (hw _ (List.mem_of_getElem? (i := 54) rfl))) (Or.inr (hw _ (List.mem_of_getElem? (i := 76) rfl))) (by decide) (t := (.array .boolean)) (t' := (.object "com/example/kingsround/kingsround/engine/CheckedOutbox")) (by decide) (by decide)))
  have Fcount_67 := Fcount_66.other W67 (Or.inr (slot_ne (Or.inl (hw _ (List.mem_of_getElem? (i := 88) rfl))) (Or.inr (hw _ (List.mem_of_getElem? (i := 76) rfl))) (by decide) (t := .long) (t' := (.object "com/example/kingsround/kingsround/engine/CheckedOutbox")) (by decide) (by decide)))
  have EE_67 := EE_66.keep KK67
  have AL_67 := AL_66.keep KK67 (own_ninS (by omega) nin0)
  have EK_67 := EK_66.keep KK67
  have AI_67 := AI_66.keep KK67 (own_ninS (by omega) nin0)
  have OV_67 := OV_66.keep KK67
  have DV0_67 := DV0_66.keep KK67 (own_ninS (by omega) nin0) (own_ninS (by omega) nin0)
  have DV1_67 := DV1_66.keep KK67 (own_ninS (by omega) nin0) (own_ninS (by omega) nin0)
  have DV2_67 := DV2_66.keep KK67 (own_ninS (by omega) nin0) (own_ninS (by omega) nin0)
  have AK_67 := AK_66.keep KK67 (own_ninS (by omega) nin0)
  have AT_67 := AT_66.keep KK67 (own_ninS (by omega) nin0)
  have AO_67 := AO_66.keep KK67 (own_ninS (by omega) nin0)
  have EO_67 := EO_66.keep KK67
  have Foutbox_67 := Foutbox_66.same W67
  have KD67 : Keep h0 h67 [d] := KD66.wr W67 (Or.inl (List.mem_of_getElem? (i := 0) rfl))
  have HA : own_Ad n0 d a4 a44 a51 a58 (fun i => if i = 0 then a13 else if i = 1 then a24 else a35) (fun i => if i = 0 then r15 else if i = 1 then r26 else r37) := ⟨g_d, by omega, by show a4 < a13; omega, by show a13 < r15; omega, by show r15 < a24; omega, by show a24 < r26; omega, by show r26 < a35; omega, by show a35 < r37; omega, by show r37 < a44; omega, by omega, by omega⟩
  have HI : own_AV Z h67 a4 (.object "com/example/kingsround/kingsround/engine/Deliveries$Delivered") 3 (fun i => .ref ((fun i => if i = 0 then a13 else if i = 1 then a24 else a35) i)) := own_AV.congr AI_67 (fun i hi => by rcases own_lt3 hi with rfl | rfl | rfl <;> rfl)
  have HD : ∀ i, i < 3 → own_Dv Z h67 ((fun i => if i = 0 then a13 else if i = 1 then a24 else a35) i) ((fun i => if i = 0 then r15 else if i = 1 then r26 else r37) i) d (Int32.ofNat (i + 1)) (fun _ => -1) := fun i hi => by
    rcases own_lt3 hi with rfl | rfl | rfl
    · exact DV0_67
    · exact DV1_67
    · exact DV2_67
  exact own_retV X67 hx Bd.notSynchronized Bd.returns (hb hby own_d1_107) (by decide) (by decide) e67 ⟨rfl, N67, KD67, a4, a44, a51, a58, _, _, HA, EE_67, Finboxes_67, Fkept_67, FtoAll_67, FoneByOne_67, Fcount_67, HI, AK_67, AT_67, AO_67, HD⟩
abbrev own_sto (K T : Nat → Int32) (R : Nat → Nat → Int32) (kf ky : Nat) : Prop := ¬ (K kf = 0 ∧ K ky = 0) ∧ R ky kf = -1 ∧ T kf = -1
def own_by (v : Int32) : Int32 := nar .byte v.toInt8.toInt32
def own_pr (K T : Nat → Int32) (R : Nat → Nat → Int32) (kf ky : Nat) : Int32 := if K kf = 0 ∧ K ky = 0 then 1 else if own_sto K T R kf ky then 1 else 0
def own_pO (K T O : Nat → Int32) (R : Nat → Nat → Int32) (kf ky : Nat) : Nat → Int32 := if own_sto K T R kf ky then own_upd O kf 1 else O
def own_updR (R : Nat → Nat → Int32) (ky kf : Nat) (v : Int32) : Nat → Nat → Int32 := fun i => if i = ky then own_upd (R ky) kf v else R i
def own_pR (K T : Nat → Int32) (R : Nat → Nat → Int32) (kf ky : Nat) (v : Int32) : Nat → Nat → Int32 := if own_sto K T R kf ky then own_updR R ky kf (own_by v) else R
def own_pc (K T : Nat → Int32) (R : Nat → Nat → Int32) (kf ky : Nat) (cnt : Int64) : Int64 := if own_sto K T R kf ky then cnt + 1 else cnt
abbrev own_ta (K T O : Nat → Int32) (kf : Nat) : Prop := ¬ K kf = 0 ∧ O kf = 0 ∧ T kf = -1
def own_ar (K T O : Nat → Int32) (kf : Nat) : Int32 := if own_ta K T O kf then 1 else 0
def own_aT (K T O : Nat → Int32) (kf : Nat) (v : Int32) : Nat → Int32 := if own_ta K T O kf then own_upd T kf (own_by v) else T
def own_ac (K T O : Nat → Int32) (kf : Nat) (cnt : Int64) : Int64 := if own_ta K T O kf then cnt + ((3 : Int32) - (1 : Int32)).toInt64 else cnt
def own_val (T : Nat → Int32) (R : Nat → Nat → Int32) (kf ky : Nat) : Int32 := if T kf = -1 then R ky kf else if kf = ky then R ky kf else T kf
theorem own_pr01 (K T : Nat → Int32) (R : Nat → Nat → Int32) (kf ky : Nat) : own_pr K T R kf ky = 0 ∨ own_pr K T R kf ky = 1 := by unfold own_pr; repeat' (first | exact Or.inl rfl | exact Or.inr rfl | split)
theorem own_ar01 (K T O : Nat → Int32) (kf : Nat) : own_ar K T O kf = 0 ∨ own_ar K T O kf = 1 := by unfold own_ar; repeat' (first | exact Or.inl rfl | exact Or.inr rfl | split)
theorem own_i1 {x : Int32} {k : Nat} (h : x.toInt = ((k + 1 : Nat) : Int)) : (x - (1 : Int32)).toInt = (k : Int) := by
  have c := c_isub x 1
  have r := rng32 (x - (1 : Int32))
  have r2 := rng32 x
  have e : (1 : Int32).toInt = 1 := by decide
  rw [e] at c; omega
theorem own_Ad.lo {n0 : Nat} {d ib kp ta ob : Nat} {q r : Nat → Nat} (H : own_Ad n0 d ib kp ta ob q r) {i : Nat} (hi : i < 3) : d < q i ∧ ib < q i ∧ q i < r i ∧ r i < kp ∧ n0 ≤ r i ∧ (∀ j, j < 3 → j ≠ i → r j ≠ r i ∧ q j ≠ r i) := by
  obtain ⟨h1, h2, h3, h4, h5, h6, h7, h8, h9, h10, h11⟩ := H
  have key : ∀ j, j < 3 → j ≠ i → r j ≠ r i ∧ q j ≠ r i := fun j hj hn => by
    rcases own_lt3 hi with rfl | rfl | rfl <;> rcases own_lt3 hj with rfl | rfl | rfl <;> first | exact absurd rfl hn | (constructor <;> omega)
  rcases own_lt3 hi with rfl | rfl | rfl <;> exact ⟨by omega, by omega, by omega, by omega, by omega, key⟩
theorem own_Ad.rest {n0 : Nat} {d ib kp ta ob : Nat} {q r : Nat → Nat} (H : own_Ad n0 d ib kp ta ob q r) : n0 ≤ d ∧ d < ib ∧ d < kp ∧ ib < kp ∧ kp < ta ∧ ta < ob := by
  obtain ⟨h1, h2, h3, h4, h5, h6, h7, h8, h9, h10, h11⟩ := H
  exact ⟨h1, h2, by omega, by omega, h10, h11⟩
theorem own_d9_0 : decode prog_65_method_4_code 0 = .ok (.aload_n 0, 1) := by decide +kernel
theorem own_d9_1 : decode prog_65_method_4_code 1 = .ok (.getfield 76, 3) := by decide +kernel
theorem own_d9_4 : decode prog_65_method_4_code 4 = .ok (.lreturn, 1) := by decide +kernel
theorem own_efcnt (m : MethodId) (d : Nat) : entryFrame m #[(.ref d)] 1 = mkF m 0 #[rv d] [] := by first | (simp [entryFrame, mkF, argsToLocals, Value.category]; done) | rfl
set_option maxRecDepth 65536 in
set_option maxHeartbeats 40000000 in
theorem own_rmcnt (l : Launch) (Z : State) (a0 : Array Value) (hw : ∀ d ∈ tables_1, d.before a0 Z = true) (d : Nat) (ib kp ta ob : Nat) (q r : Nat → Nat) (kk vT vO : Nat → Int32) (vR : Nat → Nat → Int32) (cnt : Int64) (h0 : Heap) (n0 : Nat) (Z0 : n0 ≤ h0.size) (HA : own_Ad n0 d ib kp ta ob q r) (HD : own_D Z h0 d ib kp ta ob q r kk vT vO vR cnt) :
    own_Ct l Z (⟨"com/example/kingsround/kingsround/engine/Deliveries", "count", "()J"⟩ : MethodName) prog_65_method_4_code 1 (some .long) ({ frames := 0, cells := 0, slots := 0, locals := 0 } : Room) #[(.ref d)] h0 (fun v h L => v = some (.long cnt) ∧ Fr n0 L ∧ h = h0) := by
  refine own_body (y := (⟨"com/example/kingsround/kingsround/engine/Deliveries", "count", "()J"⟩ : MethodName)) (Q := fun v h L => v = some (.long cnt) ∧ Fr n0 L ∧ h = h0) (plainFor_of_name own_pn1) ?_
  intro p e s m below meth c s₁ Bd hml0 hZ e0
  have hx := Bd.exec
  have hby := Bd.bytes
  have hml : c.maxLocals = 1 := hml0
  have hown : s.vm.findClass "com/example/kingsround/kingsround/engine/Deliveries" = some m.cls := findClass_of_methodNamed Bd.named
  have hnm := (name_of_methodNamed Bd.named Bd.method).1
  have X0 : Stand p l e ({ frames := 0, cells := 0, slots := 0, locals := 0 } : Room) s m #[(.ref d)] below meth c s₁ [] 0 0 := Stand.of_body Bd
  have N0 := Fr.nil n0
  rw [own_efcnt]
  obtain ⟨EE, Finboxes, Fkept, FtoAll, FoneByOne, Fcount, AI, AK, AT, AO, DVS⟩ := HD
  have sg1 : own_V p e below s₁ (mkF m 1 #[rv d] [(.ref d)]) (mkF m 0 #[rv d] []) := by
    intro t kt
    refine XS.aloadN X0.here hx rfl (hb hby own_d9_0) rfl rfl ?_
    show own_S p e below s₁ m 1 #[rv d] [(.ref d)] _
    exact kt
  refine own_st sg1 ?_
  obtain ⟨T2, X2, e2, st2⟩ := getF X0 hx hZ hown (host := "") (Or.inl (hw _ (List.mem_of_getElem? (i := 87) rfl))) Via.refl e0 Fcount (g := (mkF m 1 #[rv d] [(.ref d)])) rfl rfl (hb hby own_d9_1)
  refine own_st st2 ?_
  show own_Go p e below _ T2 (mkF m 4 #[rv d] [(.long cnt)])
  exact own_retJ X2 hx Bd.notSynchronized Bd.returns (hb hby own_d9_4) (by decide) (by decide) e2 ⟨rfl, N0, rfl⟩
theorem own_d12_0 : decode prog_65_method_9_code 0 = .ok (.aload_n 0, 1) := by decide +kernel
theorem own_d12_1 : decode prog_65_method_9_code 1 = .ok (.getfield 31, 3) := by decide +kernel
theorem own_d12_4 : decode prog_65_method_9_code 4 = .ok (.iload_n 1, 1) := by decide +kernel
theorem own_d12_5 : decode prog_65_method_9_code 5 = .ok (.iconst 1, 1) := by decide +kernel
theorem own_d12_6 : decode prog_65_method_9_code 6 = .ok (.isub, 1) := by decide +kernel
theorem own_d12_7 : decode prog_65_method_9_code 7 = .ok (.baload, 1) := by decide +kernel
theorem own_d12_8 : decode prog_65_method_9_code 8 = .ok (.ifCond .ne 16, 3) := by decide +kernel
theorem own_d12_11 : decode prog_65_method_9_code 11 = .ok (.aload_n 0, 1) := by decide +kernel
theorem own_d12_12 : decode prog_65_method_9_code 12 = .ok (.getfield 31, 3) := by decide +kernel
theorem own_d12_15 : decode prog_65_method_9_code 15 = .ok (.iload_n 2, 1) := by decide +kernel
theorem own_d12_16 : decode prog_65_method_9_code 16 = .ok (.iconst 1, 1) := by decide +kernel
theorem own_d12_17 : decode prog_65_method_9_code 17 = .ok (.isub, 1) := by decide +kernel
theorem own_d12_18 : decode prog_65_method_9_code 18 = .ok (.baload, 1) := by decide +kernel
theorem own_d12_19 : decode prog_65_method_9_code 19 = .ok (.ifCond .ne 5, 3) := by decide +kernel
theorem own_d12_22 : decode prog_65_method_9_code 22 = .ok (.iconst 1, 1) := by decide +kernel
theorem own_d12_23 : decode prog_65_method_9_code 23 = .ok (.ireturn, 1) := by decide +kernel
theorem own_d12_24 : decode prog_65_method_9_code 24 = .ok (.aload_n 0, 1) := by decide +kernel
theorem own_d12_25 : decode prog_65_method_9_code 25 = .ok (.getfield 18, 3) := by decide +kernel
theorem own_d12_28 : decode prog_65_method_9_code 28 = .ok (.iload_n 2, 1) := by decide +kernel
theorem own_d12_29 : decode prog_65_method_9_code 29 = .ok (.iconst 1, 1) := by decide +kernel
theorem own_d12_30 : decode prog_65_method_9_code 30 = .ok (.isub, 1) := by decide +kernel
theorem own_d12_31 : decode prog_65_method_9_code 31 = .ok (.aaload, 1) := by decide +kernel
theorem own_d12_32 : decode prog_65_method_9_code 32 = .ok (.getfield 70, 3) := by decide +kernel
theorem own_d12_35 : decode prog_65_method_9_code 35 = .ok (.astore 4, 2) := by decide +kernel
theorem own_d12_37 : decode prog_65_method_9_code 37 = .ok (.aload 4, 2) := by decide +kernel
theorem own_d12_39 : decode prog_65_method_9_code 39 = .ok (.iload_n 1, 1) := by decide +kernel
theorem own_d12_40 : decode prog_65_method_9_code 40 = .ok (.iconst 1, 1) := by decide +kernel
theorem own_d12_41 : decode prog_65_method_9_code 41 = .ok (.isub, 1) := by decide +kernel
theorem own_d12_42 : decode prog_65_method_9_code 42 = .ok (.baload, 1) := by decide +kernel
theorem own_d12_43 : decode prog_65_method_9_code 43 = .ok (.iconst (-1), 1) := by decide +kernel
theorem own_d12_44 : decode prog_65_method_9_code 44 = .ok (.if_icmp .ne 15, 3) := by decide +kernel
theorem own_d12_47 : decode prog_65_method_9_code 47 = .ok (.aload_n 0, 1) := by decide +kernel
theorem own_d12_48 : decode prog_65_method_9_code 48 = .ok (.getfield 41, 3) := by decide +kernel
theorem own_d12_51 : decode prog_65_method_9_code 51 = .ok (.iload_n 1, 1) := by decide +kernel
theorem own_d12_52 : decode prog_65_method_9_code 52 = .ok (.iconst 1, 1) := by decide +kernel
theorem own_d12_53 : decode prog_65_method_9_code 53 = .ok (.isub, 1) := by decide +kernel
theorem own_d12_54 : decode prog_65_method_9_code 54 = .ok (.baload, 1) := by decide +kernel
theorem own_d12_55 : decode prog_65_method_9_code 55 = .ok (.iconst (-1), 1) := by decide +kernel
theorem own_d12_56 : decode prog_65_method_9_code 56 = .ok (.if_icmp .eq 5, 3) := by decide +kernel
theorem own_d12_59 : decode prog_65_method_9_code 59 = .ok (.iconst 0, 1) := by decide +kernel
theorem own_d12_60 : decode prog_65_method_9_code 60 = .ok (.ireturn, 1) := by decide +kernel
theorem own_d12_61 : decode prog_65_method_9_code 61 = .ok (.aload 4, 2) := by decide +kernel
theorem own_d12_63 : decode prog_65_method_9_code 63 = .ok (.iload_n 1, 1) := by decide +kernel
theorem own_d12_64 : decode prog_65_method_9_code 64 = .ok (.iconst 1, 1) := by decide +kernel
theorem own_d12_65 : decode prog_65_method_9_code 65 = .ok (.isub, 1) := by decide +kernel
theorem own_d12_66 : decode prog_65_method_9_code 66 = .ok (.iload_n 3, 1) := by decide +kernel
theorem own_d12_67 : decode prog_65_method_9_code 67 = .ok (.i2b, 1) := by decide +kernel
theorem own_d12_68 : decode prog_65_method_9_code 68 = .ok (.bastore, 1) := by decide +kernel
theorem own_d12_69 : decode prog_65_method_9_code 69 = .ok (.aload_n 0, 1) := by decide +kernel
theorem own_d12_70 : decode prog_65_method_9_code 70 = .ok (.getfield 53, 3) := by decide +kernel
theorem own_d12_73 : decode prog_65_method_9_code 73 = .ok (.iload_n 1, 1) := by decide +kernel
theorem own_d12_74 : decode prog_65_method_9_code 74 = .ok (.iconst 1, 1) := by decide +kernel
theorem own_d12_75 : decode prog_65_method_9_code 75 = .ok (.isub, 1) := by decide +kernel
theorem own_d12_76 : decode prog_65_method_9_code 76 = .ok (.iconst 1, 1) := by decide +kernel
theorem own_d12_77 : decode prog_65_method_9_code 77 = .ok (.bastore, 1) := by decide +kernel
theorem own_d12_78 : decode prog_65_method_9_code 78 = .ok (.aload_n 0, 1) := by decide +kernel
theorem own_d12_79 : decode prog_65_method_9_code 79 = .ok (.dup, 1) := by decide +kernel
theorem own_d12_80 : decode prog_65_method_9_code 80 = .ok (.getfield 76, 3) := by decide +kernel
theorem own_d12_83 : decode prog_65_method_9_code 83 = .ok (.lconst 1, 1) := by decide +kernel
theorem own_d12_84 : decode prog_65_method_9_code 84 = .ok (.ladd, 1) := by decide +kernel
theorem own_d12_85 : decode prog_65_method_9_code 85 = .ok (.putfield 76, 3) := by decide +kernel
theorem own_d12_88 : decode prog_65_method_9_code 88 = .ok (.iconst 1, 1) := by decide +kernel
theorem own_d12_89 : decode prog_65_method_9_code 89 = .ok (.ireturn, 1) := by decide +kernel
theorem own_efput (m : MethodId) (d : Nat) (x : Int32) (y : Int32) (va : Int32) : entryFrame m #[(.ref d), (.int x), (.int y), (.int va)] 5 = mkF m 0 #[rv d, iv x, iv y, iv va, .unset] [] := by first | (simp [entryFrame, mkF, argsToLocals, Value.category]; done) | rfl
set_option maxRecDepth 65536 in
set_option maxHeartbeats 40000000 in
theorem own_rmput (l : Launch) (Z : State) (a0 : Array Value) (hw : ∀ d ∈ tables_1, d.before a0 Z = true) (d : Nat) (x : Int32) (y : Int32) (va : Int32) (ib kp ta ob : Nat) (q r : Nat → Nat) (kk vT vO : Nat → Int32) (vR : Nat → Nat → Int32) (cnt : Int64) (kf ky : Nat) (h0 : Heap) (n0 : Nat) (Z0 : n0 ≤ h0.size) (HA : own_Ad n0 d ib kp ta ob q r) (HD : own_D Z h0 d ib kp ta ob q r kk vT vO vR cnt) (hkf : x.toInt = ((kf + 1 : Nat) : Int)) (hky : y.toInt = ((ky + 1 : Nat) : Int)) (hf3 : kf < 3) (ht3 : ky < 3) :
    own_Ct l Z (⟨"com/example/kingsround/kingsround/engine/Deliveries", "put", "(III)Z"⟩ : MethodName) prog_65_method_9_code 5 (some .boolean) ({ frames := 0, cells := 0, slots := 0, locals := 0 } : Room) #[(.ref d), (.int x), (.int y), (.int va)] h0 (fun v h L => v = some (.int (own_pr kk vT vR kf ky)) ∧ Fr n0 L ∧ h0.size ≤ h.size ∧ own_D Z h d ib kp ta ob q r kk vT (own_pO kk vT vO vR kf ky) (own_pR kk vT vR kf ky va) (own_pc kk vT vR kf ky cnt)) := by
  refine own_body (y := (⟨"com/example/kingsround/kingsround/engine/Deliveries", "put", "(III)Z"⟩ : MethodName)) (Q := fun v h L => v = some (.int (own_pr kk vT vR kf ky)) ∧ Fr n0 L ∧ h0.size ≤ h.size ∧ own_D Z h d ib kp ta ob q r kk vT (own_pO kk vT vO vR kf ky) (own_pR kk vT vR kf ky va) (own_pc kk vT vR kf ky cnt)) (plainFor_of_name own_pn1) ?_
  intro p e s m below meth c s₁ Bd hml0 hZ e0
  have hx := Bd.exec
  have hby := Bd.bytes
  have hml : c.maxLocals = 5 := hml0
  have hown : s.vm.findClass "com/example/kingsround/kingsround/engine/Deliveries" = some m.cls := findClass_of_methodNamed Bd.named
  have hnm := (name_of_methodNamed Bd.named Bd.method).1
  have X0 : Stand p l e ({ frames := 0, cells := 0, slots := 0, locals := 0 } : Room) s m #[(.ref d), (.int x), (.int y), (.int va)] below meth c s₁ [] 0 0 := Stand.of_body Bd
  have N0 := Fr.nil n0
  rw [own_efput]
  have HD0 := HD
  obtain ⟨EE, Finboxes, Fkept, FtoAll, FoneByOne, Fcount, AI, AK, AT, AO, DVS⟩ := HD
  have if1 := own_i1 hkf
  have it1 := own_i1 hky
  have DVT := DVS ky ht3
  by_cases hE : kk kf = 0 ∧ kk ky = 0
  · skip
    have sg1 : own_V p e below s₁ (mkF m 1 #[rv d, iv x, iv y, iv va, .unset] [(.ref d)]) (mkF m 0 #[rv d, iv x, iv y, iv va, .unset] []) := by
      intro t kt
      refine XS.aloadN X0.here hx rfl (hb hby own_d12_0) rfl rfl ?_
      show own_S p e below s₁ m 1 #[rv d, iv x, iv y, iv va, .unset] [(.ref d)] _
      exact kt
    refine own_st sg1 ?_
    obtain ⟨T2, X2, e2, st2⟩ := getF X0 hx hZ hown (host := "") (Or.inl (hw _ (List.mem_of_getElem? (i := 42) rfl))) Via.refl e0 Fkept (g := (mkF m 1 #[rv d, iv x, iv y, iv va, .unset] [(.ref d)])) rfl rfl (hb hby own_d12_1)
    refine own_st st2 ?_
    show own_Go p e below _ T2 (mkF m 4 #[rv d, iv x, iv y, iv va, .unset] [(.ref kp)])
    have sg3 : own_V p e below T2 (mkF m 8 #[rv d, iv x, iv y, iv va, .unset] [(.int (kk kf))]) (mkF m 4 #[rv d, iv x, iv y, iv va, .unset] [(.ref kp)]) := by
      intro t kt
      refine XS.iloadN X2.here hx rfl (hb hby own_d12_4) rfl ?_
      show own_S p e below T2 m 5 #[rv d, iv x, iv y, iv va, .unset] [(.int x), (.ref kp)] _
      refine XS.iconst X2.here hx rfl (hb hby own_d12_5) ?_
      show own_S p e below T2 m 6 #[rv d, iv x, iv y, iv va, .unset] [(.int (1 : Int32)), (.int x), (.ref kp)] _
      refine XS.isub X2.here hx rfl (hb hby own_d12_6) rfl ?_
      show own_S p e below T2 m 7 #[rv d, iv x, iv y, iv va, .unset] [(.int (x - (1 : Int32))), (.ref kp)] _
      refine own_rdZ X2 hx hZ e2 AK if1 hf3 (g := (mkF m 7 #[rv d, iv x, iv y, iv va, .unset] [(.int (x - (1 : Int32))), (.ref kp)])) rfl rfl (hb hby own_d12_7) _ ?_
      show own_S p e below T2 m 8 #[rv d, iv x, iv y, iv va, .unset] [(.int (kk kf))] _
      exact kt
    refine own_st sg3 ?_
    have hc4 : (kk kf) = (0 : Int32) := hE.1
    have sg5 : own_V p e below T2 (mkF m 11 #[rv d, iv x, iv y, iv va, .unset] []) (mkF m 8 #[rv d, iv x, iv y, iv va, .unset] [(.int (kk kf))]) := by
      intro t kt
      refine XS.ifNo X2.here hx rfl (hb hby own_d12_8) rfl ((if0 _ _).trans (teq hc4).2) ?_
      exact kt
    refine own_st sg5 ?_
    have sg6 : own_V p e below T2 (mkF m 12 #[rv d, iv x, iv y, iv va, .unset] [(.ref d)]) (mkF m 11 #[rv d, iv x, iv y, iv va, .unset] []) := by
      intro t kt
      refine XS.aloadN X2.here hx rfl (hb hby own_d12_11) rfl rfl ?_
      show own_S p e below T2 m 12 #[rv d, iv x, iv y, iv va, .unset] [(.ref d)] _
      exact kt
    refine own_st sg6 ?_
    obtain ⟨T7, X7, e7, st7⟩ := getF X2 hx hZ hown (host := "") (Or.inl (hw _ (List.mem_of_getElem? (i := 42) rfl))) Via.refl e2 Fkept (g := (mkF m 12 #[rv d, iv x, iv y, iv va, .unset] [(.ref d)])) rfl rfl (hb hby own_d12_12)
    refine own_st st7 ?_
    show own_Go p e below _ T7 (mkF m 15 #[rv d, iv x, iv y, iv va, .unset] [(.ref kp)])
    have sg8 : own_V p e below T7 (mkF m 19 #[rv d, iv x, iv y, iv va, .unset] [(.int (kk ky))]) (mkF m 15 #[rv d, iv x, iv y, iv va, .unset] [(.ref kp)]) := by
      intro t kt
      refine XS.iloadN X7.here hx rfl (hb hby own_d12_15) rfl ?_
      show own_S p e below T7 m 16 #[rv d, iv x, iv y, iv va, .unset] [(.int y), (.ref kp)] _
      refine XS.iconst X7.here hx rfl (hb hby own_d12_16) ?_
      show own_S p e below T7 m 17 #[rv d, iv x, iv y, iv va, .unset] [(.int (1 : Int32)), (.int y), (.ref kp)] _
      refine XS.isub X7.here hx rfl (hb hby own_d12_17) rfl ?_
      show own_S p e below T7 m 18 #[rv d, iv x, iv y, iv va, .unset] [(.int (y - (1 : Int32))), (.ref kp)] _
      refine own_rdZ X7 hx hZ e7 AK it1 ht3 (g := (mkF m 18 #[rv d, iv x, iv y, iv va, .unset] [(.int (y - (1 : Int32))), (.ref kp)])) rfl rfl (hb hby own_d12_18) _ ?_
      show own_S p e below T7 m 19 #[rv d, iv x, iv y, iv va, .unset] [(.int (kk ky))] _
      exact kt
    refine own_st sg8 ?_
    have hc9 : (kk ky) = (0 : Int32) := hE.2
    have sg10 : own_V p e below T7 (mkF m 22 #[rv d, iv x, iv y, iv va, .unset] []) (mkF m 19 #[rv d, iv x, iv y, iv va, .unset] [(.int (kk ky))]) := by
      intro t kt
      refine XS.ifNo X7.here hx rfl (hb hby own_d12_19) rfl ((if0 _ _).trans (teq hc9).2) ?_
      exact kt
    refine own_st sg10 ?_
    have sg11 : own_V p e below T7 (mkF m 23 #[rv d, iv x, iv y, iv va, .unset] [(.int (1 : Int32))]) (mkF m 22 #[rv d, iv x, iv y, iv va, .unset] []) := by
      intro t kt
      refine XS.iconst X7.here hx rfl (hb hby own_d12_22) ?_
      show own_S p e below T7 m 23 #[rv d, iv x, iv y, iv va, .unset] [(.int (1 : Int32))] _
      exact kt
    refine own_st sg11 ?_
    have hF : own_pr kk vT vR kf ky = (1 : Int32) ∧ ¬ own_sto kk vT vR kf ky := ⟨if_pos hE, fun z => z.1 hE⟩
    exact own_retZ X7 hx Bd.notSynchronized Bd.returns (hb hby own_d12_23) (by decide) (by decide) (by decide) e7 ⟨by rw [hF.1], N0, Nat.le_refl _, by unfold own_pO own_pR own_pc; rw [if_neg hF.2, if_neg hF.2, if_neg hF.2]; exact HD0⟩
  obtain ⟨T12, _, ⟨h12, L12, rfl, X12, e12, N12, Z12, hh12, -⟩, st12⟩ : own_Pk p e below (fun T' f' => ∃ (h' : Heap) (locs' : List Loc), f' = (mkF m 24 #[rv d, iv x, iv y, iv va, .unset] []) ∧ Stand p l e ({ frames := 0, cells := 0, slots := 0, locals := 0 } : Room) s m #[(.ref d), (.int x), (.int y), (.int va)] below meth c T' locs' 0 0 ∧ T'.heap = h' ∧ Fr n0 locs' ∧ n0 ≤ h'.size ∧ (h' = h0 ∧ True)) s₁ (mkF m 0 #[rv d, iv x, iv y, iv va, .unset] []) := by
    have sg13 : own_V p e below s₁ (mkF m 1 #[rv d, iv x, iv y, iv va, .unset] [(.ref d)]) (mkF m 0 #[rv d, iv x, iv y, iv va, .unset] []) := by
      intro t kt
      refine XS.aloadN X0.here hx rfl (hb hby own_d12_0) rfl rfl ?_
      show own_S p e below s₁ m 1 #[rv d, iv x, iv y, iv va, .unset] [(.ref d)] _
      exact kt
    refine own_sp sg13 ?_
    obtain ⟨T14, X14, e14, st14⟩ := getF X0 hx hZ hown (host := "") (Or.inl (hw _ (List.mem_of_getElem? (i := 42) rfl))) Via.refl e0 Fkept (g := (mkF m 1 #[rv d, iv x, iv y, iv va, .unset] [(.ref d)])) rfl rfl (hb hby own_d12_1)
    refine own_sp st14 ?_
    show own_Pk p e below _ T14 (mkF m 4 #[rv d, iv x, iv y, iv va, .unset] [(.ref kp)])
    have sg15 : own_V p e below T14 (mkF m 8 #[rv d, iv x, iv y, iv va, .unset] [(.int (kk kf))]) (mkF m 4 #[rv d, iv x, iv y, iv va, .unset] [(.ref kp)]) := by
      intro t kt
      refine XS.iloadN X14.here hx rfl (hb hby own_d12_4) rfl ?_
      show own_S p e below T14 m 5 #[rv d, iv x, iv y, iv va, .unset] [(.int x), (.ref kp)] _
      refine XS.iconst X14.here hx rfl (hb hby own_d12_5) ?_
      show own_S p e below T14 m 6 #[rv d, iv x, iv y, iv va, .unset] [(.int (1 : Int32)), (.int x), (.ref kp)] _
      refine XS.isub X14.here hx rfl (hb hby own_d12_6) rfl ?_
      show own_S p e below T14 m 7 #[rv d, iv x, iv y, iv va, .unset] [(.int (x - (1 : Int32))), (.ref kp)] _
      refine own_rdZ X14 hx hZ e14 AK if1 hf3 (g := (mkF m 7 #[rv d, iv x, iv y, iv va, .unset] [(.int (x - (1 : Int32))), (.ref kp)])) rfl rfl (hb hby own_d12_7) _ ?_
      show own_S p e below T14 m 8 #[rv d, iv x, iv y, iv va, .unset] [(.int (kk kf))] _
      exact kt
    refine own_sp sg15 ?_
    by_cases hc16 : (kk kf) = (0 : Int32)
    · skip
      have sg17 : own_V p e below T14 (mkF m 11 #[rv d, iv x, iv y, iv va, .unset] []) (mkF m 8 #[rv d, iv x, iv y, iv va, .unset] [(.int (kk kf))]) := by
        intro t kt
        refine XS.ifNo X14.here hx rfl (hb hby own_d12_8) rfl ((if0 _ _).trans (teq hc16).2) ?_
        exact kt
      refine own_sp sg17 ?_
      have sg18 : own_V p e below T14 (mkF m 12 #[rv d, iv x, iv y, iv va, .unset] [(.ref d)]) (mkF m 11 #[rv d, iv x, iv y, iv va, .unset] []) := by
        intro t kt
        refine XS.aloadN X14.here hx rfl (hb hby own_d12_11) rfl rfl ?_
        show own_S p e below T14 m 12 #[rv d, iv x, iv y, iv va, .unset] [(.ref d)] _
        exact kt
      refine own_sp sg18 ?_
      obtain ⟨T19, X19, e19, st19⟩ := getF X14 hx hZ hown (host := "") (Or.inl (hw _ (List.mem_of_getElem? (i := 42) rfl))) Via.refl e14 Fkept (g := (mkF m 12 #[rv d, iv x, iv y, iv va, .unset] [(.ref d)])) rfl rfl (hb hby own_d12_12)
      refine own_sp st19 ?_
      show own_Pk p e below _ T19 (mkF m 15 #[rv d, iv x, iv y, iv va, .unset] [(.ref kp)])
      have sg20 : own_V p e below T19 (mkF m 19 #[rv d, iv x, iv y, iv va, .unset] [(.int (kk ky))]) (mkF m 15 #[rv d, iv x, iv y, iv va, .unset] [(.ref kp)]) := by
        intro t kt
        refine XS.iloadN X19.here hx rfl (hb hby own_d12_15) rfl ?_
        show own_S p e below T19 m 16 #[rv d, iv x, iv y, iv va, .unset] [(.int y), (.ref kp)] _
        refine XS.iconst X19.here hx rfl (hb hby own_d12_16) ?_
        show own_S p e below T19 m 17 #[rv d, iv x, iv y, iv va, .unset] [(.int (1 : Int32)), (.int y), (.ref kp)] _
        refine XS.isub X19.here hx rfl (hb hby own_d12_17) rfl ?_
        show own_S p e below T19 m 18 #[rv d, iv x, iv y, iv va, .unset] [(.int (y - (1 : Int32))), (.ref kp)] _
        refine own_rdZ X19 hx hZ e19 AK it1 ht3 (g := (mkF m 18 #[rv d, iv x, iv y, iv va, .unset] [(.int (y - (1 : Int32))), (.ref kp)])) rfl rfl (hb hby own_d12_18) _ ?_
        show own_S p e below T19 m 19 #[rv d, iv x, iv y, iv va, .unset] [(.int (kk ky))] _
        exact kt
      refine own_sp sg20 ?_
      have hc21 : ¬ (kk ky) = (0 : Int32) := fun z => hE ⟨hc16, z⟩
      have sg22 : own_V p e below T19 (mkF m 24 #[rv d, iv x, iv y, iv va, .unset] []) (mkF m 19 #[rv d, iv x, iv y, iv va, .unset] [(.int (kk ky))]) := by
        intro t kt
        refine XS.ifYes X19.here hx rfl (pc0 := 19) (pc' := 24) rfl (hb hby own_d12_19) rfl ((if0 _ _).trans (feq hc21).2) (by decide) (by decide) ?_
        exact kt
      refine own_sp sg22 ?_
      have hH : h0 = h0 := rfl
      exact ⟨T19, _, ⟨_, _, rfl, X19, e19, N0, Z0, ⟨rfl, trivial⟩⟩, fun t k => k⟩
    have sg23 : own_V p e below T14 (mkF m 24 #[rv d, iv x, iv y, iv va, .unset] []) (mkF m 8 #[rv d, iv x, iv y, iv va, .unset] [(.int (kk kf))]) := by
      intro t kt
      refine XS.ifYes X14.here hx rfl (pc0 := 8) (pc' := 24) rfl (hb hby own_d12_8) rfl ((if0 _ _).trans (feq hc16).2) (by decide) (by decide) ?_
      exact kt
    refine own_sp sg23 ?_
    exact ⟨T14, _, ⟨_, _, rfl, X14, e14, N0, Z0, ⟨rfl, trivial⟩⟩, fun t k => k⟩
  refine own_st st12 ?_
  show own_Go p e below _ T12 (mkF m 24 #[rv d, iv x, iv y, iv va, .unset] [])
  have e12x : T12.heap = h0 := e12.trans hh12
  have sg24 : own_V p e below T12 (mkF m 25 #[rv d, iv x, iv y, iv va, .unset] [(.ref d)]) (mkF m 24 #[rv d, iv x, iv y, iv va, .unset] []) := by
    intro t kt
    refine XS.aloadN X12.here hx rfl (hb hby own_d12_24) rfl rfl ?_
    show own_S p e below T12 m 25 #[rv d, iv x, iv y, iv va, .unset] [(.ref d)] _
    exact kt
  refine own_st sg24 ?_
  obtain ⟨T25, X25, e25, st25⟩ := getF X12 hx hZ hown (host := "") (Or.inl (hw _ (List.mem_of_getElem? (i := 13) rfl))) Via.refl e12x Finboxes (g := (mkF m 25 #[rv d, iv x, iv y, iv va, .unset] [(.ref d)])) rfl rfl (hb hby own_d12_25)
  refine own_st st25 ?_
  show own_Go p e below _ T25 (mkF m 28 #[rv d, iv x, iv y, iv va, .unset] [(.ref ib)])
  have sg26 : own_V p e below T25 (mkF m 32 #[rv d, iv x, iv y, iv va, .unset] [(.ref (q ky))]) (mkF m 28 #[rv d, iv x, iv y, iv va, .unset] [(.ref ib)]) := by
    intro t kt
    refine XS.iloadN X25.here hx rfl (hb hby own_d12_28) rfl ?_
    show own_S p e below T25 m 29 #[rv d, iv x, iv y, iv va, .unset] [(.int y), (.ref ib)] _
    refine XS.iconst X25.here hx rfl (hb hby own_d12_29) ?_
    show own_S p e below T25 m 30 #[rv d, iv x, iv y, iv va, .unset] [(.int (1 : Int32)), (.int y), (.ref ib)] _
    refine XS.isub X25.here hx rfl (hb hby own_d12_30) rfl ?_
    show own_S p e below T25 m 31 #[rv d, iv x, iv y, iv va, .unset] [(.int (y - (1 : Int32))), (.ref ib)] _
    refine own_rdR X25 hx hZ e25 AI rfl it1 ht3 (g := (mkF m 31 #[rv d, iv x, iv y, iv va, .unset] [(.int (y - (1 : Int32))), (.ref ib)])) rfl rfl (hb hby own_d12_31) _ ?_
    show own_S p e below T25 m 32 #[rv d, iv x, iv y, iv va, .unset] [(.ref (q ky))] _
    exact kt
  refine own_st sg26 ?_
  have st27 := own_getR X25 hx hZ hown (hw _ (List.mem_of_getElem? (i := 106) rfl)) e25 DVT.2.2.2.1 (g := (mkF m 32 #[rv d, iv x, iv y, iv va, .unset] [(.ref (q ky))])) rfl rfl (hb hby own_d12_32)
  refine own_st st27 ?_
  show own_Go p e below _ T25 (mkF m 35 #[rv d, iv x, iv y, iv va, .unset] [(.ref (r ky))])
  have sg28 : own_V p e below T25 (mkF m 44 #[rv d, iv x, iv y, iv va, rv (r ky)] [(.int (-1 : Int32)), (.int (vR ky kf))]) (mkF m 35 #[rv d, iv x, iv y, iv va, .unset] [(.ref (r ky))]) := by
    intro t kt
    refine XS.astore X25.here hx rfl (hb hby own_d12_35) rfl rfl (l' := #[rv d, iv x, iv y, iv va, rv (r ky)]) rfl ?_
    show own_S p e below T25 m 37 #[rv d, iv x, iv y, iv va, rv (r ky)] [] _
    refine XS.aload X25.here hx rfl (hb hby own_d12_37) rfl rfl ?_
    show own_S p e below T25 m 39 #[rv d, iv x, iv y, iv va, rv (r ky)] [(.ref (r ky))] _
    refine XS.iloadN X25.here hx rfl (hb hby own_d12_39) rfl ?_
    show own_S p e below T25 m 40 #[rv d, iv x, iv y, iv va, rv (r ky)] [(.int x), (.ref (r ky))] _
    refine XS.iconst X25.here hx rfl (hb hby own_d12_40) ?_
    show own_S p e below T25 m 41 #[rv d, iv x, iv y, iv va, rv (r ky)] [(.int (1 : Int32)), (.int x), (.ref (r ky))] _
    refine XS.isub X25.here hx rfl (hb hby own_d12_41) rfl ?_
    show own_S p e below T25 m 42 #[rv d, iv x, iv y, iv va, rv (r ky)] [(.int (x - (1 : Int32))), (.ref (r ky))] _
    refine own_rdB X25 hx hZ e25 DVT.2.2.2.2 if1 hf3 (g := (mkF m 42 #[rv d, iv x, iv y, iv va, rv (r ky)] [(.int (x - (1 : Int32))), (.ref (r ky))])) rfl rfl (hb hby own_d12_42) _ ?_
    show own_S p e below T25 m 43 #[rv d, iv x, iv y, iv va, rv (r ky)] [(.int (vR ky kf))] _
    refine XS.iconst X25.here hx rfl (hb hby own_d12_43) ?_
    show own_S p e below T25 m 44 #[rv d, iv x, iv y, iv va, rv (r ky)] [(.int (-1 : Int32)), (.int (vR ky kf))] _
    exact kt
  refine own_st sg28 ?_
  by_cases hc29 : (vR ky kf) = (-1 : Int32)
  · skip
    have sg30 : own_V p e below T25 (mkF m 47 #[rv d, iv x, iv y, iv va, rv (r ky)] []) (mkF m 44 #[rv d, iv x, iv y, iv va, rv (r ky)] [(.int (-1 : Int32)), (.int (vR ky kf))]) := by
      intro t kt
      refine XS.icmpNo X25.here hx rfl (hb hby own_d12_44) rfl (teq hc29).2 ?_
      exact kt
    refine own_st sg30 ?_
    have sg31 : own_V p e below T25 (mkF m 48 #[rv d, iv x, iv y, iv va, rv (r ky)] [(.ref d)]) (mkF m 47 #[rv d, iv x, iv y, iv va, rv (r ky)] []) := by
      intro t kt
      refine XS.aloadN X25.here hx rfl (hb hby own_d12_47) rfl rfl ?_
      show own_S p e below T25 m 48 #[rv d, iv x, iv y, iv va, rv (r ky)] [(.ref d)] _
      exact kt
    refine own_st sg31 ?_
    obtain ⟨T32, X32, e32, st32⟩ := getF X25 hx hZ hown (host := "") (Or.inl (hw _ (List.mem_of_getElem? (i := 50) rfl))) Via.refl e25 FtoAll (g := (mkF m 48 #[rv d, iv x, iv y, iv va, rv (r ky)] [(.ref d)])) rfl rfl (hb hby own_d12_48)
    refine own_st st32 ?_
    show own_Go p e below _ T32 (mkF m 51 #[rv d, iv x, iv y, iv va, rv (r ky)] [(.ref ta)])
    have sg33 : own_V p e below T32 (mkF m 56 #[rv d, iv x, iv y, iv va, rv (r ky)] [(.int (-1 : Int32)), (.int (vT kf))]) (mkF m 51 #[rv d, iv x, iv y, iv va, rv (r ky)] [(.ref ta)]) := by
      intro t kt
      refine XS.iloadN X32.here hx rfl (hb hby own_d12_51) rfl ?_
      show own_S p e below T32 m 52 #[rv d, iv x, iv y, iv va, rv (r ky)] [(.int x), (.ref ta)] _
      refine XS.iconst X32.here hx rfl (hb hby own_d12_52) ?_
      show own_S p e below T32 m 53 #[rv d, iv x, iv y, iv va, rv (r ky)] [(.int (1 : Int32)), (.int x), (.ref ta)] _
      refine XS.isub X32.here hx rfl (hb hby own_d12_53) rfl ?_
      show own_S p e below T32 m 54 #[rv d, iv x, iv y, iv va, rv (r ky)] [(.int (x - (1 : Int32))), (.ref ta)] _
      refine own_rdB X32 hx hZ e32 AT if1 hf3 (g := (mkF m 54 #[rv d, iv x, iv y, iv va, rv (r ky)] [(.int (x - (1 : Int32))), (.ref ta)])) rfl rfl (hb hby own_d12_54) _ ?_
      show own_S p e below T32 m 55 #[rv d, iv x, iv y, iv va, rv (r ky)] [(.int (vT kf))] _
      refine XS.iconst X32.here hx rfl (hb hby own_d12_55) ?_
      show own_S p e below T32 m 56 #[rv d, iv x, iv y, iv va, rv (r ky)] [(.int (-1 : Int32)), (.int (vT kf))] _
      exact kt
    refine own_st sg33 ?_
    by_cases hc34 : (vT kf) = (-1 : Int32)
    · skip
      have sg35 : own_V p e below T32 (mkF m 61 #[rv d, iv x, iv y, iv va, rv (r ky)] []) (mkF m 56 #[rv d, iv x, iv y, iv va, rv (r ky)] [(.int (-1 : Int32)), (.int (vT kf))]) := by
        intro t kt
        refine XS.icmpYes X32.here hx rfl (pc0 := 56) (pc' := 61) rfl (hb hby own_d12_56) rfl (teq hc34).1 (by decide) (by decide) ?_
        exact kt
      refine own_st sg35 ?_
      have hS : own_sto kk vT vR kf ky := ⟨hE, hc29, hc34⟩
      obtain ⟨o1, o2, o3, o4, o5, o6⟩ := HA.lo ht3
      obtain ⟨p1, p2, p3, p4, p5, p6⟩ := HA.rest
      have sg36 : own_V p e below T32 (mkF m 68 #[rv d, iv x, iv y, iv va, rv (r ky)] [(.int va.toInt8.toInt32), (.int (x - (1 : Int32))), (.ref (r ky))]) (mkF m 61 #[rv d, iv x, iv y, iv va, rv (r ky)] []) := by
        intro t kt
        refine XS.aload X32.here hx rfl (hb hby own_d12_61) rfl rfl ?_
        show own_S p e below T32 m 63 #[rv d, iv x, iv y, iv va, rv (r ky)] [(.ref (r ky))] _
        refine XS.iloadN X32.here hx rfl (hb hby own_d12_63) rfl ?_
        show own_S p e below T32 m 64 #[rv d, iv x, iv y, iv va, rv (r ky)] [(.int x), (.ref (r ky))] _
        refine XS.iconst X32.here hx rfl (hb hby own_d12_64) ?_
        show own_S p e below T32 m 65 #[rv d, iv x, iv y, iv va, rv (r ky)] [(.int (1 : Int32)), (.int x), (.ref (r ky))] _
        refine XS.isub X32.here hx rfl (hb hby own_d12_65) rfl ?_
        show own_S p e below T32 m 66 #[rv d, iv x, iv y, iv va, rv (r ky)] [(.int (x - (1 : Int32))), (.ref (r ky))] _
        refine XS.iloadN X32.here hx rfl (hb hby own_d12_66) rfl ?_
        show own_S p e below T32 m 67 #[rv d, iv x, iv y, iv va, rv (r ky)] [(.int va), (.int (x - (1 : Int32))), (.ref (r ky))] _
        refine XS.i2b X32.here hx rfl (hb hby own_d12_67) rfl ?_
        show own_S p e below T32 m 68 #[rv d, iv x, iv y, iv va, rv (r ky)] [(.int va.toInt8.toInt32), (.int (x - (1 : Int32))), (.ref (r ky))] _
        exact kt
      refine own_st sg36 ?_
      obtain ⟨T37, h37, X37, e37, W37, A37, st37⟩ := own_wrB X32 hx hZ e32 DVT.2.2.2.2 (k := kf) if1 hf3 (g := (mkF m 68 #[rv d, iv x, iv y, iv va, rv (r ky)] [(.int va.toInt8.toInt32), (.int (x - (1 : Int32))), (.ref (r ky))])) rfl rfl (hb hby own_d12_68)
      refine own_st st37 ?_
      have Z37 : n0 ≤ h37.size := by rw [Wr.size W37]; exact Z0
      have N37 := Fr.snoc X37 N12 o5
      show own_Go p e below _ T37 (mkF m 69 #[rv d, iv x, iv y, iv va, rv (r ky)] [])
      have Ka := Keep.of_wr W37
      have FoneByOnea := FoneByOne.keep Ka (own_ninS (by omega) nin0)
      have Fcounta := Fcount.keep Ka (own_ninS (by omega) nin0)
      have AOa := AO.keep Ka (own_ninS (by omega) nin0)
      have sg38 : own_V p e below T37 (mkF m 70 #[rv d, iv x, iv y, iv va, rv (r ky)] [(.ref d)]) (mkF m 69 #[rv d, iv x, iv y, iv va, rv (r ky)] []) := by
        intro t kt
        refine XS.aloadN X37.here hx rfl (hb hby own_d12_69) rfl rfl ?_
        show own_S p e below T37 m 70 #[rv d, iv x, iv y, iv va, rv (r ky)] [(.ref d)] _
        exact kt
      refine own_st sg38 ?_
      obtain ⟨T39, X39, e39, st39⟩ := getF X37 hx hZ hown (host := "") (Or.inl (hw _ (List.mem_of_getElem? (i := 53) rfl))) Via.refl e37 FoneByOnea (g := (mkF m 70 #[rv d, iv x, iv y, iv va, rv (r ky)] [(.ref d)])) rfl rfl (hb hby own_d12_70)
      refine own_st st39 ?_
      show own_Go p e below _ T39 (mkF m 73 #[rv d, iv x, iv y, iv va, rv (r ky)] [(.ref ob)])
      have sg40 : own_V p e below T39 (mkF m 77 #[rv d, iv x, iv y, iv va, rv (r ky)] [(.int (1 : Int32)), (.int (x - (1 : Int32))), (.ref ob)]) (mkF m 73 #[rv d, iv x, iv y, iv va, rv (r ky)] [(.ref ob)]) := by
        intro t kt
        refine XS.iloadN X39.here hx rfl (hb hby own_d12_73) rfl ?_
        show own_S p e below T39 m 74 #[rv d, iv x, iv y, iv va, rv (r ky)] [(.int x), (.ref ob)] _
        refine XS.iconst X39.here hx rfl (hb hby own_d12_74) ?_
        show own_S p e below T39 m 75 #[rv d, iv x, iv y, iv va, rv (r ky)] [(.int (1 : Int32)), (.int x), (.ref ob)] _
        refine XS.isub X39.here hx rfl (hb hby own_d12_75) rfl ?_
        show own_S p e below T39 m 76 #[rv d, iv x, iv y, iv va, rv (r ky)] [(.int (x - (1 : Int32))), (.ref ob)] _
        refine XS.iconst X39.here hx rfl (hb hby own_d12_76) ?_
        show own_S p e below T39 m 77 #[rv d, iv x, iv y, iv va, rv (r ky)] [(.int (1 : Int32)), (.int (x - (1 : Int32))), (.ref ob)] _
        exact kt
      refine own_st sg40 ?_
      obtain ⟨T41, h41, X41, e41, W41, A41, st41⟩ := own_wrZ X39 hx hZ e39 AOa (k := kf) if1 hf3 (g := (mkF m 77 #[rv d, iv x, iv y, iv va, rv (r ky)] [(.int (1 : Int32)), (.int (x - (1 : Int32))), (.ref ob)])) rfl rfl (hb hby own_d12_77)
      refine own_st st41 ?_
      have Z41 : n0 ≤ h41.size := by rw [Wr.size W41]; exact Z37
      have N41 := Fr.snoc X41 N37 (by omega)
      show own_Go p e below _ T41 (mkF m 78 #[rv d, iv x, iv y, iv va, rv (r ky)] [])
      have Kb := Keep.of_wr W41
      have Fcountb := Fcounta.keep Kb (own_ninS (by omega) nin0)
      have EEb := (EE.keep Ka).keep Kb
      have sg42 : own_V p e below T41 (mkF m 80 #[rv d, iv x, iv y, iv va, rv (r ky)] [(.ref d), (.ref d)]) (mkF m 78 #[rv d, iv x, iv y, iv va, rv (r ky)] []) := by
        intro t kt
        refine XS.aloadN X41.here hx rfl (hb hby own_d12_78) rfl rfl ?_
        show own_S p e below T41 m 79 #[rv d, iv x, iv y, iv va, rv (r ky)] [(.ref d)] _
        refine XS.dup X41.here hx rfl (hb hby own_d12_79) rfl rfl ?_
        show own_S p e below T41 m 80 #[rv d, iv x, iv y, iv va, rv (r ky)] [(.ref d), (.ref d)] _
        exact kt
      refine own_st sg42 ?_
      obtain ⟨T43, X43, e43, st43⟩ := getF X41 hx hZ hown (host := "") (Or.inl (hw _ (List.mem_of_getElem? (i := 87) rfl))) Via.refl e41 Fcountb (g := (mkF m 80 #[rv d, iv x, iv y, iv va, rv (r ky)] [(.ref d), (.ref d)])) rfl rfl (hb hby own_d12_80)
      refine own_st st43 ?_
      show own_Go p e below _ T43 (mkF m 83 #[rv d, iv x, iv y, iv va, rv (r ky)] [(.long cnt), (.ref d)])
      have sg44 : own_V p e below T43 (mkF m 85 #[rv d, iv x, iv y, iv va, rv (r ky)] [(.long (cnt + (1 : Int64))), (.ref d)]) (mkF m 83 #[rv d, iv x, iv y, iv va, rv (r ky)] [(.long cnt), (.ref d)]) := by
        intro t kt
        refine XS.lconst X43.here hx rfl (hb hby own_d12_83) ?_
        show own_S p e below T43 m 84 #[rv d, iv x, iv y, iv va, rv (r ky)] [(.long (1 : Int64)), (.long cnt), (.ref d)] _
        refine XS.ladd X43.here hx rfl (hb hby own_d12_84) rfl ?_
        show own_S p e below T43 m 85 #[rv d, iv x, iv y, iv va, rv (r ky)] [(.long (cnt + (1 : Int64))), (.ref d)] _
        exact kt
      refine own_st sg44 ?_
      obtain ⟨T45, h45, X45, e45, W45, st45⟩ := putF X43 hx hZ hown (host := "") (Or.inl (hw _ (List.mem_of_getElem? (i := 87) rfl))) Via.refl e43 Fcountb EEb (Or.inl (hw _ (List.mem_of_getElem? (i := 88) rfl))) (hw _ (List.mem_of_getElem? (i := 3) rfl)) (ty := .long) (by decide) rfl rfl (g := (mkF m 85 #[rv d, iv x, iv y, iv va, rv (r ky)] [(.long (cnt + (1 : Int64))), (.ref d)])) rfl rfl (hb hby own_d12_85)
      refine own_st st45 ?_
      have Z45 : n0 ≤ h45.size := by rw [Wr.size W45]; exact Z41
      have N45 := Fr.snoc X45 N41 (by omega)
      show own_Go p e below _ T45 (mkF m 88 #[rv d, iv x, iv y, iv va, rv (r ky)] [])
      have Kc := Keep.of_wr W45
      have sg46 : own_V p e below T45 (mkF m 89 #[rv d, iv x, iv y, iv va, rv (r ky)] [(.int (1 : Int32))]) (mkF m 88 #[rv d, iv x, iv y, iv va, rv (r ky)] []) := by
        intro t kt
        refine XS.iconst X45.here hx rfl (hb hby own_d12_88) ?_
        show own_S p e below T45 m 89 #[rv d, iv x, iv y, iv va, rv (r ky)] [(.int (1 : Int32))] _
        exact kt
      refine own_st sg46 ?_
      have Finboxesc := ((Finboxes.keep Ka (own_ninS (by omega) nin0)).keep Kb (own_ninS (by omega) nin0)).other W45 (Or.inr (slot_ne (Or.inr (hw _ (List.mem_of_getElem? (i := 14) rfl))) (Or.inl (hw _ (List.mem_of_getElem? (i := 88) rfl))) (by decide) (t := (.array (.object "com/example/kingsround/kingsround/engine/Deliveries$Delivered"))) (t' := .long) (by decide) (by decide)))
      have Fkeptc := ((Fkept.keep Ka (own_ninS (by omega) nin0)).keep Kb (own_ninS (by omega) nin0)).other W45 (Or.inr (slot_ne (Or.inr (hw _ (List.mem_of_getElem? (i := 43) rfl))) (Or.inl (hw _ (List.mem_of_getElem? (i := 88) rfl))) (by decide) (t := (.array .boolean)) (t' := .long) (by decide) (by decide)))
      have FtoAllc := ((FtoAll.keep Ka (own_ninS (by omega) nin0)).keep Kb (own_ninS (by omega) nin0)).other W45 (Or.inr (slot_ne (Or.inr (hw _ (List.mem_of_getElem? (i := 51) rfl))) (Or.inl (hw _ (List.mem_of_getElem? (i := 88) rfl))) (by decide) (t := (.array .byte)) (t' := .long) (by decide) (by decide)))
      have FoneByOnec := ((FoneByOne.keep Ka (own_ninS (by omega) nin0)).keep Kb (own_ninS (by omega) nin0)).other W45 (Or.inr (slot_ne (Or.inr (hw _ (List.mem_of_getElem? (i := 54) rfl))) (Or.inl (hw _ (List.mem_of_getElem? (i := 88) rfl))) (by decide) (t := (.array .boolean)) (t' := .long) (by decide) (by decide)))
      have KK : Keep h0 h45 [r ky, ob, d] := ((Keep.refl h0 [r ky, ob, d]).wr W37 (Or.inl (List.mem_of_getElem? (i := 0) rfl))).wr W41 (Or.inl (List.mem_of_getElem? (i := 1) rfl)) |>.wr W45 (Or.inl (List.mem_of_getElem? (i := 2) rfl))
      have nin : ∀ x : Nat, x ≠ r ky → x ≠ ob → x ≠ d → x ∉ [r ky, ob, d] := fun x a b c => own_ninS a (own_ninS b (own_ninS c nin0))
      have hD : ∀ i, i < 3 → own_Dv Z h45 (q i) (r i) d (Int32.ofNat (i + 1)) (own_updR vR ky kf (own_by va) i) := fun i hi => by
        by_cases hik : i = ky
        · subst hik
          have D0 := DVS i hi
          have A2 : own_AI Z h45 (r i) .byte 3 (own_updR vR i kf (own_by va) i) := ((A37.keep Kb (own_ninS (by omega) nin0)).keep Kc (own_ninS (by omega) nin0)).congr (fun j _ => by unfold own_updR; rw [if_pos rfl]; rfl)
          exact ⟨D0.1.keep KK, D0.2.1.keep KK (nin _ (by omega) (by omega) (by omega)), D0.2.2.1.keep KK (nin _ (by omega) (by omega) (by omega)), D0.2.2.2.1.keep KK (nin _ (by omega) (by omega) (by omega)), A2⟩
        · have D0 := DVS i hi
          obtain ⟨s1, s2, s3, s4, s5, -⟩ := HA.lo hi
          have s6 := o6 i hi hik
          have e1 : own_updR vR ky kf (own_by va) i = vR i := by unfold own_updR; rw [if_neg hik]
          rw [e1]
          exact D0.keep KK (nin _ s6.2 (by omega) (by omega)) (nin _ s6.1 (by omega) (by omega))
      have AOc : own_AI Z h45 ob .boolean 3 (own_upd vO kf 1) := (A41.keep Kc (own_ninS (by omega) nin0)).congr (fun j _ => rfl)
      have hF : own_pr kk vT vR kf ky = (1 : Int32) := by unfold own_pr; rw [if_neg hE, if_pos hS]
      exact own_retZ X45 hx Bd.notSynchronized Bd.returns (hb hby own_d12_89) (by decide) (by decide) (by decide) e45 ⟨by rw [hF], N45, KK.1, by unfold own_pO own_pR own_pc; rw [if_pos hS, if_pos hS, if_pos hS]; exact ⟨EEb.wr W45, Finboxesc, Fkeptc, FtoAllc, FoneByOnec, Fcountb.same W45, own_AV.keep AI KK (nin _ (by omega) (by omega) (by omega)), AK.keep KK (nin _ (by omega) (by omega) (by omega)), AT.keep KK (nin _ (by omega) (by omega) (by omega)), AOc, hD⟩⟩
    have sg47 : own_V p e below T32 (mkF m 59 #[rv d, iv x, iv y, iv va, rv (r ky)] []) (mkF m 56 #[rv d, iv x, iv y, iv va, rv (r ky)] [(.int (-1 : Int32)), (.int (vT kf))]) := by
      intro t kt
      refine XS.icmpNo X32.here hx rfl (hb hby own_d12_56) rfl (feq hc34).1 ?_
      exact kt
    refine own_st sg47 ?_
    have sg48 : own_V p e below T32 (mkF m 60 #[rv d, iv x, iv y, iv va, rv (r ky)] [(.int (0 : Int32))]) (mkF m 59 #[rv d, iv x, iv y, iv va, rv (r ky)] []) := by
      intro t kt
      refine XS.iconst X32.here hx rfl (hb hby own_d12_59) ?_
      show own_S p e below T32 m 60 #[rv d, iv x, iv y, iv va, rv (r ky)] [(.int (0 : Int32))] _
      exact kt
    refine own_st sg48 ?_
    have hF : own_pr kk vT vR kf ky = (0 : Int32) ∧ ¬ own_sto kk vT vR kf ky := by
      have hn : ¬ own_sto kk vT vR kf ky := fun z => hc34 z.2.2
      exact ⟨by unfold own_pr; rw [if_neg hE, if_neg hn], hn⟩
    exact own_retZ X32 hx Bd.notSynchronized Bd.returns (hb hby own_d12_60) (by decide) (by decide) (by decide) e32 ⟨by rw [hF.1], N12, Nat.le_refl _, by unfold own_pO own_pR own_pc; rw [if_neg hF.2, if_neg hF.2, if_neg hF.2]; exact HD0⟩
  have sg49 : own_V p e below T25 (mkF m 59 #[rv d, iv x, iv y, iv va, rv (r ky)] []) (mkF m 44 #[rv d, iv x, iv y, iv va, rv (r ky)] [(.int (-1 : Int32)), (.int (vR ky kf))]) := by
    intro t kt
    refine XS.icmpYes X25.here hx rfl (pc0 := 44) (pc' := 59) rfl (hb hby own_d12_44) rfl (feq hc29).2 (by decide) (by decide) ?_
    exact kt
  refine own_st sg49 ?_
  have sg50 : own_V p e below T25 (mkF m 60 #[rv d, iv x, iv y, iv va, rv (r ky)] [(.int (0 : Int32))]) (mkF m 59 #[rv d, iv x, iv y, iv va, rv (r ky)] []) := by
    intro t kt
    refine XS.iconst X25.here hx rfl (hb hby own_d12_59) ?_
    show own_S p e below T25 m 60 #[rv d, iv x, iv y, iv va, rv (r ky)] [(.int (0 : Int32))] _
    exact kt
  refine own_st sg50 ?_
  have hF : own_pr kk vT vR kf ky = (0 : Int32) ∧ ¬ own_sto kk vT vR kf ky := by
      have hn : ¬ own_sto kk vT vR kf ky := fun z => hc29 z.2.1
      exact ⟨by unfold own_pr; rw [if_neg hE, if_neg hn], hn⟩
  exact own_retZ X25 hx Bd.notSynchronized Bd.returns (hb hby own_d12_60) (by decide) (by decide) (by decide) e25 ⟨by rw [hF.1], N12, Nat.le_refl _, by unfold own_pO own_pR own_pc; rw [if_neg hF.2, if_neg hF.2, if_neg hF.2]; exact HD0⟩
theorem own_d8_0 : decode prog_65_method_10_code 0 = .ok (.aload_n 0, 1) := by decide +kernel
theorem own_d8_1 : decode prog_65_method_10_code 1 = .ok (.getfield 31, 3) := by decide +kernel
theorem own_d8_4 : decode prog_65_method_10_code 4 = .ok (.iload_n 1, 1) := by decide +kernel
theorem own_d8_5 : decode prog_65_method_10_code 5 = .ok (.iconst 1, 1) := by decide +kernel
theorem own_d8_6 : decode prog_65_method_10_code 6 = .ok (.isub, 1) := by decide +kernel
theorem own_d8_7 : decode prog_65_method_10_code 7 = .ok (.baload, 1) := by decide +kernel
theorem own_d8_8 : decode prog_65_method_10_code 8 = .ok (.ifCond .eq 26, 3) := by decide +kernel
theorem own_d8_11 : decode prog_65_method_10_code 11 = .ok (.aload_n 0, 1) := by decide +kernel
theorem own_d8_12 : decode prog_65_method_10_code 12 = .ok (.getfield 53, 3) := by decide +kernel
theorem own_d8_15 : decode prog_65_method_10_code 15 = .ok (.iload_n 1, 1) := by decide +kernel
theorem own_d8_16 : decode prog_65_method_10_code 16 = .ok (.iconst 1, 1) := by decide +kernel
theorem own_d8_17 : decode prog_65_method_10_code 17 = .ok (.isub, 1) := by decide +kernel
theorem own_d8_18 : decode prog_65_method_10_code 18 = .ok (.baload, 1) := by decide +kernel
theorem own_d8_19 : decode prog_65_method_10_code 19 = .ok (.ifCond .ne 15, 3) := by decide +kernel
theorem own_d8_22 : decode prog_65_method_10_code 22 = .ok (.aload_n 0, 1) := by decide +kernel
theorem own_d8_23 : decode prog_65_method_10_code 23 = .ok (.getfield 41, 3) := by decide +kernel
theorem own_d8_26 : decode prog_65_method_10_code 26 = .ok (.iload_n 1, 1) := by decide +kernel
theorem own_d8_27 : decode prog_65_method_10_code 27 = .ok (.iconst 1, 1) := by decide +kernel
theorem own_d8_28 : decode prog_65_method_10_code 28 = .ok (.isub, 1) := by decide +kernel
theorem own_d8_29 : decode prog_65_method_10_code 29 = .ok (.baload, 1) := by decide +kernel
theorem own_d8_30 : decode prog_65_method_10_code 30 = .ok (.iconst (-1), 1) := by decide +kernel
theorem own_d8_31 : decode prog_65_method_10_code 31 = .ok (.if_icmp .eq 5, 3) := by decide +kernel
theorem own_d8_34 : decode prog_65_method_10_code 34 = .ok (.iconst 0, 1) := by decide +kernel
theorem own_d8_35 : decode prog_65_method_10_code 35 = .ok (.ireturn, 1) := by decide +kernel
theorem own_d8_36 : decode prog_65_method_10_code 36 = .ok (.aload_n 0, 1) := by decide +kernel
theorem own_d8_37 : decode prog_65_method_10_code 37 = .ok (.getfield 41, 3) := by decide +kernel
theorem own_d8_40 : decode prog_65_method_10_code 40 = .ok (.iload_n 1, 1) := by decide +kernel
theorem own_d8_41 : decode prog_65_method_10_code 41 = .ok (.iconst 1, 1) := by decide +kernel
theorem own_d8_42 : decode prog_65_method_10_code 42 = .ok (.isub, 1) := by decide +kernel
theorem own_d8_43 : decode prog_65_method_10_code 43 = .ok (.iload_n 2, 1) := by decide +kernel
theorem own_d8_44 : decode prog_65_method_10_code 44 = .ok (.i2b, 1) := by decide +kernel
theorem own_d8_45 : decode prog_65_method_10_code 45 = .ok (.bastore, 1) := by decide +kernel
theorem own_d8_46 : decode prog_65_method_10_code 46 = .ok (.aload_n 0, 1) := by decide +kernel
theorem own_d8_47 : decode prog_65_method_10_code 47 = .ok (.dup, 1) := by decide +kernel
theorem own_d8_48 : decode prog_65_method_10_code 48 = .ok (.getfield 76, 3) := by decide +kernel
theorem own_d8_51 : decode prog_65_method_10_code 51 = .ok (.aload_n 0, 1) := by decide +kernel
theorem own_d8_52 : decode prog_65_method_10_code 52 = .ok (.getfield 18, 3) := by decide +kernel
theorem own_d8_55 : decode prog_65_method_10_code 55 = .ok (.arraylength, 1) := by decide +kernel
theorem own_d8_56 : decode prog_65_method_10_code 56 = .ok (.iconst 1, 1) := by decide +kernel
theorem own_d8_57 : decode prog_65_method_10_code 57 = .ok (.isub, 1) := by decide +kernel
theorem own_d8_58 : decode prog_65_method_10_code 58 = .ok (.i2l, 1) := by decide +kernel
theorem own_d8_59 : decode prog_65_method_10_code 59 = .ok (.ladd, 1) := by decide +kernel
theorem own_d8_60 : decode prog_65_method_10_code 60 = .ok (.putfield 76, 3) := by decide +kernel
theorem own_d8_63 : decode prog_65_method_10_code 63 = .ok (.iconst 1, 1) := by decide +kernel
theorem own_d8_64 : decode prog_65_method_10_code 64 = .ok (.ireturn, 1) := by decide +kernel
theorem own_efpta (m : MethodId) (d : Nat) (x : Int32) (va : Int32) : entryFrame m #[(.ref d), (.int x), (.int va)] 3 = mkF m 0 #[rv d, iv x, iv va] [] := by first | (simp [entryFrame, mkF, argsToLocals, Value.category]; done) | rfl
set_option maxRecDepth 65536 in
set_option maxHeartbeats 40000000 in
theorem own_rmpta (l : Launch) (Z : State) (a0 : Array Value) (hw : ∀ d ∈ tables_1, d.before a0 Z = true) (d : Nat) (x : Int32) (va : Int32) (ib kp ta ob : Nat) (q r : Nat → Nat) (kk vT vO : Nat → Int32) (vR : Nat → Nat → Int32) (cnt : Int64) (kf : Nat) (h0 : Heap) (n0 : Nat) (Z0 : n0 ≤ h0.size) (HA : own_Ad n0 d ib kp ta ob q r) (HD : own_D Z h0 d ib kp ta ob q r kk vT vO vR cnt) (hkf : x.toInt = ((kf + 1 : Nat) : Int)) (hf3 : kf < 3) :
    own_Ct l Z (⟨"com/example/kingsround/kingsround/engine/Deliveries", "putToAll", "(II)Z"⟩ : MethodName) prog_65_method_10_code 3 (some .boolean) ({ frames := 0, cells := 0, slots := 0, locals := 0 } : Room) #[(.ref d), (.int x), (.int va)] h0 (fun v h L => v = some (.int (own_ar kk vT vO kf)) ∧ Fr n0 L ∧ h0.size ≤ h.size ∧ own_D Z h d ib kp ta ob q r kk (own_aT kk vT vO kf va) vO vR (own_ac kk vT vO kf cnt)) := by
  refine own_body (y := (⟨"com/example/kingsround/kingsround/engine/Deliveries", "putToAll", "(II)Z"⟩ : MethodName)) (Q := fun v h L => v = some (.int (own_ar kk vT vO kf)) ∧ Fr n0 L ∧ h0.size ≤ h.size ∧ own_D Z h d ib kp ta ob q r kk (own_aT kk vT vO kf va) vO vR (own_ac kk vT vO kf cnt)) (plainFor_of_name own_pn1) ?_
  intro p e s m below meth c s₁ Bd hml0 hZ e0
  have hx := Bd.exec
  have hby := Bd.bytes
  have hml : c.maxLocals = 3 := hml0
  have hown : s.vm.findClass "com/example/kingsround/kingsround/engine/Deliveries" = some m.cls := findClass_of_methodNamed Bd.named
  have hnm := (name_of_methodNamed Bd.named Bd.method).1
  have X0 : Stand p l e ({ frames := 0, cells := 0, slots := 0, locals := 0 } : Room) s m #[(.ref d), (.int x), (.int va)] below meth c s₁ [] 0 0 := Stand.of_body Bd
  have N0 := Fr.nil n0
  rw [own_efpta]
  have HD0 := HD
  obtain ⟨EE, Finboxes, Fkept, FtoAll, FoneByOne, Fcount, AI, AK, AT, AO, DVS⟩ := HD
  have if1 := own_i1 hkf
  have sg1 : own_V p e below s₁ (mkF m 1 #[rv d, iv x, iv va] [(.ref d)]) (mkF m 0 #[rv d, iv x, iv va] []) := by
    intro t kt
    refine XS.aloadN X0.here hx rfl (hb hby own_d8_0) rfl rfl ?_
    show own_S p e below s₁ m 1 #[rv d, iv x, iv va] [(.ref d)] _
    exact kt
  refine own_st sg1 ?_
  obtain ⟨T2, X2, e2, st2⟩ := getF X0 hx hZ hown (host := "") (Or.inl (hw _ (List.mem_of_getElem? (i := 42) rfl))) Via.refl e0 Fkept (g := (mkF m 1 #[rv d, iv x, iv va] [(.ref d)])) rfl rfl (hb hby own_d8_1)
  refine own_st st2 ?_
  show own_Go p e below _ T2 (mkF m 4 #[rv d, iv x, iv va] [(.ref kp)])
  have sg3 : own_V p e below T2 (mkF m 8 #[rv d, iv x, iv va] [(.int (kk kf))]) (mkF m 4 #[rv d, iv x, iv va] [(.ref kp)]) := by
    intro t kt
    refine XS.iloadN X2.here hx rfl (hb hby own_d8_4) rfl ?_
    show own_S p e below T2 m 5 #[rv d, iv x, iv va] [(.int x), (.ref kp)] _
    refine XS.iconst X2.here hx rfl (hb hby own_d8_5) ?_
    show own_S p e below T2 m 6 #[rv d, iv x, iv va] [(.int (1 : Int32)), (.int x), (.ref kp)] _
    refine XS.isub X2.here hx rfl (hb hby own_d8_6) rfl ?_
    show own_S p e below T2 m 7 #[rv d, iv x, iv va] [(.int (x - (1 : Int32))), (.ref kp)] _
    refine own_rdZ X2 hx hZ e2 AK if1 hf3 (g := (mkF m 7 #[rv d, iv x, iv va] [(.int (x - (1 : Int32))), (.ref kp)])) rfl rfl (hb hby own_d8_7) _ ?_
    show own_S p e below T2 m 8 #[rv d, iv x, iv va] [(.int (kk kf))] _
    exact kt
  refine own_st sg3 ?_
  by_cases hc4 : (kk kf) = (0 : Int32)
  · skip
    have sg5 : own_V p e below T2 (mkF m 34 #[rv d, iv x, iv va] []) (mkF m 8 #[rv d, iv x, iv va] [(.int (kk kf))]) := by
      intro t kt
      refine XS.ifYes X2.here hx rfl (pc0 := 8) (pc' := 34) rfl (hb hby own_d8_8) rfl ((if0 _ _).trans (teq hc4).1) (by decide) (by decide) ?_
      exact kt
    refine own_st sg5 ?_
    have sg6 : own_V p e below T2 (mkF m 35 #[rv d, iv x, iv va] [(.int (0 : Int32))]) (mkF m 34 #[rv d, iv x, iv va] []) := by
      intro t kt
      refine XS.iconst X2.here hx rfl (hb hby own_d8_34) ?_
      show own_S p e below T2 m 35 #[rv d, iv x, iv va] [(.int (0 : Int32))] _
      exact kt
    refine own_st sg6 ?_
    have hn : ¬ own_ta kk vT vO kf := fun z => z.1 hc4
    have hF : own_ar kk vT vO kf = (0 : Int32) := by unfold own_ar; rw [if_neg hn]
    exact own_retZ X2 hx Bd.notSynchronized Bd.returns (hb hby own_d8_35) (by decide) (by decide) (by decide) e2 ⟨by rw [hF], N0, Nat.le_refl _, by unfold own_aT own_ac; rw [if_neg hn, if_neg hn]; exact HD0⟩
  have sg7 : own_V p e below T2 (mkF m 11 #[rv d, iv x, iv va] []) (mkF m 8 #[rv d, iv x, iv va] [(.int (kk kf))]) := by
    intro t kt
    refine XS.ifNo X2.here hx rfl (hb hby own_d8_8) rfl ((if0 _ _).trans (feq hc4).1) ?_
    exact kt
  refine own_st sg7 ?_
  have sg8 : own_V p e below T2 (mkF m 12 #[rv d, iv x, iv va] [(.ref d)]) (mkF m 11 #[rv d, iv x, iv va] []) := by
    intro t kt
    refine XS.aloadN X2.here hx rfl (hb hby own_d8_11) rfl rfl ?_
    show own_S p e below T2 m 12 #[rv d, iv x, iv va] [(.ref d)] _
    exact kt
  refine own_st sg8 ?_
  obtain ⟨T9, X9, e9, st9⟩ := getF X2 hx hZ hown (host := "") (Or.inl (hw _ (List.mem_of_getElem? (i := 53) rfl))) Via.refl e2 FoneByOne (g := (mkF m 12 #[rv d, iv x, iv va] [(.ref d)])) rfl rfl (hb hby own_d8_12)
  refine own_st st9 ?_
  show own_Go p e below _ T9 (mkF m 15 #[rv d, iv x, iv va] [(.ref ob)])
  have sg10 : own_V p e below T9 (mkF m 19 #[rv d, iv x, iv va] [(.int (vO kf))]) (mkF m 15 #[rv d, iv x, iv va] [(.ref ob)]) := by
    intro t kt
    refine XS.iloadN X9.here hx rfl (hb hby own_d8_15) rfl ?_
    show own_S p e below T9 m 16 #[rv d, iv x, iv va] [(.int x), (.ref ob)] _
    refine XS.iconst X9.here hx rfl (hb hby own_d8_16) ?_
    show own_S p e below T9 m 17 #[rv d, iv x, iv va] [(.int (1 : Int32)), (.int x), (.ref ob)] _
    refine XS.isub X9.here hx rfl (hb hby own_d8_17) rfl ?_
    show own_S p e below T9 m 18 #[rv d, iv x, iv va] [(.int (x - (1 : Int32))), (.ref ob)] _
    refine own_rdZ X9 hx hZ e9 AO if1 hf3 (g := (mkF m 18 #[rv d, iv x, iv va] [(.int (x - (1 : Int32))), (.ref ob)])) rfl rfl (hb hby own_d8_18) _ ?_
    show own_S p e below T9 m 19 #[rv d, iv x, iv va] [(.int (vO kf))] _
    exact kt
  refine own_st sg10 ?_
  by_cases hc11 : (vO kf) = (0 : Int32)
  · skip
    have sg12 : own_V p e below T9 (mkF m 22 #[rv d, iv x, iv va] []) (mkF m 19 #[rv d, iv x, iv va] [(.int (vO kf))]) := by
      intro t kt
      refine XS.ifNo X9.here hx rfl (hb hby own_d8_19) rfl ((if0 _ _).trans (teq hc11).2) ?_
      exact kt
    refine own_st sg12 ?_
    have sg13 : own_V p e below T9 (mkF m 23 #[rv d, iv x, iv va] [(.ref d)]) (mkF m 22 #[rv d, iv x, iv va] []) := by
      intro t kt
      refine XS.aloadN X9.here hx rfl (hb hby own_d8_22) rfl rfl ?_
      show own_S p e below T9 m 23 #[rv d, iv x, iv va] [(.ref d)] _
      exact kt
    refine own_st sg13 ?_
    obtain ⟨T14, X14, e14, st14⟩ := getF X9 hx hZ hown (host := "") (Or.inl (hw _ (List.mem_of_getElem? (i := 50) rfl))) Via.refl e9 FtoAll (g := (mkF m 23 #[rv d, iv x, iv va] [(.ref d)])) rfl rfl (hb hby own_d8_23)
    refine own_st st14 ?_
    show own_Go p e below _ T14 (mkF m 26 #[rv d, iv x, iv va] [(.ref ta)])
    have sg15 : own_V p e below T14 (mkF m 31 #[rv d, iv x, iv va] [(.int (-1 : Int32)), (.int (vT kf))]) (mkF m 26 #[rv d, iv x, iv va] [(.ref ta)]) := by
      intro t kt
      refine XS.iloadN X14.here hx rfl (hb hby own_d8_26) rfl ?_
      show own_S p e below T14 m 27 #[rv d, iv x, iv va] [(.int x), (.ref ta)] _
      refine XS.iconst X14.here hx rfl (hb hby own_d8_27) ?_
      show own_S p e below T14 m 28 #[rv d, iv x, iv va] [(.int (1 : Int32)), (.int x), (.ref ta)] _
      refine XS.isub X14.here hx rfl (hb hby own_d8_28) rfl ?_
      show own_S p e below T14 m 29 #[rv d, iv x, iv va] [(.int (x - (1 : Int32))), (.ref ta)] _
      refine own_rdB X14 hx hZ e14 AT if1 hf3 (g := (mkF m 29 #[rv d, iv x, iv va] [(.int (x - (1 : Int32))), (.ref ta)])) rfl rfl (hb hby own_d8_29) _ ?_
      show own_S p e below T14 m 30 #[rv d, iv x, iv va] [(.int (vT kf))] _
      refine XS.iconst X14.here hx rfl (hb hby own_d8_30) ?_
      show own_S p e below T14 m 31 #[rv d, iv x, iv va] [(.int (-1 : Int32)), (.int (vT kf))] _
      exact kt
    refine own_st sg15 ?_
    by_cases hc16 : (vT kf) = (-1 : Int32)
    · skip
      have sg17 : own_V p e below T14 (mkF m 36 #[rv d, iv x, iv va] []) (mkF m 31 #[rv d, iv x, iv va] [(.int (-1 : Int32)), (.int (vT kf))]) := by
        intro t kt
        refine XS.icmpYes X14.here hx rfl (pc0 := 31) (pc' := 36) rfl (hb hby own_d8_31) rfl (teq hc16).1 (by decide) (by decide) ?_
        exact kt
      refine own_st sg17 ?_
      have hS : own_ta kk vT vO kf := ⟨hc4, hc11, hc16⟩
      obtain ⟨p1, p2, p3, p4, p5, p6⟩ := HA.rest
      have sg18 : own_V p e below T14 (mkF m 37 #[rv d, iv x, iv va] [(.ref d)]) (mkF m 36 #[rv d, iv x, iv va] []) := by
        intro t kt
        refine XS.aloadN X14.here hx rfl (hb hby own_d8_36) rfl rfl ?_
        show own_S p e below T14 m 37 #[rv d, iv x, iv va] [(.ref d)] _
        exact kt
      refine own_st sg18 ?_
      obtain ⟨T19, X19, e19, st19⟩ := getF X14 hx hZ hown (host := "") (Or.inl (hw _ (List.mem_of_getElem? (i := 50) rfl))) Via.refl e14 FtoAll (g := (mkF m 37 #[rv d, iv x, iv va] [(.ref d)])) rfl rfl (hb hby own_d8_37)
      refine own_st st19 ?_
      show own_Go p e below _ T19 (mkF m 40 #[rv d, iv x, iv va] [(.ref ta)])
      have sg20 : own_V p e below T19 (mkF m 45 #[rv d, iv x, iv va] [(.int va.toInt8.toInt32), (.int (x - (1 : Int32))), (.ref ta)]) (mkF m 40 #[rv d, iv x, iv va] [(.ref ta)]) := by
        intro t kt
        refine XS.iloadN X19.here hx rfl (hb hby own_d8_40) rfl ?_
        show own_S p e below T19 m 41 #[rv d, iv x, iv va] [(.int x), (.ref ta)] _
        refine XS.iconst X19.here hx rfl (hb hby own_d8_41) ?_
        show own_S p e below T19 m 42 #[rv d, iv x, iv va] [(.int (1 : Int32)), (.int x), (.ref ta)] _
        refine XS.isub X19.here hx rfl (hb hby own_d8_42) rfl ?_
        show own_S p e below T19 m 43 #[rv d, iv x, iv va] [(.int (x - (1 : Int32))), (.ref ta)] _
        refine XS.iloadN X19.here hx rfl (hb hby own_d8_43) rfl ?_
        show own_S p e below T19 m 44 #[rv d, iv x, iv va] [(.int va), (.int (x - (1 : Int32))), (.ref ta)] _
        refine XS.i2b X19.here hx rfl (hb hby own_d8_44) rfl ?_
        show own_S p e below T19 m 45 #[rv d, iv x, iv va] [(.int va.toInt8.toInt32), (.int (x - (1 : Int32))), (.ref ta)] _
        exact kt
      refine own_st sg20 ?_
      obtain ⟨T21, h21, X21, e21, W21, A21, st21⟩ := own_wrB X19 hx hZ e19 AT (k := kf) if1 hf3 (g := (mkF m 45 #[rv d, iv x, iv va] [(.int va.toInt8.toInt32), (.int (x - (1 : Int32))), (.ref ta)])) rfl rfl (hb hby own_d8_45)
      refine own_st st21 ?_
      have Z21 : n0 ≤ h21.size := by rw [Wr.size W21]; exact Z0
      have N21 := Fr.snoc X21 N0 (by omega)
      show own_Go p e below _ T21 (mkF m 46 #[rv d, iv x, iv va] [])
      have Ka := Keep.of_wr W21
      have Fcounta := Fcount.keep Ka (own_ninS (by omega) nin0)
      have Finboxesa := Finboxes.keep Ka (own_ninS (by omega) nin0)
      have EEa := EE.keep Ka
      have AIa := own_AV.keep AI Ka (own_ninS (by have := (HA.lo (i := 0) (by decide)).1; omega) nin0)
      have sg22 : own_V p e below T21 (mkF m 48 #[rv d, iv x, iv va] [(.ref d), (.ref d)]) (mkF m 46 #[rv d, iv x, iv va] []) := by
        intro t kt
        refine XS.aloadN X21.here hx rfl (hb hby own_d8_46) rfl rfl ?_
        show own_S p e below T21 m 47 #[rv d, iv x, iv va] [(.ref d)] _
        refine XS.dup X21.here hx rfl (hb hby own_d8_47) rfl rfl ?_
        show own_S p e below T21 m 48 #[rv d, iv x, iv va] [(.ref d), (.ref d)] _
        exact kt
      refine own_st sg22 ?_
      obtain ⟨T23, X23, e23, st23⟩ := getF X21 hx hZ hown (host := "") (Or.inl (hw _ (List.mem_of_getElem? (i := 87) rfl))) Via.refl e21 Fcounta (g := (mkF m 48 #[rv d, iv x, iv va] [(.ref d), (.ref d)])) rfl rfl (hb hby own_d8_48)
      refine own_st st23 ?_
      show own_Go p e below _ T23 (mkF m 51 #[rv d, iv x, iv va] [(.long cnt), (.ref d)])
      have sg24 : own_V p e below T23 (mkF m 52 #[rv d, iv x, iv va] [(.ref d), (.long cnt), (.ref d)]) (mkF m 51 #[rv d, iv x, iv va] [(.long cnt), (.ref d)]) := by
        intro t kt
        refine XS.aloadN X23.here hx rfl (hb hby own_d8_51) rfl rfl ?_
        show own_S p e below T23 m 52 #[rv d, iv x, iv va] [(.ref d), (.long cnt), (.ref d)] _
        exact kt
      refine own_st sg24 ?_
      obtain ⟨T25, X25, e25, st25⟩ := getF X23 hx hZ hown (host := "") (Or.inl (hw _ (List.mem_of_getElem? (i := 13) rfl))) Via.refl e23 Finboxesa (g := (mkF m 52 #[rv d, iv x, iv va] [(.ref d), (.long cnt), (.ref d)])) rfl rfl (hb hby own_d8_52)
      refine own_st st25 ?_
      show own_Go p e below _ T25 (mkF m 55 #[rv d, iv x, iv va] [(.ref ib), (.long cnt), (.ref d)])
      have sg26 : own_V p e below T25 (mkF m 60 #[rv d, iv x, iv va] [(.long (cnt + ((3 : Int32) - (1 : Int32)).toInt64)), (.ref d)]) (mkF m 55 #[rv d, iv x, iv va] [(.ref ib), (.long cnt), (.ref d)]) := by
        intro t kt
        refine own_len (z := (3 : Int32)) X25 hx hZ e25 AIa (by decide) (g := (mkF m 55 #[rv d, iv x, iv va] [(.ref ib), (.long cnt), (.ref d)])) rfl rfl (hb hby own_d8_55) _ ?_
        show own_S p e below T25 m 56 #[rv d, iv x, iv va] [(.int (3 : Int32)), (.long cnt), (.ref d)] _
        refine XS.iconst X25.here hx rfl (hb hby own_d8_56) ?_
        show own_S p e below T25 m 57 #[rv d, iv x, iv va] [(.int (1 : Int32)), (.int (3 : Int32)), (.long cnt), (.ref d)] _
        refine XS.isub X25.here hx rfl (hb hby own_d8_57) rfl ?_
        show own_S p e below T25 m 58 #[rv d, iv x, iv va] [(.int ((3 : Int32) - (1 : Int32))), (.long cnt), (.ref d)] _
        refine XS.i2l X25.here hx rfl (hb hby own_d8_58) rfl ?_
        show own_S p e below T25 m 59 #[rv d, iv x, iv va] [(.long ((3 : Int32) - (1 : Int32)).toInt64), (.long cnt), (.ref d)] _
        refine XS.ladd X25.here hx rfl (hb hby own_d8_59) rfl ?_
        show own_S p e below T25 m 60 #[rv d, iv x, iv va] [(.long (cnt + ((3 : Int32) - (1 : Int32)).toInt64)), (.ref d)] _
        exact kt
      refine own_st sg26 ?_
      obtain ⟨T27, h27, X27, e27, W27, st27⟩ := putF X25 hx hZ hown (host := "") (Or.inl (hw _ (List.mem_of_getElem? (i := 87) rfl))) Via.refl e25 Fcounta EEa (Or.inl (hw _ (List.mem_of_getElem? (i := 88) rfl))) (hw _ (List.mem_of_getElem? (i := 3) rfl)) (ty := .long) (by decide) rfl rfl (g := (mkF m 60 #[rv d, iv x, iv va] [(.long (cnt + ((3 : Int32) - (1 : Int32)).toInt64)), (.ref d)])) rfl rfl (hb hby own_d8_60)
      refine own_st st27 ?_
      have Z27 : n0 ≤ h27.size := by rw [Wr.size W27]; exact Z21
      have N27 := Fr.snoc X27 N21 (by omega)
      show own_Go p e below _ T27 (mkF m 63 #[rv d, iv x, iv va] [])
      have Kc := Keep.of_wr W27
      have sg28 : own_V p e below T27 (mkF m 64 #[rv d, iv x, iv va] [(.int (1 : Int32))]) (mkF m 63 #[rv d, iv x, iv va] []) := by
        intro t kt
        refine XS.iconst X27.here hx rfl (hb hby own_d8_63) ?_
        show own_S p e below T27 m 64 #[rv d, iv x, iv va] [(.int (1 : Int32))] _
        exact kt
      refine own_st sg28 ?_
      have Finboxesc := (Finboxes.keep Ka (own_ninS (by omega) nin0)).other W27 (Or.inr (slot_ne (Or.inr (hw _ (List.mem_of_getElem? (i := 14) rfl))) (Or.inl (hw _ (List.mem_of_getElem? (i := 88) rfl))) (by decide) (t := (.array (.object "com/example/kingsround/kingsround/engine/Deliveries$Delivered"))) (t' := .long) (by decide) (by decide)))
      have Fkeptc := (Fkept.keep Ka (own_ninS (by omega) nin0)).other W27 (Or.inr (slot_ne (Or.inr (hw _ (List.mem_of_getElem? (i := 43) rfl))) (Or.inl (hw _ (List.mem_of_getElem? (i := 88) rfl))) (by decide) (t := (.array .boolean)) (t' := .long) (by decide) (by decide)))
      have FtoAllc := (FtoAll.keep Ka (own_ninS (by omega) nin0)).other W27 (Or.inr (slot_ne (Or.inr (hw _ (List.mem_of_getElem? (i := 51) rfl))) (Or.inl (hw _ (List.mem_of_getElem? (i := 88) rfl))) (by decide) (t := (.array .byte)) (t' := .long) (by decide) (by decide)))
      have FoneByOnec := (FoneByOne.keep Ka (own_ninS (by omega) nin0)).other W27 (Or.inr (slot_ne (Or.inr (hw _ (List.mem_of_getElem? (i := 54) rfl))) (Or.inl (hw _ (List.mem_of_getElem? (i := 88) rfl))) (by decide) (t := (.array .boolean)) (t' := .long) (by decide) (by decide)))
      have KK : Keep h0 h27 [ta, d] := ((Keep.refl h0 [ta, d]).wr W21 (Or.inl (List.mem_of_getElem? (i := 0) rfl))).wr W27 (Or.inl (List.mem_of_getElem? (i := 1) rfl))
      have nin : ∀ x : Nat, x ≠ ta → x ≠ d → x ∉ [ta, d] := fun x a b => own_ninS a (own_ninS b nin0)
      have hD : ∀ i, i < 3 → own_Dv Z h27 (q i) (r i) d (Int32.ofNat (i + 1)) (vR i) := fun i hi => by
        obtain ⟨s1, s2, s3, s4, s5, -⟩ := HA.lo hi
        exact (DVS i hi).keep KK (nin _ (by omega) (by omega)) (nin _ (by omega) (by omega))
      have ATc : own_AI Z h27 ta .byte 3 (own_upd vT kf (own_by va)) := (A21.keep Kc (own_ninS (by omega) nin0)).congr (fun j _ => rfl)
      have hF : own_ar kk vT vO kf = (1 : Int32) := by unfold own_ar; rw [if_pos hS]
      exact own_retZ X27 hx Bd.notSynchronized Bd.returns (hb hby own_d8_64) (by decide) (by decide) (by decide) e27 ⟨by rw [hF], N27, KK.1, by unfold own_aT own_ac; rw [if_pos hS, if_pos hS]; exact ⟨EEa.wr W27, Finboxesc, Fkeptc, FtoAllc, FoneByOnec, Fcounta.same W27, own_AV.keep AI KK (nin _ (by omega) (by omega)), AK.keep KK (nin _ (by omega) (by omega)), ATc, AO.keep KK (nin _ (by omega) (by omega)), hD⟩⟩
    have sg29 : own_V p e below T14 (mkF m 34 #[rv d, iv x, iv va] []) (mkF m 31 #[rv d, iv x, iv va] [(.int (-1 : Int32)), (.int (vT kf))]) := by
      intro t kt
      refine XS.icmpNo X14.here hx rfl (hb hby own_d8_31) rfl (feq hc16).1 ?_
      exact kt
    refine own_st sg29 ?_
    have sg30 : own_V p e below T14 (mkF m 35 #[rv d, iv x, iv va] [(.int (0 : Int32))]) (mkF m 34 #[rv d, iv x, iv va] []) := by
      intro t kt
      refine XS.iconst X14.here hx rfl (hb hby own_d8_34) ?_
      show own_S p e below T14 m 35 #[rv d, iv x, iv va] [(.int (0 : Int32))] _
      exact kt
    refine own_st sg30 ?_
    have hn : ¬ own_ta kk vT vO kf := fun z => hc16 z.2.2
    have hF : own_ar kk vT vO kf = (0 : Int32) := by unfold own_ar; rw [if_neg hn]
    exact own_retZ X14 hx Bd.notSynchronized Bd.returns (hb hby own_d8_35) (by decide) (by decide) (by decide) e14 ⟨by rw [hF], N0, Nat.le_refl _, by unfold own_aT own_ac; rw [if_neg hn, if_neg hn]; exact HD0⟩
  have sg31 : own_V p e below T9 (mkF m 34 #[rv d, iv x, iv va] []) (mkF m 19 #[rv d, iv x, iv va] [(.int (vO kf))]) := by
    intro t kt
    refine XS.ifYes X9.here hx rfl (pc0 := 19) (pc' := 34) rfl (hb hby own_d8_19) rfl ((if0 _ _).trans (feq hc11).2) (by decide) (by decide) ?_
    exact kt
  refine own_st sg31 ?_
  have sg32 : own_V p e below T9 (mkF m 35 #[rv d, iv x, iv va] [(.int (0 : Int32))]) (mkF m 34 #[rv d, iv x, iv va] []) := by
    intro t kt
    refine XS.iconst X9.here hx rfl (hb hby own_d8_34) ?_
    show own_S p e below T9 m 35 #[rv d, iv x, iv va] [(.int (0 : Int32))] _
    exact kt
  refine own_st sg32 ?_
  have hn : ¬ own_ta kk vT vO kf := fun z => hc11 z.2.1
  have hF : own_ar kk vT vO kf = (0 : Int32) := by unfold own_ar; rw [if_neg hn]
  exact own_retZ X9 hx Bd.notSynchronized Bd.returns (hb hby own_d8_35) (by decide) (by decide) (by decide) e9 ⟨by rw [hF], N0, Nat.le_refl _, by unfold own_aT own_ac; rw [if_neg hn, if_neg hn]; exact HD0⟩
theorem own_d11_0 : decode prog_67_method_2_code 0 = .ok (.aload_n 0, 1) := by decide +kernel
theorem own_d11_1 : decode prog_67_method_2_code 1 = .ok (.getfield 1, 3) := by decide +kernel
theorem own_d11_4 : decode prog_67_method_2_code 4 = .ok (.getfield 29, 3) := by decide +kernel
theorem own_d11_7 : decode prog_67_method_2_code 7 = .ok (.iload_n 1, 1) := by decide +kernel
theorem own_d11_8 : decode prog_67_method_2_code 8 = .ok (.iconst 1, 1) := by decide +kernel
theorem own_d11_9 : decode prog_67_method_2_code 9 = .ok (.isub, 1) := by decide +kernel
theorem own_d11_10 : decode prog_67_method_2_code 10 = .ok (.baload, 1) := by decide +kernel
theorem own_d11_11 : decode prog_67_method_2_code 11 = .ok (.istore_n 2, 1) := by decide +kernel
theorem own_d11_12 : decode prog_67_method_2_code 12 = .ok (.iload_n 2, 1) := by decide +kernel
theorem own_d11_13 : decode prog_67_method_2_code 13 = .ok (.iconst (-1), 1) := by decide +kernel
theorem own_d11_14 : decode prog_67_method_2_code 14 = .ok (.if_icmp .eq 15, 3) := by decide +kernel
theorem own_d11_17 : decode prog_67_method_2_code 17 = .ok (.iload_n 1, 1) := by decide +kernel
theorem own_d11_18 : decode prog_67_method_2_code 18 = .ok (.aload_n 0, 1) := by decide +kernel
theorem own_d11_19 : decode prog_67_method_2_code 19 = .ok (.getfield 13, 3) := by decide +kernel
theorem own_d11_22 : decode prog_67_method_2_code 22 = .ok (.if_icmp .eq 7, 3) := by decide +kernel
theorem own_d11_25 : decode prog_67_method_2_code 25 = .ok (.iload_n 2, 1) := by decide +kernel
theorem own_d11_26 : decode prog_67_method_2_code 26 = .ok (.goto 11, 3) := by decide +kernel
theorem own_d11_29 : decode prog_67_method_2_code 29 = .ok (.aload_n 0, 1) := by decide +kernel
theorem own_d11_30 : decode prog_67_method_2_code 30 = .ok (.getfield 17, 3) := by decide +kernel
theorem own_d11_33 : decode prog_67_method_2_code 33 = .ok (.iload_n 1, 1) := by decide +kernel
theorem own_d11_34 : decode prog_67_method_2_code 34 = .ok (.iconst 1, 1) := by decide +kernel
theorem own_d11_35 : decode prog_67_method_2_code 35 = .ok (.isub, 1) := by decide +kernel
theorem own_d11_36 : decode prog_67_method_2_code 36 = .ok (.baload, 1) := by decide +kernel
theorem own_d11_37 : decode prog_67_method_2_code 37 = .ok (.ireturn, 1) := by decide +kernel
theorem own_ofn (k : Nat) (hk : k < 3) : (Int32.ofNat (k + 1)).toInt = ((k + 1 : Nat) : Int) := by rcases own_lt3 hk with rfl | rfl | rfl <;> decide
theorem own_efdval (m : MethodId) (a : Nat) (x : Int32) : entryFrame m #[(.ref a), (.int x)] 3 = mkF m 0 #[rv a, iv x, .unset] [] := by first | (simp [entryFrame, mkF, argsToLocals, Value.category]; done) | rfl
set_option maxRecDepth 65536 in
set_option maxHeartbeats 40000000 in
theorem own_rmdval (l : Launch) (Z : State) (a0 : Array Value) (hw : ∀ d ∈ tables_1, d.before a0 Z = true) (a : Nat) (x : Int32) (d : Nat) (ib kp ta ob : Nat) (q r : Nat → Nat) (kk vT vO : Nat → Int32) (vR : Nat → Nat → Int32) (cnt : Int64) (kf ky : Nat) (h0 : Heap) (n0 : Nat) (Z0 : n0 ≤ h0.size) (HA : own_Ad n0 d ib kp ta ob q r) (HD : own_D Z h0 d ib kp ta ob q r kk vT vO vR cnt) (ha : a = q ky) (hkf : x.toInt = ((kf + 1 : Nat) : Int)) (hf3 : kf < 3) (ht3 : ky < 3) :
    own_Ct l Z (⟨"com/example/kingsround/kingsround/engine/Deliveries$Delivered", "value", "(I)I"⟩ : MethodName) prog_67_method_2_code 3 (some .int) ({ frames := 0, cells := 0, slots := 0, locals := 0 } : Room) #[(.ref a), (.int x)] h0 (fun v h L => v = some (.int (own_val vT vR kf ky)) ∧ Fr n0 L ∧ h = h0) := by
  refine own_body (y := (⟨"com/example/kingsround/kingsround/engine/Deliveries$Delivered", "value", "(I)I"⟩ : MethodName)) (Q := fun v h L => v = some (.int (own_val vT vR kf ky)) ∧ Fr n0 L ∧ h = h0) (plainFor_of_name own_pn2) ?_
  intro p e s m below meth c s₁ Bd hml0 hZ e0
  have hx := Bd.exec
  have hby := Bd.bytes
  have hml : c.maxLocals = 3 := hml0
  have hown : s.vm.findClass "com/example/kingsround/kingsround/engine/Deliveries$Delivered" = some m.cls := findClass_of_methodNamed Bd.named
  have hnm := (name_of_methodNamed Bd.named Bd.method).1
  have X0 : Stand p l e ({ frames := 0, cells := 0, slots := 0, locals := 0 } : Room) s m #[(.ref a), (.int x)] below meth c s₁ [] 0 0 := Stand.of_body Bd
  have N0 := Fr.nil n0
  rw [own_efdval]
  obtain ⟨EE, Finboxes, Fkept, FtoAll, FoneByOne, Fcount, AI, AK, AT, AO, DVS⟩ := HD
  subst ha
  have if1 := own_i1 hkf
  obtain ⟨EQ, Fthis, Fto, Frec, AR⟩ := DVS ky ht3
  have sg1 : own_V p e below s₁ (mkF m 1 #[rv (q ky), iv x, .unset] [(.ref (q ky))]) (mkF m 0 #[rv (q ky), iv x, .unset] []) := by
    intro t kt
    refine XS.aloadN X0.here hx rfl (hb hby own_d11_0) rfl rfl ?_
    show own_S p e below s₁ m 1 #[rv (q ky), iv x, .unset] [(.ref (q ky))] _
    exact kt
  refine own_st sg1 ?_
  obtain ⟨T2, X2, e2, st2⟩ := getF X0 hx hZ hown (host := "") (Or.inl (hw _ (List.mem_of_getElem? (i := 20) rfl))) Via.refl e0 Fthis (g := (mkF m 1 #[rv (q ky), iv x, .unset] [(.ref (q ky))])) rfl rfl (hb hby own_d11_1)
  refine own_st st2 ?_
  show own_Go p e below _ T2 (mkF m 4 #[rv (q ky), iv x, .unset] [(.ref d)])
  obtain ⟨T3, X3, e3, st3⟩ := getF X2 hx hZ hown (Or.inr (hw _ (List.mem_of_getElem? (i := 99) rfl))) Via.refl e2 FtoAll (g := (mkF m 4 #[rv (q ky), iv x, .unset] [(.ref d)])) rfl rfl (hb hby own_d11_4)
  refine own_st st3 ?_
  show own_Go p e below _ T3 (mkF m 7 #[rv (q ky), iv x, .unset] [(.ref ta)])
  have sg4 : own_V p e below T3 (mkF m 14 #[rv (q ky), iv x, iv (vT kf)] [(.int (-1 : Int32)), (.int (vT kf))]) (mkF m 7 #[rv (q ky), iv x, .unset] [(.ref ta)]) := by
    intro t kt
    refine XS.iloadN X3.here hx rfl (hb hby own_d11_7) rfl ?_
    show own_S p e below T3 m 8 #[rv (q ky), iv x, .unset] [(.int x), (.ref ta)] _
    refine XS.iconst X3.here hx rfl (hb hby own_d11_8) ?_
    show own_S p e below T3 m 9 #[rv (q ky), iv x, .unset] [(.int (1 : Int32)), (.int x), (.ref ta)] _
    refine XS.isub X3.here hx rfl (hb hby own_d11_9) rfl ?_
    show own_S p e below T3 m 10 #[rv (q ky), iv x, .unset] [(.int (x - (1 : Int32))), (.ref ta)] _
    refine own_rdB X3 hx hZ e3 AT if1 hf3 (g := (mkF m 10 #[rv (q ky), iv x, .unset] [(.int (x - (1 : Int32))), (.ref ta)])) rfl rfl (hb hby own_d11_10) _ ?_
    show own_S p e below T3 m 11 #[rv (q ky), iv x, .unset] [(.int (vT kf))] _
    refine XS.istoreN X3.here hx rfl (hb hby own_d11_11) rfl (l' := #[rv (q ky), iv x, iv (vT kf)]) rfl ?_
    show own_S p e below T3 m 12 #[rv (q ky), iv x, iv (vT kf)] [] _
    refine XS.iloadN X3.here hx rfl (hb hby own_d11_12) rfl ?_
    show own_S p e below T3 m 13 #[rv (q ky), iv x, iv (vT kf)] [(.int (vT kf))] _
    refine XS.iconst X3.here hx rfl (hb hby own_d11_13) ?_
    show own_S p e below T3 m 14 #[rv (q ky), iv x, iv (vT kf)] [(.int (-1 : Int32)), (.int (vT kf))] _
    exact kt
  refine own_st sg4 ?_
  by_cases hc5 : (vT kf) = (-1 : Int32)
  · skip
    have sg6 : own_V p e below T3 (mkF m 29 #[rv (q ky), iv x, iv (vT kf)] []) (mkF m 14 #[rv (q ky), iv x, iv (vT kf)] [(.int (-1 : Int32)), (.int (vT kf))]) := by
      intro t kt
      refine XS.icmpYes X3.here hx rfl (pc0 := 14) (pc' := 29) rfl (hb hby own_d11_14) rfl (teq hc5).1 (by decide) (by decide) ?_
      exact kt
    refine own_st sg6 ?_
    have sg7 : own_V p e below T3 (mkF m 30 #[rv (q ky), iv x, iv (vT kf)] [(.ref (q ky))]) (mkF m 29 #[rv (q ky), iv x, iv (vT kf)] []) := by
      intro t kt
      refine XS.aloadN X3.here hx rfl (hb hby own_d11_29) rfl rfl ?_
      show own_S p e below T3 m 30 #[rv (q ky), iv x, iv (vT kf)] [(.ref (q ky))] _
      exact kt
    refine own_st sg7 ?_
    obtain ⟨T8, X8, e8, st8⟩ := getF X3 hx hZ hown (host := "") (Or.inl (hw _ (List.mem_of_getElem? (i := 26) rfl))) Via.refl e3 Frec (g := (mkF m 30 #[rv (q ky), iv x, iv (vT kf)] [(.ref (q ky))])) rfl rfl (hb hby own_d11_30)
    refine own_st st8 ?_
    show own_Go p e below _ T8 (mkF m 33 #[rv (q ky), iv x, iv (vT kf)] [(.ref (r ky))])
    have sg9 : own_V p e below T8 (mkF m 37 #[rv (q ky), iv x, iv (vT kf)] [(.int (vR ky kf))]) (mkF m 33 #[rv (q ky), iv x, iv (vT kf)] [(.ref (r ky))]) := by
      intro t kt
      refine XS.iloadN X8.here hx rfl (hb hby own_d11_33) rfl ?_
      show own_S p e below T8 m 34 #[rv (q ky), iv x, iv (vT kf)] [(.int x), (.ref (r ky))] _
      refine XS.iconst X8.here hx rfl (hb hby own_d11_34) ?_
      show own_S p e below T8 m 35 #[rv (q ky), iv x, iv (vT kf)] [(.int (1 : Int32)), (.int x), (.ref (r ky))] _
      refine XS.isub X8.here hx rfl (hb hby own_d11_35) rfl ?_
      show own_S p e below T8 m 36 #[rv (q ky), iv x, iv (vT kf)] [(.int (x - (1 : Int32))), (.ref (r ky))] _
      refine own_rdB X8 hx hZ e8 AR if1 hf3 (g := (mkF m 36 #[rv (q ky), iv x, iv (vT kf)] [(.int (x - (1 : Int32))), (.ref (r ky))])) rfl rfl (hb hby own_d11_36) _ ?_
      show own_S p e below T8 m 37 #[rv (q ky), iv x, iv (vT kf)] [(.int (vR ky kf))] _
      exact kt
    refine own_st sg9 ?_
    have hF : own_val vT vR kf ky = vR ky kf := by unfold own_val; rw [if_pos hc5]
    exact own_retI X8 hx Bd.notSynchronized Bd.returns (hb hby own_d11_37) (by decide) (by decide) e8 ⟨by rw [hF], N0, rfl⟩
  have sg10 : own_V p e below T3 (mkF m 17 #[rv (q ky), iv x, iv (vT kf)] []) (mkF m 14 #[rv (q ky), iv x, iv (vT kf)] [(.int (-1 : Int32)), (.int (vT kf))]) := by
    intro t kt
    refine XS.icmpNo X3.here hx rfl (hb hby own_d11_14) rfl (feq hc5).1 ?_
    exact kt
  refine own_st sg10 ?_
  have sg11 : own_V p e below T3 (mkF m 19 #[rv (q ky), iv x, iv (vT kf)] [(.ref (q ky)), (.int x)]) (mkF m 17 #[rv (q ky), iv x, iv (vT kf)] []) := by
    intro t kt
    refine XS.iloadN X3.here hx rfl (hb hby own_d11_17) rfl ?_
    show own_S p e below T3 m 18 #[rv (q ky), iv x, iv (vT kf)] [(.int x)] _
    refine XS.aloadN X3.here hx rfl (hb hby own_d11_18) rfl rfl ?_
    show own_S p e below T3 m 19 #[rv (q ky), iv x, iv (vT kf)] [(.ref (q ky)), (.int x)] _
    exact kt
  refine own_st sg11 ?_
  obtain ⟨T12, X12, e12, st12⟩ := getF X3 hx hZ hown (host := "") (Or.inl (hw _ (List.mem_of_getElem? (i := 23) rfl))) Via.refl e3 Fto (g := (mkF m 19 #[rv (q ky), iv x, iv (vT kf)] [(.ref (q ky)), (.int x)])) rfl rfl (hb hby own_d11_19)
  refine own_st st12 ?_
  show own_Go p e below _ T12 (mkF m 22 #[rv (q ky), iv x, iv (vT kf)] [(.int (Int32.ofNat (ky + 1))), (.int x)])
  by_cases hc13 : x = (Int32.ofNat (ky + 1))
  · skip
    have sg14 : own_V p e below T12 (mkF m 29 #[rv (q ky), iv x, iv (vT kf)] []) (mkF m 22 #[rv (q ky), iv x, iv (vT kf)] [(.int (Int32.ofNat (ky + 1))), (.int x)]) := by
      intro t kt
      refine XS.icmpYes X12.here hx rfl (pc0 := 22) (pc' := 29) rfl (hb hby own_d11_22) rfl (teq hc13).1 (by decide) (by decide) ?_
      exact kt
    refine own_st sg14 ?_
    have sg15 : own_V p e below T12 (mkF m 30 #[rv (q ky), iv x, iv (vT kf)] [(.ref (q ky))]) (mkF m 29 #[rv (q ky), iv x, iv (vT kf)] []) := by
      intro t kt
      refine XS.aloadN X12.here hx rfl (hb hby own_d11_29) rfl rfl ?_
      show own_S p e below T12 m 30 #[rv (q ky), iv x, iv (vT kf)] [(.ref (q ky))] _
      exact kt
    refine own_st sg15 ?_
    obtain ⟨T16, X16, e16, st16⟩ := getF X12 hx hZ hown (host := "") (Or.inl (hw _ (List.mem_of_getElem? (i := 26) rfl))) Via.refl e12 Frec (g := (mkF m 30 #[rv (q ky), iv x, iv (vT kf)] [(.ref (q ky))])) rfl rfl (hb hby own_d11_30)
    refine own_st st16 ?_
    show own_Go p e below _ T16 (mkF m 33 #[rv (q ky), iv x, iv (vT kf)] [(.ref (r ky))])
    have sg17 : own_V p e below T16 (mkF m 37 #[rv (q ky), iv x, iv (vT kf)] [(.int (vR ky kf))]) (mkF m 33 #[rv (q ky), iv x, iv (vT kf)] [(.ref (r ky))]) := by
      intro t kt
      refine XS.iloadN X16.here hx rfl (hb hby own_d11_33) rfl ?_
      show own_S p e below T16 m 34 #[rv (q ky), iv x, iv (vT kf)] [(.int x), (.ref (r ky))] _
      refine XS.iconst X16.here hx rfl (hb hby own_d11_34) ?_
      show own_S p e below T16 m 35 #[rv (q ky), iv x, iv (vT kf)] [(.int (1 : Int32)), (.int x), (.ref (r ky))] _
      refine XS.isub X16.here hx rfl (hb hby own_d11_35) rfl ?_
      show own_S p e below T16 m 36 #[rv (q ky), iv x, iv (vT kf)] [(.int (x - (1 : Int32))), (.ref (r ky))] _
      refine own_rdB X16 hx hZ e16 AR if1 hf3 (g := (mkF m 36 #[rv (q ky), iv x, iv (vT kf)] [(.int (x - (1 : Int32))), (.ref (r ky))])) rfl rfl (hb hby own_d11_36) _ ?_
      show own_S p e below T16 m 37 #[rv (q ky), iv x, iv (vT kf)] [(.int (vR ky kf))] _
      exact kt
    refine own_st sg17 ?_
    have hF : own_val vT vR kf ky = vR ky kf := by
      have hq : kf = ky := by have z := congrArg Int32.toInt hc13; rw [hkf, own_ofn ky ht3] at z; omega
      unfold own_val; rw [if_neg hc5, if_pos hq]
    exact own_retI X16 hx Bd.notSynchronized Bd.returns (hb hby own_d11_37) (by decide) (by decide) e16 ⟨by rw [hF], N0, rfl⟩
  have sg18 : own_V p e below T12 (mkF m 25 #[rv (q ky), iv x, iv (vT kf)] []) (mkF m 22 #[rv (q ky), iv x, iv (vT kf)] [(.int (Int32.ofNat (ky + 1))), (.int x)]) := by
    intro t kt
    refine XS.icmpNo X12.here hx rfl (hb hby own_d11_22) rfl (feq hc13).1 ?_
    exact kt
  refine own_st sg18 ?_
  have sg19 : own_V p e below T12 (mkF m 37 #[rv (q ky), iv x, iv (vT kf)] [(.int (vT kf))]) (mkF m 25 #[rv (q ky), iv x, iv (vT kf)] []) := by
    intro t kt
    refine XS.iloadN X12.here hx rfl (hb hby own_d11_25) rfl ?_
    show own_S p e below T12 m 26 #[rv (q ky), iv x, iv (vT kf)] [(.int (vT kf))] _
    refine XS.goto X12.here hx rfl (pc0 := 26) (pc' := 37) rfl (hb hby own_d11_26) (by decide) (by decide) ?_
    show own_S p e below T12 m 37 #[rv (q ky), iv x, iv (vT kf)] [(.int (vT kf))] _
    exact kt
  refine own_st sg19 ?_
  have hne : ¬ kf = ky := fun z => hc13 (own_eqI (by rw [hkf, own_ofn ky ht3, z]))
  have hF : own_val vT vR kf ky = vT kf := by unfold own_val; rw [if_neg hc5, if_neg hne]
  exact own_retI X12 hx Bd.notSynchronized Bd.returns (hb hby own_d11_37) (by decide) (by decide) e12 ⟨by rw [hF], N0, rfl⟩
theorem own_d10_0 : decode prog_65_method_5_code 0 = .ok (.aload_n 0, 1) := by decide +kernel
theorem own_d10_1 : decode prog_65_method_5_code 1 = .ok (.getfield 18, 3) := by decide +kernel
theorem own_d10_4 : decode prog_65_method_5_code 4 = .ok (.iload_n 2, 1) := by decide +kernel
theorem own_d10_5 : decode prog_65_method_5_code 5 = .ok (.iconst 1, 1) := by decide +kernel
theorem own_d10_6 : decode prog_65_method_5_code 6 = .ok (.isub, 1) := by decide +kernel
theorem own_d10_7 : decode prog_65_method_5_code 7 = .ok (.aaload, 1) := by decide +kernel
theorem own_d10_8 : decode prog_65_method_5_code 8 = .ok (.iload_n 1, 1) := by decide +kernel
theorem own_d10_9 : decode prog_65_method_5_code 9 = .ok (.invokevirtual 80, 3) := by decide +kernel
theorem own_d10_12 : decode prog_65_method_5_code 12 = .ok (.ireturn, 1) := by decide +kernel
theorem own_pd5 : parseMethodDescriptor "(I)I" = some ⟨[.int], some .int⟩ := by decide +kernel
theorem own_efval (m : MethodId) (d : Nat) (x : Int32) (y : Int32) : entryFrame m #[(.ref d), (.int x), (.int y)] 3 = mkF m 0 #[rv d, iv x, iv y] [] := by first | (simp [entryFrame, mkF, argsToLocals, Value.category]; done) | rfl
set_option maxRecDepth 65536 in
set_option maxHeartbeats 40000000 in
theorem own_rmval (l : Launch) (Z : State) (a0 : Array Value) (hw : ∀ d ∈ tables_1, d.before a0 Z = true) (d : Nat) (x : Int32) (y : Int32) (ib kp ta ob : Nat) (q r : Nat → Nat) (kk vT vO : Nat → Int32) (vR : Nat → Nat → Int32) (cnt : Int64) (kf ky : Nat) (h0 : Heap) (n0 : Nat) (Z0 : n0 ≤ h0.size) (HA : own_Ad n0 d ib kp ta ob q r) (HD : own_D Z h0 d ib kp ta ob q r kk vT vO vR cnt) (hkf : x.toInt = ((kf + 1 : Nat) : Int)) (hky : y.toInt = ((ky + 1 : Nat) : Int)) (hf3 : kf < 3) (ht3 : ky < 3) :
    own_Ct l Z (⟨"com/example/kingsround/kingsround/engine/Deliveries", "value", "(II)I"⟩ : MethodName) prog_65_method_5_code 3 (some .int) ({ frames := 1, cells := 0, slots := 0, locals := 14 } : Room) #[(.ref d), (.int x), (.int y)] h0 (fun v h L => v = some (.int (own_val vT vR kf ky)) ∧ Fr n0 L ∧ h = h0) := by
  refine own_body (y := (⟨"com/example/kingsround/kingsround/engine/Deliveries", "value", "(II)I"⟩ : MethodName)) (Q := fun v h L => v = some (.int (own_val vT vR kf ky)) ∧ Fr n0 L ∧ h = h0) (plainFor_of_name own_pn1) ?_
  intro p e s m below meth c s₁ Bd hml0 hZ e0
  have hx := Bd.exec
  have hby := Bd.bytes
  have hml : c.maxLocals = 3 := hml0
  have hown : s.vm.findClass "com/example/kingsround/kingsround/engine/Deliveries" = some m.cls := findClass_of_methodNamed Bd.named
  have hnm := (name_of_methodNamed Bd.named Bd.method).1
  have X0 : Stand p l e ({ frames := 1, cells := 0, slots := 0, locals := 14 } : Room) s m #[(.ref d), (.int x), (.int y)] below meth c s₁ [] 0 0 := Stand.of_body Bd
  have N0 := Fr.nil n0
  rw [own_efval]
  have HD0 := HD
  obtain ⟨EE, Finboxes, Fkept, FtoAll, FoneByOne, Fcount, AI, AK, AT, AO, DVS⟩ := HD
  have it1 := own_i1 hky
  have sg1 : own_V p e below s₁ (mkF m 1 #[rv d, iv x, iv y] [(.ref d)]) (mkF m 0 #[rv d, iv x, iv y] []) := by
    intro t kt
    refine XS.aloadN X0.here hx rfl (hb hby own_d10_0) rfl rfl ?_
    show own_S p e below s₁ m 1 #[rv d, iv x, iv y] [(.ref d)] _
    exact kt
  refine own_st sg1 ?_
  obtain ⟨T2, X2, e2, st2⟩ := getF X0 hx hZ hown (host := "") (Or.inl (hw _ (List.mem_of_getElem? (i := 13) rfl))) Via.refl e0 Finboxes (g := (mkF m 1 #[rv d, iv x, iv y] [(.ref d)])) rfl rfl (hb hby own_d10_1)
  refine own_st st2 ?_
  show own_Go p e below _ T2 (mkF m 4 #[rv d, iv x, iv y] [(.ref ib)])
  have sg3 : own_V p e below T2 (mkF m 9 #[rv d, iv x, iv y] [(.int x), (.ref (q ky))]) (mkF m 4 #[rv d, iv x, iv y] [(.ref ib)]) := by
    intro t kt
    refine XS.iloadN X2.here hx rfl (hb hby own_d10_4) rfl ?_
    show own_S p e below T2 m 5 #[rv d, iv x, iv y] [(.int y), (.ref ib)] _
    refine XS.iconst X2.here hx rfl (hb hby own_d10_5) ?_
    show own_S p e below T2 m 6 #[rv d, iv x, iv y] [(.int (1 : Int32)), (.int y), (.ref ib)] _
    refine XS.isub X2.here hx rfl (hb hby own_d10_6) rfl ?_
    show own_S p e below T2 m 7 #[rv d, iv x, iv y] [(.int (y - (1 : Int32))), (.ref ib)] _
    refine own_rdR X2 hx hZ e2 AI rfl it1 ht3 (g := (mkF m 7 #[rv d, iv x, iv y] [(.int (y - (1 : Int32))), (.ref ib)])) rfl rfl (hb hby own_d10_7) _ ?_
    show own_S p e below T2 m 8 #[rv d, iv x, iv y] [(.ref (q ky))] _
    refine XS.iloadN X2.here hx rfl (hb hby own_d10_8) rfl ?_
    show own_S p e below T2 m 9 #[rv d, iv x, iv y] [(.int x), (.ref (q ky))] _
    exact kt
  refine own_st sg3 ?_
  obtain ⟨_, T4, L4, X4, hQ4, st4⟩ := own_callV (y := (⟨"com/example/kingsround/kingsround/engine/Deliveries$Delivered", "value", "(I)I"⟩ : MethodName)) (y0 := (⟨"com/example/kingsround/kingsround/engine/Deliveries$Delivered", "value", "(I)I"⟩ : MethodName)) (a := (q ky)) (C := "com/example/kingsround/kingsround/engine/Deliveries$Delivered") X2 hx hZ hown (DVS ky ht3).1 (hw _ (List.mem_of_getElem? (i := 94) rfl)) (hw _ (List.mem_of_getElem? (i := 95) rfl)) (hw _ (List.mem_of_getElem? (i := 97) rfl)) (notFace_of_selects (args := #[]) (mvT hZ (hw _ (List.mem_of_getElem? (i := 97) rfl)))) (hw _ (List.mem_of_getElem? (i := 96) rfl)) (hw _ (List.mem_of_getElem? (i := 16) rfl)) (hw _ (List.mem_of_getElem? (i := 98) rfl)) (by decide) (own_rmdval l Z a0 hw (q ky) x d ib kp ta ob q r kk vT vO vR cnt kf ky h0 n0 Z0 HA HD0 rfl hkf hf3 ht3) e2 (g := (mkF m 9 #[rv d, iv x, iv y] [(.int x), (.ref (q ky))])) rfl (by rw [hml]; rfl) (argsL := [(.int x)]) (rest := []) (lenOf own_pd5 rfl) rfl (W := 0) (by show 2 * 0 + _ ≤ _; exact Nat.le_of_eq rfl) (hb hby own_d10_9) (by decide) (by decide) (by decide) (by decide)
  obtain ⟨rfl, Nq4, e4⟩ := hQ4
  refine own_st st4 ?_
  have N4 := Fr.app N0 Nq4
  show own_Go p e below _ T4 (mkF m 12 #[rv d, iv x, iv y] [(.int (own_val vT vR kf ky))])
  exact own_retI X4 hx Bd.notSynchronized Bd.returns (hb hby own_d10_12) (by decide) (by decide) e4 ⟨rfl, N4, rfl⟩
def own_bi (b : Bool) : Int32 := if b then 1 else 0
def own_K (b0 b1 b2 : Bool) : Nat → Int32 := fun i => if i = 0 then own_bi b0 else if i = 1 then own_bi b1 else own_bi b2
theorem own_bit (u : Int32) (P : Prop) [Decidable P] (h : u = (if P then (0 : Int32) else (1 : Int32))) : ∃ b : Bool, nar .boolean u = own_bi b := by
  rw [h]; split
  · exact ⟨false, by decide⟩
  · exact ⟨true, by decide⟩
def own_k1 (i : Nat) : Nat := (i + 1) % 3
def own_k2 (i : Nat) : Nat := (i + 2) % 3
theorem own_and1 (x : Int32) : ∃ b : Bool, (x &&& (1 : Int32)) = own_bi b := by
  rcases and_one x with h | h
  · exact ⟨false, by rw [h]; rfl⟩
  · exact ⟨true, by rw [h]; rfl⟩
theorem own_f3 (a ff : Int32) (h : ff = ((a &&& (2147483647 : Int32)) % (3 : Int32))) : ∃ kf : Nat, ff.toInt = (kf : Int) ∧ kf < 3 := by
  have m1 : (a &&& (2147483647 : Int32)).toInt = a.toInt % ((2 ^ 31 : Nat) : Int) := c_mask a 2147483647 31 (by decide) (by decide)
  generalize (a &&& (2147483647 : Int32)) = y at *
  have a1 := (c_irem y 3 3 (by decide)).1 (by omega)
  rw [← h] at a1
  exact ⟨ff.toInt.toNat, by omega, by omega⟩
theorem own_fr (ff fr : Int32) (kf : Nat) (hf : ff.toInt = (kf : Int)) (h3 : kf < 3) (h : fr = (ff + (1 : Int32))) : fr.toInt = ((kf + 1 : Nat) : Int) := by rw [h]; exact own_addN ff 1 kf 1 hf (by decide) (by omega)
theorem own_tk (ff t u : Int32) (kf ku : Nat) (hf : ff.toInt = (kf : Int)) (h3 : kf < 3) (hu : u.toInt = (ku : Int)) (hk : ku < 3) (h : t = (((ff + u) % (3 : Int32)) + (1 : Int32))) : t.toInt = (((kf + ku) % 3 + 1 : Nat) : Int) ∧ (kf + ku) % 3 < 3 := by
  have a0 := own_addN ff u kf ku hf hu (by omega)
  generalize ff + u = z at *
  have a1 := (c_irem z 3 3 (by decide)).1 (by omega)
  have a2 := own_addN (z % 3) 1 ((kf + ku) % 3) 1 (by omega) (by decide) (by omega)
  rw [h]
  exact ⟨a2, by omega⟩
theorem own_s4 (x z : Int32) (h : z = (x &&& (3 : Int32))) : z = 0 ∨ z = 1 ∨ z = 2 ∨ z = 3 := by
  have m1 : (x &&& (3 : Int32)).toInt = x.toInt % ((2 ^ 2 : Nat) : Int) := c_mask x 3 2 (by decide) (by decide)
  rw [← h] at m1
  have m2 : z.toInt = x.toInt % 4 := m1
  have : z.toInt = 0 ∨ z.toInt = 1 ∨ z.toInt = 2 ∨ z.toInt = 3 := by omega
  rcases this with q | q | q | q
  · exact Or.inl (own_eqI (by rw [q]; decide))
  · exact Or.inr (Or.inl (own_eqI (by rw [q]; decide)))
  · exact Or.inr (Or.inr (Or.inl (own_eqI (by rw [q]; decide))))
  · exact Or.inr (Or.inr (Or.inr (own_eqI (by rw [q]; decide))))
theorem own_pd6 : parseMethodDescriptor "([Z)V" = some ⟨[(.array .boolean)], none⟩ := by decide +kernel
theorem own_pd7 : parseMethodDescriptor "(II)Z" = some ⟨[.int, .int], some .boolean⟩ := by decide +kernel
theorem own_pd8 : parseMethodDescriptor "()J" = some ⟨[], some .long⟩ := by decide +kernel
theorem own_pd9 : parseMethodDescriptor "(II)I" = some ⟨[.int, .int], some .int⟩ := by decide +kernel
def own_f_ress0 (b0 b1 b2 : Bool) (kf : Nat) (bv bw : Bool) : Int32 := (own_ar (own_K b0 b1 b2) (fun _ => -1) (fun _ => 0) kf)
def own_f_cns0 (b0 b1 b2 : Bool) (kf : Nat) (bv bw : Bool) : Int64 := (own_ac (own_K b0 b1 b2) (fun _ => -1) (fun _ => 0) kf 0)
def own_f_vas0 (b0 b1 b2 : Bool) (kf : Nat) (bv bw : Bool) : Int32 := (own_val (own_aT (own_K b0 b1 b2) (fun _ => -1) (fun _ => 0) kf (own_bi bv)) (fun _ _ => -1) kf (own_k1 kf))
def own_f_vbs0 (b0 b1 b2 : Bool) (kf : Nat) (bv bw : Bool) : Int32 := (own_val (own_aT (own_K b0 b1 b2) (fun _ => -1) (fun _ => 0) kf (own_bi bv)) (fun _ _ => -1) kf (own_k2 kf))
def own_f_vcs0 (b0 b1 b2 : Bool) (kf : Nat) (bv bw : Bool) : Int32 := (own_val (own_aT (own_K b0 b1 b2) (fun _ => -1) (fun _ => 0) kf (own_bi bv)) (fun _ _ => -1) kf kf)
def own_f_vds0 (b0 b1 b2 : Bool) (kf : Nat) (bv bw : Bool) : Int32 := (own_val (own_aT (own_K b0 b1 b2) (fun _ => -1) (fun _ => 0) kf (own_bi bv)) (fun _ _ => -1) (own_k1 kf) kf)
def own_f_pos0 (b0 b1 b2 : Bool) (kf : Nat) (bv bw : Bool) : Int32 := (0 : Int32)
def own_f_pas0 (b0 b1 b2 : Bool) (kf : Nat) (bv bw : Bool) : Int32 := (0 : Int32)
def own_f_ers0 (b0 b1 b2 : Bool) (kf : Nat) (bv bw : Bool) : Int32 := (if (own_K b0 b1 b2 kf) = (0 : Int32) then (0 : Int32) else (1 : Int32))
def own_f_e1s0 (b0 b1 b2 : Bool) (kf : Nat) (bv bw : Bool) : Int64 := (if (own_f_pos0 b0 b1 b2 kf bv bw) = (0 : Int32) then (0 : Int64) else (1 : Int64))
def own_f_e2s0 (b0 b1 b2 : Bool) (kf : Nat) (bv bw : Bool) : Int64 := (if (own_f_pas0 b0 b1 b2 kf bv bw) = (0 : Int32) then (0 : Int64) else (2 : Int64))
def own_f_e3s0 (b0 b1 b2 : Bool) (kf : Nat) (bv bw : Bool) : Int64 := (if (own_f_ers0 b0 b1 b2 kf bv bw) = (0 : Int32) then (0 : Int64) else (2 : Int64))
def own_f_ecs0 (b0 b1 b2 : Bool) (kf : Nat) (bv bw : Bool) : Int64 := (((own_f_e1s0 b0 b1 b2 kf bv bw) + (own_f_e2s0 b0 b1 b2 kf bv bw)) + (own_f_e3s0 b0 b1 b2 kf bv bw))
def own_f_x1s0 (b0 b1 b2 : Bool) (kf : Nat) (bv bw : Bool) : Int32 := (if (own_f_pas0 b0 b1 b2 kf bv bw) = (0 : Int32) then (if (own_f_ers0 b0 b1 b2 kf bv bw) = (0 : Int32) then (-1 : Int32) else (own_bi bv)) else (own_bi bw))
def own_f_x2s0 (b0 b1 b2 : Bool) (kf : Nat) (bv bw : Bool) : Int32 := (if (own_f_pas0 b0 b1 b2 kf bv bw) = (0 : Int32) then (if (own_f_ers0 b0 b1 b2 kf bv bw) = (0 : Int32) then (-1 : Int32) else (own_bi bv)) else (own_bi bw))
def own_f_xbs0 (b0 b1 b2 : Bool) (kf : Nat) (bv bw : Bool) : Int32 := (-1 : Int32)
def own_f_rrs0 (b0 b1 b2 : Bool) (kf : Nat) (bv bw : Bool) : Int32 := (if (own_f_ress0 b0 b1 b2 kf bv bw) = (own_f_ers0 b0 b1 b2 kf bv bw) then (if (own_f_cns0 b0 b1 b2 kf bv bw) = (own_f_ecs0 b0 b1 b2 kf bv bw) then (if (own_f_vas0 b0 b1 b2 kf bv bw) = (own_f_x1s0 b0 b1 b2 kf bv bw) then (if (own_f_vbs0 b0 b1 b2 kf bv bw) = (own_f_x2s0 b0 b1 b2 kf bv bw) then (if (own_f_vcs0 b0 b1 b2 kf bv bw) = (-1 : Int32) then (if (own_f_vds0 b0 b1 b2 kf bv bw) = (own_f_xbs0 b0 b1 b2 kf bv bw) then (1 : Int32) else (0 : Int32)) else (0 : Int32)) else (0 : Int32)) else (0 : Int32)) else (0 : Int32)) else (0 : Int32))
theorem own_fins0 : ∀ (b0 b1 b2 : Bool) (kf0 : Fin 3) (bv bw : Bool), own_f_rrs0 b0 b1 b2 kf0.1 bv bw = 1 := by decide +kernel
theorem own_pd10 : parseMethodDescriptor "(III)Z" = some ⟨[.int, .int, .int], some .boolean⟩ := by decide +kernel
def own_f_ress1 (b0 b1 b2 : Bool) (kf : Nat) (bv bw : Bool) : Int32 := (own_ar (own_K b0 b1 b2) (fun _ => -1) (own_pO (own_K b0 b1 b2) (fun _ => -1) (fun _ => 0) (fun _ _ => -1) kf (own_k1 kf)) kf)
def own_f_cns1 (b0 b1 b2 : Bool) (kf : Nat) (bv bw : Bool) : Int64 := (own_ac (own_K b0 b1 b2) (fun _ => -1) (own_pO (own_K b0 b1 b2) (fun _ => -1) (fun _ => 0) (fun _ _ => -1) kf (own_k1 kf)) kf (own_pc (own_K b0 b1 b2) (fun _ => -1) (fun _ _ => -1) kf (own_k1 kf) 0))
def own_f_vas1 (b0 b1 b2 : Bool) (kf : Nat) (bv bw : Bool) : Int32 := (own_val (own_aT (own_K b0 b1 b2) (fun _ => -1) (own_pO (own_K b0 b1 b2) (fun _ => -1) (fun _ => 0) (fun _ _ => -1) kf (own_k1 kf)) kf (own_bi bv)) (own_pR (own_K b0 b1 b2) (fun _ => -1) (fun _ _ => -1) kf (own_k1 kf) (own_bi bw)) kf (own_k1 kf))
def own_f_vbs1 (b0 b1 b2 : Bool) (kf : Nat) (bv bw : Bool) : Int32 := (own_val (own_aT (own_K b0 b1 b2) (fun _ => -1) (own_pO (own_K b0 b1 b2) (fun _ => -1) (fun _ => 0) (fun _ _ => -1) kf (own_k1 kf)) kf (own_bi bv)) (own_pR (own_K b0 b1 b2) (fun _ => -1) (fun _ _ => -1) kf (own_k1 kf) (own_bi bw)) kf (own_k2 kf))
def own_f_vcs1 (b0 b1 b2 : Bool) (kf : Nat) (bv bw : Bool) : Int32 := (own_val (own_aT (own_K b0 b1 b2) (fun _ => -1) (own_pO (own_K b0 b1 b2) (fun _ => -1) (fun _ => 0) (fun _ _ => -1) kf (own_k1 kf)) kf (own_bi bv)) (own_pR (own_K b0 b1 b2) (fun _ => -1) (fun _ _ => -1) kf (own_k1 kf) (own_bi bw)) kf kf)
def own_f_vds1 (b0 b1 b2 : Bool) (kf : Nat) (bv bw : Bool) : Int32 := (own_val (own_aT (own_K b0 b1 b2) (fun _ => -1) (own_pO (own_K b0 b1 b2) (fun _ => -1) (fun _ => 0) (fun _ _ => -1) kf (own_k1 kf)) kf (own_bi bv)) (own_pR (own_K b0 b1 b2) (fun _ => -1) (fun _ _ => -1) kf (own_k1 kf) (own_bi bw)) (own_k1 kf) kf)
def own_f_pos1 (b0 b1 b2 : Bool) (kf : Nat) (bv bw : Bool) : Int32 := (if (own_K b0 b1 b2 kf) = (0 : Int32) then (if (own_K b0 b1 b2 (own_k1 kf)) = (0 : Int32) then (0 : Int32) else (1 : Int32)) else (1 : Int32))
def own_f_pas1 (b0 b1 b2 : Bool) (kf : Nat) (bv bw : Bool) : Int32 := (0 : Int32)
def own_f_ers1 (b0 b1 b2 : Bool) (kf : Nat) (bv bw : Bool) : Int32 := (0 : Int32)
def own_f_e1s1 (b0 b1 b2 : Bool) (kf : Nat) (bv bw : Bool) : Int64 := (if (own_f_pos1 b0 b1 b2 kf bv bw) = (0 : Int32) then (0 : Int64) else (1 : Int64))
def own_f_e2s1 (b0 b1 b2 : Bool) (kf : Nat) (bv bw : Bool) : Int64 := (if (own_f_pas1 b0 b1 b2 kf bv bw) = (0 : Int32) then (0 : Int64) else (2 : Int64))
def own_f_e3s1 (b0 b1 b2 : Bool) (kf : Nat) (bv bw : Bool) : Int64 := (if (own_f_ers1 b0 b1 b2 kf bv bw) = (0 : Int32) then (0 : Int64) else (2 : Int64))
def own_f_ecs1 (b0 b1 b2 : Bool) (kf : Nat) (bv bw : Bool) : Int64 := (((own_f_e1s1 b0 b1 b2 kf bv bw) + (own_f_e2s1 b0 b1 b2 kf bv bw)) + (own_f_e3s1 b0 b1 b2 kf bv bw))
def own_f_x1s1 (b0 b1 b2 : Bool) (kf : Nat) (bv bw : Bool) : Int32 := (if (own_f_pas1 b0 b1 b2 kf bv bw) = (0 : Int32) then (if (own_f_ers1 b0 b1 b2 kf bv bw) = (0 : Int32) then (if (own_f_pos1 b0 b1 b2 kf bv bw) = (0 : Int32) then (-1 : Int32) else (own_bi bw)) else (own_bi bv)) else (own_bi bw))
def own_f_x2s1 (b0 b1 b2 : Bool) (kf : Nat) (bv bw : Bool) : Int32 := (if (own_f_pas1 b0 b1 b2 kf bv bw) = (0 : Int32) then (if (own_f_ers1 b0 b1 b2 kf bv bw) = (0 : Int32) then (-1 : Int32) else (own_bi bv)) else (own_bi bw))
def own_f_xbs1 (b0 b1 b2 : Bool) (kf : Nat) (bv bw : Bool) : Int32 := (-1 : Int32)
def own_f_rrs1 (b0 b1 b2 : Bool) (kf : Nat) (bv bw : Bool) : Int32 := (if (own_f_ress1 b0 b1 b2 kf bv bw) = (own_f_ers1 b0 b1 b2 kf bv bw) then (if (own_f_cns1 b0 b1 b2 kf bv bw) = (own_f_ecs1 b0 b1 b2 kf bv bw) then (if (own_f_vas1 b0 b1 b2 kf bv bw) = (own_f_x1s1 b0 b1 b2 kf bv bw) then (if (own_f_vbs1 b0 b1 b2 kf bv bw) = (own_f_x2s1 b0 b1 b2 kf bv bw) then (if (own_f_vcs1 b0 b1 b2 kf bv bw) = (-1 : Int32) then (if (own_f_vds1 b0 b1 b2 kf bv bw) = (own_f_xbs1 b0 b1 b2 kf bv bw) then (1 : Int32) else (0 : Int32)) else (0 : Int32)) else (0 : Int32)) else (0 : Int32)) else (0 : Int32)) else (0 : Int32))
theorem own_fins1 : ∀ (b0 b1 b2 : Bool) (kf0 : Fin 3) (bv bw : Bool), own_f_rrs1 b0 b1 b2 kf0.1 bv bw = 1 := by decide +kernel
def own_f_ress2 (b0 b1 b2 : Bool) (kf : Nat) (bv bw : Bool) : Int32 := (own_ar (own_K b0 b1 b2) (own_aT (own_K b0 b1 b2) (fun _ => -1) (fun _ => 0) kf (own_bi bw)) (fun _ => 0) kf)
def own_f_cns2 (b0 b1 b2 : Bool) (kf : Nat) (bv bw : Bool) : Int64 := (own_ac (own_K b0 b1 b2) (own_aT (own_K b0 b1 b2) (fun _ => -1) (fun _ => 0) kf (own_bi bw)) (fun _ => 0) kf (own_ac (own_K b0 b1 b2) (fun _ => -1) (fun _ => 0) kf 0))
def own_f_vas2 (b0 b1 b2 : Bool) (kf : Nat) (bv bw : Bool) : Int32 := (own_val (own_aT (own_K b0 b1 b2) (own_aT (own_K b0 b1 b2) (fun _ => -1) (fun _ => 0) kf (own_bi bw)) (fun _ => 0) kf (own_bi bv)) (fun _ _ => -1) kf (own_k1 kf))
def own_f_vbs2 (b0 b1 b2 : Bool) (kf : Nat) (bv bw : Bool) : Int32 := (own_val (own_aT (own_K b0 b1 b2) (own_aT (own_K b0 b1 b2) (fun _ => -1) (fun _ => 0) kf (own_bi bw)) (fun _ => 0) kf (own_bi bv)) (fun _ _ => -1) kf (own_k2 kf))
def own_f_vcs2 (b0 b1 b2 : Bool) (kf : Nat) (bv bw : Bool) : Int32 := (own_val (own_aT (own_K b0 b1 b2) (own_aT (own_K b0 b1 b2) (fun _ => -1) (fun _ => 0) kf (own_bi bw)) (fun _ => 0) kf (own_bi bv)) (fun _ _ => -1) kf kf)
def own_f_vds2 (b0 b1 b2 : Bool) (kf : Nat) (bv bw : Bool) : Int32 := (own_val (own_aT (own_K b0 b1 b2) (own_aT (own_K b0 b1 b2) (fun _ => -1) (fun _ => 0) kf (own_bi bw)) (fun _ => 0) kf (own_bi bv)) (fun _ _ => -1) (own_k1 kf) kf)
def own_f_pos2 (b0 b1 b2 : Bool) (kf : Nat) (bv bw : Bool) : Int32 := (0 : Int32)
def own_f_pas2 (b0 b1 b2 : Bool) (kf : Nat) (bv bw : Bool) : Int32 := (if (own_K b0 b1 b2 kf) = (0 : Int32) then (0 : Int32) else (1 : Int32))
def own_f_ers2 (b0 b1 b2 : Bool) (kf : Nat) (bv bw : Bool) : Int32 := (0 : Int32)
def own_f_e1s2 (b0 b1 b2 : Bool) (kf : Nat) (bv bw : Bool) : Int64 := (if (own_f_pos2 b0 b1 b2 kf bv bw) = (0 : Int32) then (0 : Int64) else (1 : Int64))
def own_f_e2s2 (b0 b1 b2 : Bool) (kf : Nat) (bv bw : Bool) : Int64 := (if (own_f_pas2 b0 b1 b2 kf bv bw) = (0 : Int32) then (0 : Int64) else (2 : Int64))
def own_f_e3s2 (b0 b1 b2 : Bool) (kf : Nat) (bv bw : Bool) : Int64 := (if (own_f_ers2 b0 b1 b2 kf bv bw) = (0 : Int32) then (0 : Int64) else (2 : Int64))
def own_f_ecs2 (b0 b1 b2 : Bool) (kf : Nat) (bv bw : Bool) : Int64 := (((own_f_e1s2 b0 b1 b2 kf bv bw) + (own_f_e2s2 b0 b1 b2 kf bv bw)) + (own_f_e3s2 b0 b1 b2 kf bv bw))
def own_f_x1s2 (b0 b1 b2 : Bool) (kf : Nat) (bv bw : Bool) : Int32 := (if (own_f_pas2 b0 b1 b2 kf bv bw) = (0 : Int32) then (if (own_f_ers2 b0 b1 b2 kf bv bw) = (0 : Int32) then (-1 : Int32) else (own_bi bv)) else (own_bi bw))
def own_f_x2s2 (b0 b1 b2 : Bool) (kf : Nat) (bv bw : Bool) : Int32 := (if (own_f_pas2 b0 b1 b2 kf bv bw) = (0 : Int32) then (if (own_f_ers2 b0 b1 b2 kf bv bw) = (0 : Int32) then (-1 : Int32) else (own_bi bv)) else (own_bi bw))
def own_f_xbs2 (b0 b1 b2 : Bool) (kf : Nat) (bv bw : Bool) : Int32 := (-1 : Int32)
def own_f_rrs2 (b0 b1 b2 : Bool) (kf : Nat) (bv bw : Bool) : Int32 := (if (own_f_ress2 b0 b1 b2 kf bv bw) = (own_f_ers2 b0 b1 b2 kf bv bw) then (if (own_f_cns2 b0 b1 b2 kf bv bw) = (own_f_ecs2 b0 b1 b2 kf bv bw) then (if (own_f_vas2 b0 b1 b2 kf bv bw) = (own_f_x1s2 b0 b1 b2 kf bv bw) then (if (own_f_vbs2 b0 b1 b2 kf bv bw) = (own_f_x2s2 b0 b1 b2 kf bv bw) then (if (own_f_vcs2 b0 b1 b2 kf bv bw) = (-1 : Int32) then (if (own_f_vds2 b0 b1 b2 kf bv bw) = (own_f_xbs2 b0 b1 b2 kf bv bw) then (1 : Int32) else (0 : Int32)) else (0 : Int32)) else (0 : Int32)) else (0 : Int32)) else (0 : Int32)) else (0 : Int32))
theorem own_fins2 : ∀ (b0 b1 b2 : Bool) (kf0 : Fin 3) (bv bw : Bool), own_f_rrs2 b0 b1 b2 kf0.1 bv bw = 1 := by decide +kernel
def own_f_ress3 (b0 b1 b2 : Bool) (kf : Nat) (bv bw : Bool) : Int32 := (own_ar (own_K b0 b1 b2) (fun _ => -1) (own_pO (own_K b0 b1 b2) (fun _ => -1) (fun _ => 0) (fun _ _ => -1) (own_k1 kf) kf) kf)
def own_f_cns3 (b0 b1 b2 : Bool) (kf : Nat) (bv bw : Bool) : Int64 := (own_ac (own_K b0 b1 b2) (fun _ => -1) (own_pO (own_K b0 b1 b2) (fun _ => -1) (fun _ => 0) (fun _ _ => -1) (own_k1 kf) kf) kf (own_pc (own_K b0 b1 b2) (fun _ => -1) (fun _ _ => -1) (own_k1 kf) kf 0))
def own_f_vas3 (b0 b1 b2 : Bool) (kf : Nat) (bv bw : Bool) : Int32 := (own_val (own_aT (own_K b0 b1 b2) (fun _ => -1) (own_pO (own_K b0 b1 b2) (fun _ => -1) (fun _ => 0) (fun _ _ => -1) (own_k1 kf) kf) kf (own_bi bv)) (own_pR (own_K b0 b1 b2) (fun _ => -1) (fun _ _ => -1) (own_k1 kf) kf (own_bi bw)) kf (own_k1 kf))
def own_f_vbs3 (b0 b1 b2 : Bool) (kf : Nat) (bv bw : Bool) : Int32 := (own_val (own_aT (own_K b0 b1 b2) (fun _ => -1) (own_pO (own_K b0 b1 b2) (fun _ => -1) (fun _ => 0) (fun _ _ => -1) (own_k1 kf) kf) kf (own_bi bv)) (own_pR (own_K b0 b1 b2) (fun _ => -1) (fun _ _ => -1) (own_k1 kf) kf (own_bi bw)) kf (own_k2 kf))
def own_f_vcs3 (b0 b1 b2 : Bool) (kf : Nat) (bv bw : Bool) : Int32 := (own_val (own_aT (own_K b0 b1 b2) (fun _ => -1) (own_pO (own_K b0 b1 b2) (fun _ => -1) (fun _ => 0) (fun _ _ => -1) (own_k1 kf) kf) kf (own_bi bv)) (own_pR (own_K b0 b1 b2) (fun _ => -1) (fun _ _ => -1) (own_k1 kf) kf (own_bi bw)) kf kf)
def own_f_vds3 (b0 b1 b2 : Bool) (kf : Nat) (bv bw : Bool) : Int32 := (own_val (own_aT (own_K b0 b1 b2) (fun _ => -1) (own_pO (own_K b0 b1 b2) (fun _ => -1) (fun _ => 0) (fun _ _ => -1) (own_k1 kf) kf) kf (own_bi bv)) (own_pR (own_K b0 b1 b2) (fun _ => -1) (fun _ _ => -1) (own_k1 kf) kf (own_bi bw)) (own_k1 kf) kf)
def own_f_pos3 (b0 b1 b2 : Bool) (kf : Nat) (bv bw : Bool) : Int32 := (if (own_K b0 b1 b2 kf) = (0 : Int32) then (if (own_K b0 b1 b2 (own_k1 kf)) = (0 : Int32) then (0 : Int32) else (1 : Int32)) else (1 : Int32))
def own_f_pas3 (b0 b1 b2 : Bool) (kf : Nat) (bv bw : Bool) : Int32 := (0 : Int32)
def own_f_ers3 (b0 b1 b2 : Bool) (kf : Nat) (bv bw : Bool) : Int32 := (if (own_K b0 b1 b2 kf) = (0 : Int32) then (0 : Int32) else (1 : Int32))
def own_f_e1s3 (b0 b1 b2 : Bool) (kf : Nat) (bv bw : Bool) : Int64 := (if (own_f_pos3 b0 b1 b2 kf bv bw) = (0 : Int32) then (0 : Int64) else (1 : Int64))
def own_f_e2s3 (b0 b1 b2 : Bool) (kf : Nat) (bv bw : Bool) : Int64 := (if (own_f_pas3 b0 b1 b2 kf bv bw) = (0 : Int32) then (0 : Int64) else (2 : Int64))
def own_f_e3s3 (b0 b1 b2 : Bool) (kf : Nat) (bv bw : Bool) : Int64 := (if (own_f_ers3 b0 b1 b2 kf bv bw) = (0 : Int32) then (0 : Int64) else (2 : Int64))
def own_f_ecs3 (b0 b1 b2 : Bool) (kf : Nat) (bv bw : Bool) : Int64 := (((own_f_e1s3 b0 b1 b2 kf bv bw) + (own_f_e2s3 b0 b1 b2 kf bv bw)) + (own_f_e3s3 b0 b1 b2 kf bv bw))
def own_f_x1s3 (b0 b1 b2 : Bool) (kf : Nat) (bv bw : Bool) : Int32 := (if (own_f_pas3 b0 b1 b2 kf bv bw) = (0 : Int32) then (if (own_f_ers3 b0 b1 b2 kf bv bw) = (0 : Int32) then (-1 : Int32) else (own_bi bv)) else (own_bi bw))
def own_f_x2s3 (b0 b1 b2 : Bool) (kf : Nat) (bv bw : Bool) : Int32 := (if (own_f_pas3 b0 b1 b2 kf bv bw) = (0 : Int32) then (if (own_f_ers3 b0 b1 b2 kf bv bw) = (0 : Int32) then (-1 : Int32) else (own_bi bv)) else (own_bi bw))
def own_f_xbs3 (b0 b1 b2 : Bool) (kf : Nat) (bv bw : Bool) : Int32 := (if (own_f_pos3 b0 b1 b2 kf bv bw) = (0 : Int32) then (-1 : Int32) else (own_bi bw))
def own_f_rrs3 (b0 b1 b2 : Bool) (kf : Nat) (bv bw : Bool) : Int32 := (if (own_f_ress3 b0 b1 b2 kf bv bw) = (own_f_ers3 b0 b1 b2 kf bv bw) then (if (own_f_cns3 b0 b1 b2 kf bv bw) = (own_f_ecs3 b0 b1 b2 kf bv bw) then (if (own_f_vas3 b0 b1 b2 kf bv bw) = (own_f_x1s3 b0 b1 b2 kf bv bw) then (if (own_f_vbs3 b0 b1 b2 kf bv bw) = (own_f_x2s3 b0 b1 b2 kf bv bw) then (if (own_f_vcs3 b0 b1 b2 kf bv bw) = (-1 : Int32) then (if (own_f_vds3 b0 b1 b2 kf bv bw) = (own_f_xbs3 b0 b1 b2 kf bv bw) then (1 : Int32) else (0 : Int32)) else (0 : Int32)) else (0 : Int32)) else (0 : Int32)) else (0 : Int32)) else (0 : Int32))
theorem own_fins3 : ∀ (b0 b1 b2 : Bool) (kf0 : Fin 3) (bv bw : Bool), own_f_rrs3 b0 b1 b2 kf0.1 bv bw = 1 := by decide +kernel
theorem own_pn5 : plainName "com/example/kingsround/kingsround/engine/DeliveriesPutToAllPinLaw" = true := by first | (simp [plainName, overriddenIn]; done) | decide +kernel
theorem own_eflaw (m : MethodId) (xk : Int32) (xa : Int32) (xs : Int32) (xv : Int32) (xw : Int32) : entryFrame m #[(.int xk), (.int xa), (.int xs), (.int xv), (.int xw)] maxLocals = mkF m 0 #[iv xk, iv xa, iv xs, iv xv, iv xw, .unset, .unset, .unset, .unset, .unset, .unset, .unset, .unset, .unset, .unset, .unset, .unset, .unset, .unset, .unset, .unset, .unset, .unset, .unset, .unset, .unset, .unset, .unset, .unset, .unset, .unset] [] := by first | (simp [entryFrame, mkF, argsToLocals, Value.category, maxLocals]; done) | rfl
set_option maxRecDepth 65536 in
set_option maxHeartbeats 40000000 in
theorem own_rmlaw (l : Launch) (Z : State) (a0 : Array Value) (hw : ∀ d ∈ tables_1, d.before a0 Z = true) (xk : Int32) (xa : Int32) (xs : Int32) (xv : Int32) (xw : Int32) (h0 : Heap) (n0 : Nat) (Z0 : n0 ≤ h0.size) :
    MetFree l Jvm.Pilot.@@N@@.x (head1 (Jvm.Cond.code Jvm.Pilot.@@N@@.x code maxLocals ret :: tables_1) room_1) (fun a U => a = #[(.int xk), (.int xa), (.int xs), (.int xv), (.int xw)] ∧ Z.Warmed39 U.vm ∧ U.heap = h0) (fun _ _ _ _ _ => True) (fun _ U o U' => ∃ v L, o = .returned v ∧ (fun v h L => v = some (.int 1) ∧ Fr n0 L) v U'.heap L ∧ FrameEnd U o U' L 15 48) := by
  refine own_body (y := Jvm.Pilot.@@N@@.x) (Q := fun v h L => v = some (.int 1) ∧ Fr n0 L) (plainFor_of_name own_pn5) ?_
  intro p e s m below meth c s₁ Bd hml0 hZ e0
  have hx := Bd.exec
  have hby := Bd.bytes
  have hml : c.maxLocals = 31 := hml0
  have hown : s.vm.findClass "com/example/kingsround/kingsround/engine/DeliveriesPutToAllPinLaw" = some m.cls := findClass_of_methodNamed Bd.named
  have hnm := (name_of_methodNamed Bd.named Bd.method).1
  have X0 : Stand p l e room_1 s m #[(.int xk), (.int xa), (.int xs), (.int xv), (.int xw)] below meth c s₁ [] 0 0 := Stand.of_body Bd
  have N0 := Fr.nil n0
  rw [own_eflaw]
  have sg1 : own_V p e below s₁ (mkF m 1 #[iv xk, iv xa, iv xs, iv xv, iv xw, .unset, .unset, .unset, .unset, .unset, .unset, .unset, .unset, .unset, .unset, .unset, .unset, .unset, .unset, .unset, .unset, .unset, .unset, .unset, .unset, .unset, .unset, .unset, .unset, .unset, .unset] [(.int (3 : Int32))]) (mkF m 0 #[iv xk, iv xa, iv xs, iv xv, iv xw, .unset, .unset, .unset, .unset, .unset, .unset, .unset, .unset, .unset, .unset, .unset, .unset, .unset, .unset, .unset, .unset, .unset, .unset, .unset, .unset, .unset, .unset, .unset, .unset, .unset, .unset] []) := by
    intro t kt
    refine XS.iconst X0.here hx rfl (hb hby at_0) ?_
    show own_S p e below s₁ m 1 #[iv xk, iv xa, iv xs, iv xv, iv xw, .unset, .unset, .unset, .unset, .unset, .unset, .unset, .unset, .unset, .unset, .unset, .unset, .unset, .unset, .unset, .unset, .unset, .unset, .unset, .unset, .unset, .unset, .unset, .unset, .unset, .unset] [(.int (3 : Int32))] _
    exact kt
  refine own_st sg1 ?_
  obtain ⟨T2, h2, a2, g2, X2, e2, E2, A2, C2, st2⟩ := own_newPE (n := 3) X0 hx hZ (hw _ (List.mem_of_getElem? (i := 0) rfl)) e0 (by decide) rfl (g := (mkF m 1 #[iv xk, iv xa, iv xs, iv xv, iv xw, .unset, .unset, .unset, .unset, .unset, .unset, .unset, .unset, .unset, .unset, .unset, .unset, .unset, .unset, .unset, .unset, .unset, .unset, .unset, .unset, .unset, .unset, .unset, .unset, .unset, .unset] [(.int (3 : Int32))])) rfl rfl (hb hby at_1) (cap := 3) (by decide) (by decide) (by decide) (by decide) (ad := "[Z") (by decide)
  refine own_st st2 ?_
  have g_a2 : n0 ≤ a2 := by rw [g2]; exact Z0
  have Z2 : n0 ≤ h2.size := Nat.le_trans Z0 E2.1
  have B2 : own_AI Z h2 a2 .boolean 3 (fun _ => 0) := A2
  show own_Go p e below _ T2 (mkF m 3 #[iv xk, iv xa, iv xs, iv xv, iv xw, .unset, .unset, .unset, .unset, .unset, .unset, .unset, .unset, .unset, .unset, .unset, .unset, .unset, .unset, .unset, .unset, .unset, .unset, .unset, .unset, .unset, .unset, .unset, .unset, .unset, .unset] [(.ref a2)])
  obtain ⟨u0, hu0⟩ : ∃ z : Int32, z = (if (xk &&& (1 : Int32)) = (0 : Int32) then (0 : Int32) else (1 : Int32)) := ⟨_, rfl⟩
  have sg4 : own_V p e below T2 (mkF m 19 #[iv xk, iv xa, iv xs, iv xv, iv xw, rv a2, .unset, .unset, .unset, .unset, .unset, .unset, .unset, .unset, .unset, .unset, .unset, .unset, .unset, .unset, .unset, .unset, .unset, .unset, .unset, .unset, .unset, .unset, .unset, .unset, .unset] [(.int u0), (.int (0 : Int32)), (.ref a2)]) (mkF m 3 #[iv xk, iv xa, iv xs, iv xv, iv xw, .unset, .unset, .unset, .unset, .unset, .unset, .unset, .unset, .unset, .unset, .unset, .unset, .unset, .unset, .unset, .unset, .unset, .unset, .unset, .unset, .unset, .unset, .unset, .unset, .unset, .unset] [(.ref a2)]) := by
    intro t kt
    refine XS.astore X2.here hx rfl (hb hby at_3) rfl rfl (l' := #[iv xk, iv xa, iv xs, iv xv, iv xw, rv a2, .unset, .unset, .unset, .unset, .unset, .unset, .unset, .unset, .unset, .unset, .unset, .unset, .unset, .unset, .unset, .unset, .unset, .unset, .unset, .unset, .unset, .unset, .unset, .unset, .unset]) rfl ?_
    show own_S p e below T2 m 5 #[iv xk, iv xa, iv xs, iv xv, iv xw, rv a2, .unset, .unset, .unset, .unset, .unset, .unset, .unset, .unset, .unset, .unset, .unset, .unset, .unset, .unset, .unset, .unset, .unset, .unset, .unset, .unset, .unset, .unset, .unset, .unset, .unset] [] _
    refine XS.aload X2.here hx rfl (hb hby at_5) rfl rfl ?_
    show own_S p e below T2 m 7 #[iv xk, iv xa, iv xs, iv xv, iv xw, rv a2, .unset, .unset, .unset, .unset, .unset, .unset, .unset, .unset, .unset, .unset, .unset, .unset, .unset, .unset, .unset, .unset, .unset, .unset, .unset, .unset, .unset, .unset, .unset, .unset, .unset] [(.ref a2)] _
    refine XS.iconst X2.here hx rfl (hb hby at_7) ?_
    show own_S p e below T2 m 8 #[iv xk, iv xa, iv xs, iv xv, iv xw, rv a2, .unset, .unset, .unset, .unset, .unset, .unset, .unset, .unset, .unset, .unset, .unset, .unset, .unset, .unset, .unset, .unset, .unset, .unset, .unset, .unset, .unset, .unset, .unset, .unset, .unset] [(.int (0 : Int32)), (.ref a2)] _
    refine XS.iloadN X2.here hx rfl (hb hby at_8) rfl ?_
    show own_S p e below T2 m 9 #[iv xk, iv xa, iv xs, iv xv, iv xw, rv a2, .unset, .unset, .unset, .unset, .unset, .unset, .unset, .unset, .unset, .unset, .unset, .unset, .unset, .unset, .unset, .unset, .unset, .unset, .unset, .unset, .unset, .unset, .unset, .unset, .unset] [(.int xk), (.int (0 : Int32)), (.ref a2)] _
    refine XS.iconst X2.here hx rfl (hb hby at_9) ?_
    show own_S p e below T2 m 10 #[iv xk, iv xa, iv xs, iv xv, iv xw, rv a2, .unset, .unset, .unset, .unset, .unset, .unset, .unset, .unset, .unset, .unset, .unset, .unset, .unset, .unset, .unset, .unset, .unset, .unset, .unset, .unset, .unset, .unset, .unset, .unset, .unset] [(.int (1 : Int32)), (.int xk), (.int (0 : Int32)), (.ref a2)] _
    refine XS.iand X2.here hx rfl (hb hby at_10) rfl ?_
    show own_S p e below T2 m 11 #[iv xk, iv xa, iv xs, iv xv, iv xw, rv a2, .unset, .unset, .unset, .unset, .unset, .unset, .unset, .unset, .unset, .unset, .unset, .unset, .unset, .unset, .unset, .unset, .unset, .unset, .unset, .unset, .unset, .unset, .unset, .unset, .unset] [(.int (xk &&& (1 : Int32))), (.int (0 : Int32)), (.ref a2)] _
    by_cases hc3 : (xk &&& (1 : Int32)) = (0 : Int32)
    · refine XS.ifYes X2.here hx rfl (pc0 := 11) (pc' := 18) rfl (hb hby at_11) rfl ((if0 _ _).trans (teq hc3).1) (by decide) (by decide) ?_
      show own_S p e below T2 m 18 #[iv xk, iv xa, iv xs, iv xv, iv xw, rv a2, .unset, .unset, .unset, .unset, .unset, .unset, .unset, .unset, .unset, .unset, .unset, .unset, .unset, .unset, .unset, .unset, .unset, .unset, .unset, .unset, .unset, .unset, .unset, .unset, .unset] [(.int (0 : Int32)), (.ref a2)] _
      refine XS.iconst X2.here hx rfl (hb hby at_18) ?_
      show own_S p e below T2 m 19 #[iv xk, iv xa, iv xs, iv xv, iv xw, rv a2, .unset, .unset, .unset, .unset, .unset, .unset, .unset, .unset, .unset, .unset, .unset, .unset, .unset, .unset, .unset, .unset, .unset, .unset, .unset, .unset, .unset, .unset, .unset, .unset, .unset] [(.int (0 : Int32)), (.int (0 : Int32)), (.ref a2)] _
      rw [show u0 = (0 : Int32) from by rw [hu0, if_pos hc3]] at kt
      exact kt
    · refine XS.ifNo X2.here hx rfl (hb hby at_11) rfl ((if0 _ _).trans (feq hc3).1) ?_
      show own_S p e below T2 m 14 #[iv xk, iv xa, iv xs, iv xv, iv xw, rv a2, .unset, .unset, .unset, .unset, .unset, .unset, .unset, .unset, .unset, .unset, .unset, .unset, .unset, .unset, .unset, .unset, .unset, .unset, .unset, .unset, .unset, .unset, .unset, .unset, .unset] [(.int (0 : Int32)), (.ref a2)] _
      refine XS.iconst X2.here hx rfl (hb hby at_14) ?_
      show own_S p e below T2 m 15 #[iv xk, iv xa, iv xs, iv xv, iv xw, rv a2, .unset, .unset, .unset, .unset, .unset, .unset, .unset, .unset, .unset, .unset, .unset, .unset, .unset, .unset, .unset, .unset, .unset, .unset, .unset, .unset, .unset, .unset, .unset, .unset, .unset] [(.int (1 : Int32)), (.int (0 : Int32)), (.ref a2)] _
      refine XS.goto X2.here hx rfl (pc0 := 15) (pc' := 19) rfl (hb hby at_15) (by decide) (by decide) ?_
      show own_S p e below T2 m 19 #[iv xk, iv xa, iv xs, iv xv, iv xw, rv a2, .unset, .unset, .unset, .unset, .unset, .unset, .unset, .unset, .unset, .unset, .unset, .unset, .unset, .unset, .unset, .unset, .unset, .unset, .unset, .unset, .unset, .unset, .unset, .unset, .unset] [(.int (1 : Int32)), (.int (0 : Int32)), (.ref a2)] _
      rw [show u0 = (1 : Int32) from by rw [hu0, if_neg hc3]] at kt
      exact kt
  refine own_st sg4 ?_
  obtain ⟨T5, h5, X5, e5, W5, A5, st5⟩ := own_wrZ X2 hx hZ e2 B2 (k := 0) (by decide) (by decide) (g := (mkF m 19 #[iv xk, iv xa, iv xs, iv xv, iv xw, rv a2, .unset, .unset, .unset, .unset, .unset, .unset, .unset, .unset, .unset, .unset, .unset, .unset, .unset, .unset, .unset, .unset, .unset, .unset, .unset, .unset, .unset, .unset, .unset, .unset, .unset] [(.int u0), (.int (0 : Int32)), (.ref a2)])) rfl rfl (hb hby at_19)
  refine own_st st5 ?_
  have Z5 : n0 ≤ h5.size := by rw [Wr.size W5]; exact Z2
  have N5 := Fr.snoc X5 N0 g_a2
  show own_Go p e below _ T5 (mkF m 20 #[iv xk, iv xa, iv xs, iv xv, iv xw, rv a2, .unset, .unset, .unset, .unset, .unset, .unset, .unset, .unset, .unset, .unset, .unset, .unset, .unset, .unset, .unset, .unset, .unset, .unset, .unset, .unset, .unset, .unset, .unset, .unset, .unset] [])
  have EK0 := C2.wr W5
  obtain ⟨b0, hbb0⟩ := own_bit u0 _ hu0
  obtain ⟨u1, hu1⟩ : ∃ z : Int32, z = (if (xk &&& (2 : Int32)) = (0 : Int32) then (0 : Int32) else (1 : Int32)) := ⟨_, rfl⟩
  have sg7 : own_V p e below T5 (mkF m 34 #[iv xk, iv xa, iv xs, iv xv, iv xw, rv a2, .unset, .unset, .unset, .unset, .unset, .unset, .unset, .unset, .unset, .unset, .unset, .unset, .unset, .unset, .unset, .unset, .unset, .unset, .unset, .unset, .unset, .unset, .unset, .unset, .unset] [(.int u1), (.int (1 : Int32)), (.ref a2)]) (mkF m 20 #[iv xk, iv xa, iv xs, iv xv, iv xw, rv a2, .unset, .unset, .unset, .unset, .unset, .unset, .unset, .unset, .unset, .unset, .unset, .unset, .unset, .unset, .unset, .unset, .unset, .unset, .unset, .unset, .unset, .unset, .unset, .unset, .unset] []) := by
    intro t kt
    refine XS.aload X5.here hx rfl (hb hby at_20) rfl rfl ?_
    show own_S p e below T5 m 22 #[iv xk, iv xa, iv xs, iv xv, iv xw, rv a2, .unset, .unset, .unset, .unset, .unset, .unset, .unset, .unset, .unset, .unset, .unset, .unset, .unset, .unset, .unset, .unset, .unset, .unset, .unset, .unset, .unset, .unset, .unset, .unset, .unset] [(.ref a2)] _
    refine XS.iconst X5.here hx rfl (hb hby at_22) ?_
    show own_S p e below T5 m 23 #[iv xk, iv xa, iv xs, iv xv, iv xw, rv a2, .unset, .unset, .unset, .unset, .unset, .unset, .unset, .unset, .unset, .unset, .unset, .unset, .unset, .unset, .unset, .unset, .unset, .unset, .unset, .unset, .unset, .unset, .unset, .unset, .unset] [(.int (1 : Int32)), (.ref a2)] _
    refine XS.iloadN X5.here hx rfl (hb hby at_23) rfl ?_
    show own_S p e below T5 m 24 #[iv xk, iv xa, iv xs, iv xv, iv xw, rv a2, .unset, .unset, .unset, .unset, .unset, .unset, .unset, .unset, .unset, .unset, .unset, .unset, .unset, .unset, .unset, .unset, .unset, .unset, .unset, .unset, .unset, .unset, .unset, .unset, .unset] [(.int xk), (.int (1 : Int32)), (.ref a2)] _
    refine XS.iconst X5.here hx rfl (hb hby at_24) ?_
    show own_S p e below T5 m 25 #[iv xk, iv xa, iv xs, iv xv, iv xw, rv a2, .unset, .unset, .unset, .unset, .unset, .unset, .unset, .unset, .unset, .unset, .unset, .unset, .unset, .unset, .unset, .unset, .unset, .unset, .unset, .unset, .unset, .unset, .unset, .unset, .unset] [(.int (2 : Int32)), (.int xk), (.int (1 : Int32)), (.ref a2)] _
    refine XS.iand X5.here hx rfl (hb hby at_25) rfl ?_
    show own_S p e below T5 m 26 #[iv xk, iv xa, iv xs, iv xv, iv xw, rv a2, .unset, .unset, .unset, .unset, .unset, .unset, .unset, .unset, .unset, .unset, .unset, .unset, .unset, .unset, .unset, .unset, .unset, .unset, .unset, .unset, .unset, .unset, .unset, .unset, .unset] [(.int (xk &&& (2 : Int32))), (.int (1 : Int32)), (.ref a2)] _
    by_cases hc6 : (xk &&& (2 : Int32)) = (0 : Int32)
    · refine XS.ifYes X5.here hx rfl (pc0 := 26) (pc' := 33) rfl (hb hby at_26) rfl ((if0 _ _).trans (teq hc6).1) (by decide) (by decide) ?_
      show own_S p e below T5 m 33 #[iv xk, iv xa, iv xs, iv xv, iv xw, rv a2, .unset, .unset, .unset, .unset, .unset, .unset, .unset, .unset, .unset, .unset, .unset, .unset, .unset, .unset, .unset, .unset, .unset, .unset, .unset, .unset, .unset, .unset, .unset, .unset, .unset] [(.int (1 : Int32)), (.ref a2)] _
      refine XS.iconst X5.here hx rfl (hb hby at_33) ?_
      show own_S p e below T5 m 34 #[iv xk, iv xa, iv xs, iv xv, iv xw, rv a2, .unset, .unset, .unset, .unset, .unset, .unset, .unset, .unset, .unset, .unset, .unset, .unset, .unset, .unset, .unset, .unset, .unset, .unset, .unset, .unset, .unset, .unset, .unset, .unset, .unset] [(.int (0 : Int32)), (.int (1 : Int32)), (.ref a2)] _
      rw [show u1 = (0 : Int32) from by rw [hu1, if_pos hc6]] at kt
      exact kt
    · refine XS.ifNo X5.here hx rfl (hb hby at_26) rfl ((if0 _ _).trans (feq hc6).1) ?_
      show own_S p e below T5 m 29 #[iv xk, iv xa, iv xs, iv xv, iv xw, rv a2, .unset, .unset, .unset, .unset, .unset, .unset, .unset, .unset, .unset, .unset, .unset, .unset, .unset, .unset, .unset, .unset, .unset, .unset, .unset, .unset, .unset, .unset, .unset, .unset, .unset] [(.int (1 : Int32)), (.ref a2)] _
      refine XS.iconst X5.here hx rfl (hb hby at_29) ?_
      show own_S p e below T5 m 30 #[iv xk, iv xa, iv xs, iv xv, iv xw, rv a2, .unset, .unset, .unset, .unset, .unset, .unset, .unset, .unset, .unset, .unset, .unset, .unset, .unset, .unset, .unset, .unset, .unset, .unset, .unset, .unset, .unset, .unset, .unset, .unset, .unset] [(.int (1 : Int32)), (.int (1 : Int32)), (.ref a2)] _
      refine XS.goto X5.here hx rfl (pc0 := 30) (pc' := 34) rfl (hb hby at_30) (by decide) (by decide) ?_
      show own_S p e below T5 m 34 #[iv xk, iv xa, iv xs, iv xv, iv xw, rv a2, .unset, .unset, .unset, .unset, .unset, .unset, .unset, .unset, .unset, .unset, .unset, .unset, .unset, .unset, .unset, .unset, .unset, .unset, .unset, .unset, .unset, .unset, .unset, .unset, .unset] [(.int (1 : Int32)), (.int (1 : Int32)), (.ref a2)] _
      rw [show u1 = (1 : Int32) from by rw [hu1, if_neg hc6]] at kt
      exact kt
  refine own_st sg7 ?_
  obtain ⟨T8, h8, X8, e8, W8, A8, st8⟩ := own_wrZ X5 hx hZ e5 A5 (k := 1) (by decide) (by decide) (g := (mkF m 34 #[iv xk, iv xa, iv xs, iv xv, iv xw, rv a2, .unset, .unset, .unset, .unset, .unset, .unset, .unset, .unset, .unset, .unset, .unset, .unset, .unset, .unset, .unset, .unset, .unset, .unset, .unset, .unset, .unset, .unset, .unset, .unset, .unset] [(.int u1), (.int (1 : Int32)), (.ref a2)])) rfl rfl (hb hby at_34)
  refine own_st st8 ?_
  have Z8 : n0 ≤ h8.size := by rw [Wr.size W8]; exact Z5
  have N8 := Fr.snoc X8 N5 g_a2
  show own_Go p e below _ T8 (mkF m 35 #[iv xk, iv xa, iv xs, iv xv, iv xw, rv a2, .unset, .unset, .unset, .unset, .unset, .unset, .unset, .unset, .unset, .unset, .unset, .unset, .unset, .unset, .unset, .unset, .unset, .unset, .unset, .unset, .unset, .unset, .unset, .unset, .unset] [])
  have EK1 := EK0.wr W8
  obtain ⟨b1, hbb1⟩ := own_bit u1 _ hu1
  obtain ⟨u2, hu2⟩ : ∃ z : Int32, z = (if (xk &&& (4 : Int32)) = (0 : Int32) then (0 : Int32) else (1 : Int32)) := ⟨_, rfl⟩
  have sg10 : own_V p e below T8 (mkF m 49 #[iv xk, iv xa, iv xs, iv xv, iv xw, rv a2, .unset, .unset, .unset, .unset, .unset, .unset, .unset, .unset, .unset, .unset, .unset, .unset, .unset, .unset, .unset, .unset, .unset, .unset, .unset, .unset, .unset, .unset, .unset, .unset, .unset] [(.int u2), (.int (2 : Int32)), (.ref a2)]) (mkF m 35 #[iv xk, iv xa, iv xs, iv xv, iv xw, rv a2, .unset, .unset, .unset, .unset, .unset, .unset, .unset, .unset, .unset, .unset, .unset, .unset, .unset, .unset, .unset, .unset, .unset, .unset, .unset, .unset, .unset, .unset, .unset, .unset, .unset] []) := by
    intro t kt
    refine XS.aload X8.here hx rfl (hb hby at_35) rfl rfl ?_
    show own_S p e below T8 m 37 #[iv xk, iv xa, iv xs, iv xv, iv xw, rv a2, .unset, .unset, .unset, .unset, .unset, .unset, .unset, .unset, .unset, .unset, .unset, .unset, .unset, .unset, .unset, .unset, .unset, .unset, .unset, .unset, .unset, .unset, .unset, .unset, .unset] [(.ref a2)] _
    refine XS.iconst X8.here hx rfl (hb hby at_37) ?_
    show own_S p e below T8 m 38 #[iv xk, iv xa, iv xs, iv xv, iv xw, rv a2, .unset, .unset, .unset, .unset, .unset, .unset, .unset, .unset, .unset, .unset, .unset, .unset, .unset, .unset, .unset, .unset, .unset, .unset, .unset, .unset, .unset, .unset, .unset, .unset, .unset] [(.int (2 : Int32)), (.ref a2)] _
    refine XS.iloadN X8.here hx rfl (hb hby at_38) rfl ?_
    show own_S p e below T8 m 39 #[iv xk, iv xa, iv xs, iv xv, iv xw, rv a2, .unset, .unset, .unset, .unset, .unset, .unset, .unset, .unset, .unset, .unset, .unset, .unset, .unset, .unset, .unset, .unset, .unset, .unset, .unset, .unset, .unset, .unset, .unset, .unset, .unset] [(.int xk), (.int (2 : Int32)), (.ref a2)] _
    refine XS.iconst X8.here hx rfl (hb hby at_39) ?_
    show own_S p e below T8 m 40 #[iv xk, iv xa, iv xs, iv xv, iv xw, rv a2, .unset, .unset, .unset, .unset, .unset, .unset, .unset, .unset, .unset, .unset, .unset, .unset, .unset, .unset, .unset, .unset, .unset, .unset, .unset, .unset, .unset, .unset, .unset, .unset, .unset] [(.int (4 : Int32)), (.int xk), (.int (2 : Int32)), (.ref a2)] _
    refine XS.iand X8.here hx rfl (hb hby at_40) rfl ?_
    show own_S p e below T8 m 41 #[iv xk, iv xa, iv xs, iv xv, iv xw, rv a2, .unset, .unset, .unset, .unset, .unset, .unset, .unset, .unset, .unset, .unset, .unset, .unset, .unset, .unset, .unset, .unset, .unset, .unset, .unset, .unset, .unset, .unset, .unset, .unset, .unset] [(.int (xk &&& (4 : Int32))), (.int (2 : Int32)), (.ref a2)] _
    by_cases hc9 : (xk &&& (4 : Int32)) = (0 : Int32)
    · refine XS.ifYes X8.here hx rfl (pc0 := 41) (pc' := 48) rfl (hb hby at_41) rfl ((if0 _ _).trans (teq hc9).1) (by decide) (by decide) ?_
      show own_S p e below T8 m 48 #[iv xk, iv xa, iv xs, iv xv, iv xw, rv a2, .unset, .unset, .unset, .unset, .unset, .unset, .unset, .unset, .unset, .unset, .unset, .unset, .unset, .unset, .unset, .unset, .unset, .unset, .unset, .unset, .unset, .unset, .unset, .unset, .unset] [(.int (2 : Int32)), (.ref a2)] _
      refine XS.iconst X8.here hx rfl (hb hby at_48) ?_
      show own_S p e below T8 m 49 #[iv xk, iv xa, iv xs, iv xv, iv xw, rv a2, .unset, .unset, .unset, .unset, .unset, .unset, .unset, .unset, .unset, .unset, .unset, .unset, .unset, .unset, .unset, .unset, .unset, .unset, .unset, .unset, .unset, .unset, .unset, .unset, .unset] [(.int (0 : Int32)), (.int (2 : Int32)), (.ref a2)] _
      rw [show u2 = (0 : Int32) from by rw [hu2, if_pos hc9]] at kt
      exact kt
    · refine XS.ifNo X8.here hx rfl (hb hby at_41) rfl ((if0 _ _).trans (feq hc9).1) ?_
      show own_S p e below T8 m 44 #[iv xk, iv xa, iv xs, iv xv, iv xw, rv a2, .unset, .unset, .unset, .unset, .unset, .unset, .unset, .unset, .unset, .unset, .unset, .unset, .unset, .unset, .unset, .unset, .unset, .unset, .unset, .unset, .unset, .unset, .unset, .unset, .unset] [(.int (2 : Int32)), (.ref a2)] _
      refine XS.iconst X8.here hx rfl (hb hby at_44) ?_
      show own_S p e below T8 m 45 #[iv xk, iv xa, iv xs, iv xv, iv xw, rv a2, .unset, .unset, .unset, .unset, .unset, .unset, .unset, .unset, .unset, .unset, .unset, .unset, .unset, .unset, .unset, .unset, .unset, .unset, .unset, .unset, .unset, .unset, .unset, .unset, .unset] [(.int (1 : Int32)), (.int (2 : Int32)), (.ref a2)] _
      refine XS.goto X8.here hx rfl (pc0 := 45) (pc' := 49) rfl (hb hby at_45) (by decide) (by decide) ?_
      show own_S p e below T8 m 49 #[iv xk, iv xa, iv xs, iv xv, iv xw, rv a2, .unset, .unset, .unset, .unset, .unset, .unset, .unset, .unset, .unset, .unset, .unset, .unset, .unset, .unset, .unset, .unset, .unset, .unset, .unset, .unset, .unset, .unset, .unset, .unset, .unset] [(.int (1 : Int32)), (.int (2 : Int32)), (.ref a2)] _
      rw [show u2 = (1 : Int32) from by rw [hu2, if_neg hc9]] at kt
      exact kt
  refine own_st sg10 ?_
  obtain ⟨T11, h11, X11, e11, W11, A11, st11⟩ := own_wrZ X8 hx hZ e8 A8 (k := 2) (by decide) (by decide) (g := (mkF m 49 #[iv xk, iv xa, iv xs, iv xv, iv xw, rv a2, .unset, .unset, .unset, .unset, .unset, .unset, .unset, .unset, .unset, .unset, .unset, .unset, .unset, .unset, .unset, .unset, .unset, .unset, .unset, .unset, .unset, .unset, .unset, .unset, .unset] [(.int u2), (.int (2 : Int32)), (.ref a2)])) rfl rfl (hb hby at_49)
  refine own_st st11 ?_
  have Z11 : n0 ≤ h11.size := by rw [Wr.size W11]; exact Z8
  have N11 := Fr.snoc X11 N8 g_a2
  show own_Go p e below _ T11 (mkF m 50 #[iv xk, iv xa, iv xs, iv xv, iv xw, rv a2, .unset, .unset, .unset, .unset, .unset, .unset, .unset, .unset, .unset, .unset, .unset, .unset, .unset, .unset, .unset, .unset, .unset, .unset, .unset, .unset, .unset, .unset, .unset, .unset, .unset] [])
  have EK2 := EK1.wr W11
  obtain ⟨b2, hbb2⟩ := own_bit u2 _ hu2
  have AK0 : own_AI Z h11 a2 .boolean 3 (own_K b0 b1 b2) := A11.congr (fun i hi => by rcases own_lt3 hi with rfl | rfl | rfl <;> simp only [own_upd, own_K, hbb0, hbb1, hbb2] <;> rfl)
  obtain ⟨ff, hff⟩ : ∃ z : Int32, z = ((xa &&& (2147483647 : Int32)) % (3 : Int32)) := ⟨_, rfl⟩
  have sg12 : own_V p e below T11 (mkF m 58 #[iv xk, iv xa, iv xs, iv xv, iv xw, rv a2, iv ff, .unset, .unset, .unset, .unset, .unset, .unset, .unset, .unset, .unset, .unset, .unset, .unset, .unset, .unset, .unset, .unset, .unset, .unset, .unset, .unset, .unset, .unset, .unset, .unset] []) (mkF m 50 #[iv xk, iv xa, iv xs, iv xv, iv xw, rv a2, .unset, .unset, .unset, .unset, .unset, .unset, .unset, .unset, .unset, .unset, .unset, .unset, .unset, .unset, .unset, .unset, .unset, .unset, .unset, .unset, .unset, .unset, .unset, .unset, .unset] []) := by
    intro t kt
    refine XS.iloadN X11.here hx rfl (hb hby at_50) rfl ?_
    show own_S p e below T11 m 51 #[iv xk, iv xa, iv xs, iv xv, iv xw, rv a2, .unset, .unset, .unset, .unset, .unset, .unset, .unset, .unset, .unset, .unset, .unset, .unset, .unset, .unset, .unset, .unset, .unset, .unset, .unset, .unset, .unset, .unset, .unset, .unset, .unset] [(.int xa)] _
    refine X11.ldcInt hx hown (mvT hZ (hw _ (List.mem_of_getElem? (i := 1) rfl))) (g := (mkF m 51 #[iv xk, iv xa, iv xs, iv xv, iv xw, rv a2, .unset, .unset, .unset, .unset, .unset, .unset, .unset, .unset, .unset, .unset, .unset, .unset, .unset, .unset, .unset, .unset, .unset, .unset, .unset, .unset, .unset, .unset, .unset, .unset, .unset] [(.int xa)])) rfl (hb hby at_51) _ ?_
    show own_S p e below T11 m 53 #[iv xk, iv xa, iv xs, iv xv, iv xw, rv a2, .unset, .unset, .unset, .unset, .unset, .unset, .unset, .unset, .unset, .unset, .unset, .unset, .unset, .unset, .unset, .unset, .unset, .unset, .unset, .unset, .unset, .unset, .unset, .unset, .unset] [(.int (2147483647 : Int32)), (.int xa)] _
    refine XS.iand X11.here hx rfl (hb hby at_53) rfl ?_
    show own_S p e below T11 m 54 #[iv xk, iv xa, iv xs, iv xv, iv xw, rv a2, .unset, .unset, .unset, .unset, .unset, .unset, .unset, .unset, .unset, .unset, .unset, .unset, .unset, .unset, .unset, .unset, .unset, .unset, .unset, .unset, .unset, .unset, .unset, .unset, .unset] [(.int (xa &&& (2147483647 : Int32)))] _
    refine XS.iconst X11.here hx rfl (hb hby at_54) ?_
    show own_S p e below T11 m 55 #[iv xk, iv xa, iv xs, iv xv, iv xw, rv a2, .unset, .unset, .unset, .unset, .unset, .unset, .unset, .unset, .unset, .unset, .unset, .unset, .unset, .unset, .unset, .unset, .unset, .unset, .unset, .unset, .unset, .unset, .unset, .unset, .unset] [(.int (3 : Int32)), (.int (xa &&& (2147483647 : Int32)))] _
    refine own_irem X11.here hx rfl (hb hby at_55) rfl (by decide) ?_
    show own_S p e below T11 m 56 #[iv xk, iv xa, iv xs, iv xv, iv xw, rv a2, .unset, .unset, .unset, .unset, .unset, .unset, .unset, .unset, .unset, .unset, .unset, .unset, .unset, .unset, .unset, .unset, .unset, .unset, .unset, .unset, .unset, .unset, .unset, .unset, .unset] [(.int ((xa &&& (2147483647 : Int32)) % (3 : Int32)))] _
    refine XS.istore X11.here hx rfl (hb hby at_56) rfl (l' := #[iv xk, iv xa, iv xs, iv xv, iv xw, rv a2, iv ((xa &&& (2147483647 : Int32)) % (3 : Int32)), .unset, .unset, .unset, .unset, .unset, .unset, .unset, .unset, .unset, .unset, .unset, .unset, .unset, .unset, .unset, .unset, .unset, .unset, .unset, .unset, .unset, .unset, .unset, .unset]) rfl ?_
    show own_S p e below T11 m 58 #[iv xk, iv xa, iv xs, iv xv, iv xw, rv a2, iv ((xa &&& (2147483647 : Int32)) % (3 : Int32)), .unset, .unset, .unset, .unset, .unset, .unset, .unset, .unset, .unset, .unset, .unset, .unset, .unset, .unset, .unset, .unset, .unset, .unset, .unset, .unset, .unset, .unset, .unset, .unset] [] _
    rw [hff] at kt
    exact kt
  refine own_st sg12 ?_
  obtain ⟨kf, hkf0, hf3⟩ := own_f3 xa ff hff
  obtain ⟨fr, hfr⟩ : ∃ z : Int32, z = (ff + (1 : Int32)) := ⟨_, rfl⟩
  have sg13 : own_V p e below T11 (mkF m 64 #[iv xk, iv xa, iv xs, iv xv, iv xw, rv a2, iv ff, iv fr, .unset, .unset, .unset, .unset, .unset, .unset, .unset, .unset, .unset, .unset, .unset, .unset, .unset, .unset, .unset, .unset, .unset, .unset, .unset, .unset, .unset, .unset, .unset] []) (mkF m 58 #[iv xk, iv xa, iv xs, iv xv, iv xw, rv a2, iv ff, .unset, .unset, .unset, .unset, .unset, .unset, .unset, .unset, .unset, .unset, .unset, .unset, .unset, .unset, .unset, .unset, .unset, .unset, .unset, .unset, .unset, .unset, .unset, .unset] []) := by
    intro t kt
    refine XS.iload X11.here hx rfl (hb hby at_58) rfl ?_
    show own_S p e below T11 m 60 #[iv xk, iv xa, iv xs, iv xv, iv xw, rv a2, iv ff, .unset, .unset, .unset, .unset, .unset, .unset, .unset, .unset, .unset, .unset, .unset, .unset, .unset, .unset, .unset, .unset, .unset, .unset, .unset, .unset, .unset, .unset, .unset, .unset] [(.int ff)] _
    refine XS.iconst X11.here hx rfl (hb hby at_60) ?_
    show own_S p e below T11 m 61 #[iv xk, iv xa, iv xs, iv xv, iv xw, rv a2, iv ff, .unset, .unset, .unset, .unset, .unset, .unset, .unset, .unset, .unset, .unset, .unset, .unset, .unset, .unset, .unset, .unset, .unset, .unset, .unset, .unset, .unset, .unset, .unset, .unset] [(.int (1 : Int32)), (.int ff)] _
    refine XS.iadd X11.here hx rfl (hb hby at_61) rfl ?_
    show own_S p e below T11 m 62 #[iv xk, iv xa, iv xs, iv xv, iv xw, rv a2, iv ff, .unset, .unset, .unset, .unset, .unset, .unset, .unset, .unset, .unset, .unset, .unset, .unset, .unset, .unset, .unset, .unset, .unset, .unset, .unset, .unset, .unset, .unset, .unset, .unset] [(.int (ff + (1 : Int32)))] _
    refine XS.istore X11.here hx rfl (hb hby at_62) rfl (l' := #[iv xk, iv xa, iv xs, iv xv, iv xw, rv a2, iv ff, iv (ff + (1 : Int32)), .unset, .unset, .unset, .unset, .unset, .unset, .unset, .unset, .unset, .unset, .unset, .unset, .unset, .unset, .unset, .unset, .unset, .unset, .unset, .unset, .unset, .unset, .unset]) rfl ?_
    show own_S p e below T11 m 64 #[iv xk, iv xa, iv xs, iv xv, iv xw, rv a2, iv ff, iv (ff + (1 : Int32)), .unset, .unset, .unset, .unset, .unset, .unset, .unset, .unset, .unset, .unset, .unset, .unset, .unset, .unset, .unset, .unset, .unset, .unset, .unset, .unset, .unset, .unset, .unset] [] _
    rw [hfr] at kt
    exact kt
  refine own_st sg13 ?_
  have hkf := own_fr ff fr kf hkf0 hf3 hfr
  obtain ⟨t1, ht1⟩ : ∃ z : Int32, z = (((ff + (1 : Int32)) % (3 : Int32)) + (1 : Int32)) := ⟨_, rfl⟩
  have sg14 : own_V p e below T11 (mkF m 74 #[iv xk, iv xa, iv xs, iv xv, iv xw, rv a2, iv ff, iv fr, iv t1, .unset, .unset, .unset, .unset, .unset, .unset, .unset, .unset, .unset, .unset, .unset, .unset, .unset, .unset, .unset, .unset, .unset, .unset, .unset, .unset, .unset, .unset] []) (mkF m 64 #[iv xk, iv xa, iv xs, iv xv, iv xw, rv a2, iv ff, iv fr, .unset, .unset, .unset, .unset, .unset, .unset, .unset, .unset, .unset, .unset, .unset, .unset, .unset, .unset, .unset, .unset, .unset, .unset, .unset, .unset, .unset, .unset, .unset] []) := by
    intro t kt
    refine XS.iload X11.here hx rfl (hb hby at_64) rfl ?_
    show own_S p e below T11 m 66 #[iv xk, iv xa, iv xs, iv xv, iv xw, rv a2, iv ff, iv fr, .unset, .unset, .unset, .unset, .unset, .unset, .unset, .unset, .unset, .unset, .unset, .unset, .unset, .unset, .unset, .unset, .unset, .unset, .unset, .unset, .unset, .unset, .unset] [(.int ff)] _
    refine XS.iconst X11.here hx rfl (hb hby at_66) ?_
    show own_S p e below T11 m 67 #[iv xk, iv xa, iv xs, iv xv, iv xw, rv a2, iv ff, iv fr, .unset, .unset, .unset, .unset, .unset, .unset, .unset, .unset, .unset, .unset, .unset, .unset, .unset, .unset, .unset, .unset, .unset, .unset, .unset, .unset, .unset, .unset, .unset] [(.int (1 : Int32)), (.int ff)] _
    refine XS.iadd X11.here hx rfl (hb hby at_67) rfl ?_
    show own_S p e below T11 m 68 #[iv xk, iv xa, iv xs, iv xv, iv xw, rv a2, iv ff, iv fr, .unset, .unset, .unset, .unset, .unset, .unset, .unset, .unset, .unset, .unset, .unset, .unset, .unset, .unset, .unset, .unset, .unset, .unset, .unset, .unset, .unset, .unset, .unset] [(.int (ff + (1 : Int32)))] _
    refine XS.iconst X11.here hx rfl (hb hby at_68) ?_
    show own_S p e below T11 m 69 #[iv xk, iv xa, iv xs, iv xv, iv xw, rv a2, iv ff, iv fr, .unset, .unset, .unset, .unset, .unset, .unset, .unset, .unset, .unset, .unset, .unset, .unset, .unset, .unset, .unset, .unset, .unset, .unset, .unset, .unset, .unset, .unset, .unset] [(.int (3 : Int32)), (.int (ff + (1 : Int32)))] _
    refine own_irem X11.here hx rfl (hb hby at_69) rfl (by decide) ?_
    show own_S p e below T11 m 70 #[iv xk, iv xa, iv xs, iv xv, iv xw, rv a2, iv ff, iv fr, .unset, .unset, .unset, .unset, .unset, .unset, .unset, .unset, .unset, .unset, .unset, .unset, .unset, .unset, .unset, .unset, .unset, .unset, .unset, .unset, .unset, .unset, .unset] [(.int ((ff + (1 : Int32)) % (3 : Int32)))] _
    refine XS.iconst X11.here hx rfl (hb hby at_70) ?_
    show own_S p e below T11 m 71 #[iv xk, iv xa, iv xs, iv xv, iv xw, rv a2, iv ff, iv fr, .unset, .unset, .unset, .unset, .unset, .unset, .unset, .unset, .unset, .unset, .unset, .unset, .unset, .unset, .unset, .unset, .unset, .unset, .unset, .unset, .unset, .unset, .unset] [(.int (1 : Int32)), (.int ((ff + (1 : Int32)) % (3 : Int32)))] _
    refine XS.iadd X11.here hx rfl (hb hby at_71) rfl ?_
    show own_S p e below T11 m 72 #[iv xk, iv xa, iv xs, iv xv, iv xw, rv a2, iv ff, iv fr, .unset, .unset, .unset, .unset, .unset, .unset, .unset, .unset, .unset, .unset, .unset, .unset, .unset, .unset, .unset, .unset, .unset, .unset, .unset, .unset, .unset, .unset, .unset] [(.int (((ff + (1 : Int32)) % (3 : Int32)) + (1 : Int32)))] _
    refine XS.istore X11.here hx rfl (hb hby at_72) rfl (l' := #[iv xk, iv xa, iv xs, iv xv, iv xw, rv a2, iv ff, iv fr, iv (((ff + (1 : Int32)) % (3 : Int32)) + (1 : Int32)), .unset, .unset, .unset, .unset, .unset, .unset, .unset, .unset, .unset, .unset, .unset, .unset, .unset, .unset, .unset, .unset, .unset, .unset, .unset, .unset, .unset, .unset]) rfl ?_
    show own_S p e below T11 m 74 #[iv xk, iv xa, iv xs, iv xv, iv xw, rv a2, iv ff, iv fr, iv (((ff + (1 : Int32)) % (3 : Int32)) + (1 : Int32)), .unset, .unset, .unset, .unset, .unset, .unset, .unset, .unset, .unset, .unset, .unset, .unset, .unset, .unset, .unset, .unset, .unset, .unset, .unset, .unset, .unset, .unset] [] _
    rw [ht1] at kt
    exact kt
  refine own_st sg14 ?_
  have hk1 : t1.toInt = ((own_k1 kf + 1 : Nat) : Int) ∧ own_k1 kf < 3 := own_tk ff t1 1 kf 1 hkf0 hf3 (by decide) (by decide) ht1
  obtain ⟨t2, ht2⟩ : ∃ z : Int32, z = (((ff + (2 : Int32)) % (3 : Int32)) + (1 : Int32)) := ⟨_, rfl⟩
  have sg15 : own_V p e below T11 (mkF m 84 #[iv xk, iv xa, iv xs, iv xv, iv xw, rv a2, iv ff, iv fr, iv t1, iv t2, .unset, .unset, .unset, .unset, .unset, .unset, .unset, .unset, .unset, .unset, .unset, .unset, .unset, .unset, .unset, .unset, .unset, .unset, .unset, .unset, .unset] []) (mkF m 74 #[iv xk, iv xa, iv xs, iv xv, iv xw, rv a2, iv ff, iv fr, iv t1, .unset, .unset, .unset, .unset, .unset, .unset, .unset, .unset, .unset, .unset, .unset, .unset, .unset, .unset, .unset, .unset, .unset, .unset, .unset, .unset, .unset, .unset] []) := by
    intro t kt
    refine XS.iload X11.here hx rfl (hb hby at_74) rfl ?_
    show own_S p e below T11 m 76 #[iv xk, iv xa, iv xs, iv xv, iv xw, rv a2, iv ff, iv fr, iv t1, .unset, .unset, .unset, .unset, .unset, .unset, .unset, .unset, .unset, .unset, .unset, .unset, .unset, .unset, .unset, .unset, .unset, .unset, .unset, .unset, .unset, .unset] [(.int ff)] _
    refine XS.iconst X11.here hx rfl (hb hby at_76) ?_
    show own_S p e below T11 m 77 #[iv xk, iv xa, iv xs, iv xv, iv xw, rv a2, iv ff, iv fr, iv t1, .unset, .unset, .unset, .unset, .unset, .unset, .unset, .unset, .unset, .unset, .unset, .unset, .unset, .unset, .unset, .unset, .unset, .unset, .unset, .unset, .unset, .unset] [(.int (2 : Int32)), (.int ff)] _
    refine XS.iadd X11.here hx rfl (hb hby at_77) rfl ?_
    show own_S p e below T11 m 78 #[iv xk, iv xa, iv xs, iv xv, iv xw, rv a2, iv ff, iv fr, iv t1, .unset, .unset, .unset, .unset, .unset, .unset, .unset, .unset, .unset, .unset, .unset, .unset, .unset, .unset, .unset, .unset, .unset, .unset, .unset, .unset, .unset, .unset] [(.int (ff + (2 : Int32)))] _
    refine XS.iconst X11.here hx rfl (hb hby at_78) ?_
    show own_S p e below T11 m 79 #[iv xk, iv xa, iv xs, iv xv, iv xw, rv a2, iv ff, iv fr, iv t1, .unset, .unset, .unset, .unset, .unset, .unset, .unset, .unset, .unset, .unset, .unset, .unset, .unset, .unset, .unset, .unset, .unset, .unset, .unset, .unset, .unset, .unset] [(.int (3 : Int32)), (.int (ff + (2 : Int32)))] _
    refine own_irem X11.here hx rfl (hb hby at_79) rfl (by decide) ?_
    show own_S p e below T11 m 80 #[iv xk, iv xa, iv xs, iv xv, iv xw, rv a2, iv ff, iv fr, iv t1, .unset, .unset, .unset, .unset, .unset, .unset, .unset, .unset, .unset, .unset, .unset, .unset, .unset, .unset, .unset, .unset, .unset, .unset, .unset, .unset, .unset, .unset] [(.int ((ff + (2 : Int32)) % (3 : Int32)))] _
    refine XS.iconst X11.here hx rfl (hb hby at_80) ?_
    show own_S p e below T11 m 81 #[iv xk, iv xa, iv xs, iv xv, iv xw, rv a2, iv ff, iv fr, iv t1, .unset, .unset, .unset, .unset, .unset, .unset, .unset, .unset, .unset, .unset, .unset, .unset, .unset, .unset, .unset, .unset, .unset, .unset, .unset, .unset, .unset, .unset] [(.int (1 : Int32)), (.int ((ff + (2 : Int32)) % (3 : Int32)))] _
    refine XS.iadd X11.here hx rfl (hb hby at_81) rfl ?_
    show own_S p e below T11 m 82 #[iv xk, iv xa, iv xs, iv xv, iv xw, rv a2, iv ff, iv fr, iv t1, .unset, .unset, .unset, .unset, .unset, .unset, .unset, .unset, .unset, .unset, .unset, .unset, .unset, .unset, .unset, .unset, .unset, .unset, .unset, .unset, .unset, .unset] [(.int (((ff + (2 : Int32)) % (3 : Int32)) + (1 : Int32)))] _
    refine XS.istore X11.here hx rfl (hb hby at_82) rfl (l' := #[iv xk, iv xa, iv xs, iv xv, iv xw, rv a2, iv ff, iv fr, iv t1, iv (((ff + (2 : Int32)) % (3 : Int32)) + (1 : Int32)), .unset, .unset, .unset, .unset, .unset, .unset, .unset, .unset, .unset, .unset, .unset, .unset, .unset, .unset, .unset, .unset, .unset, .unset, .unset, .unset, .unset]) rfl ?_
    show own_S p e below T11 m 84 #[iv xk, iv xa, iv xs, iv xv, iv xw, rv a2, iv ff, iv fr, iv t1, iv (((ff + (2 : Int32)) % (3 : Int32)) + (1 : Int32)), .unset, .unset, .unset, .unset, .unset, .unset, .unset, .unset, .unset, .unset, .unset, .unset, .unset, .unset, .unset, .unset, .unset, .unset, .unset, .unset, .unset] [] _
    rw [ht2] at kt
    exact kt
  refine own_st sg15 ?_
  have hk2 : t2.toInt = ((own_k2 kf + 1 : Nat) : Int) ∧ own_k2 kf < 3 := own_tk ff t2 2 kf 2 hkf0 hf3 (by decide) (by decide) ht2
  obtain ⟨mo, hmo⟩ : ∃ z : Int32, z = (xs &&& (3 : Int32)) := ⟨_, rfl⟩
  obtain ⟨v, hv⟩ : ∃ z : Int32, z = (xv &&& (1 : Int32)) := ⟨_, rfl⟩
  obtain ⟨v0, hv0⟩ : ∃ z : Int32, z = (xw &&& (1 : Int32)) := ⟨_, rfl⟩
  have sg16 : own_V p e below T11 (mkF m 100 #[iv xk, iv xa, iv xs, iv xv, iv xw, rv a2, iv ff, iv fr, iv t1, iv t2, iv mo, iv v, iv v0, .unset, .unset, .unset, .unset, .unset, .unset, .unset, .unset, .unset, .unset, .unset, .unset, .unset, .unset, .unset, .unset, .unset, .unset] []) (mkF m 84 #[iv xk, iv xa, iv xs, iv xv, iv xw, rv a2, iv ff, iv fr, iv t1, iv t2, .unset, .unset, .unset, .unset, .unset, .unset, .unset, .unset, .unset, .unset, .unset, .unset, .unset, .unset, .unset, .unset, .unset, .unset, .unset, .unset, .unset] []) := by
    intro t kt
    refine XS.iloadN X11.here hx rfl (hb hby at_84) rfl ?_
    show own_S p e below T11 m 85 #[iv xk, iv xa, iv xs, iv xv, iv xw, rv a2, iv ff, iv fr, iv t1, iv t2, .unset, .unset, .unset, .unset, .unset, .unset, .unset, .unset, .unset, .unset, .unset, .unset, .unset, .unset, .unset, .unset, .unset, .unset, .unset, .unset, .unset] [(.int xs)] _
    refine XS.iconst X11.here hx rfl (hb hby at_85) ?_
    show own_S p e below T11 m 86 #[iv xk, iv xa, iv xs, iv xv, iv xw, rv a2, iv ff, iv fr, iv t1, iv t2, .unset, .unset, .unset, .unset, .unset, .unset, .unset, .unset, .unset, .unset, .unset, .unset, .unset, .unset, .unset, .unset, .unset, .unset, .unset, .unset, .unset] [(.int (3 : Int32)), (.int xs)] _
    refine XS.iand X11.here hx rfl (hb hby at_86) rfl ?_
    show own_S p e below T11 m 87 #[iv xk, iv xa, iv xs, iv xv, iv xw, rv a2, iv ff, iv fr, iv t1, iv t2, .unset, .unset, .unset, .unset, .unset, .unset, .unset, .unset, .unset, .unset, .unset, .unset, .unset, .unset, .unset, .unset, .unset, .unset, .unset, .unset, .unset] [(.int (xs &&& (3 : Int32)))] _
    refine XS.istore X11.here hx rfl (hb hby at_87) rfl (l' := #[iv xk, iv xa, iv xs, iv xv, iv xw, rv a2, iv ff, iv fr, iv t1, iv t2, iv (xs &&& (3 : Int32)), .unset, .unset, .unset, .unset, .unset, .unset, .unset, .unset, .unset, .unset, .unset, .unset, .unset, .unset, .unset, .unset, .unset, .unset, .unset, .unset]) rfl ?_
    show own_S p e below T11 m 89 #[iv xk, iv xa, iv xs, iv xv, iv xw, rv a2, iv ff, iv fr, iv t1, iv t2, iv (xs &&& (3 : Int32)), .unset, .unset, .unset, .unset, .unset, .unset, .unset, .unset, .unset, .unset, .unset, .unset, .unset, .unset, .unset, .unset, .unset, .unset, .unset, .unset] [] _
    refine XS.iloadN X11.here hx rfl (hb hby at_89) rfl ?_
    show own_S p e below T11 m 90 #[iv xk, iv xa, iv xs, iv xv, iv xw, rv a2, iv ff, iv fr, iv t1, iv t2, iv (xs &&& (3 : Int32)), .unset, .unset, .unset, .unset, .unset, .unset, .unset, .unset, .unset, .unset, .unset, .unset, .unset, .unset, .unset, .unset, .unset, .unset, .unset, .unset] [(.int xv)] _
    refine XS.iconst X11.here hx rfl (hb hby at_90) ?_
    show own_S p e below T11 m 91 #[iv xk, iv xa, iv xs, iv xv, iv xw, rv a2, iv ff, iv fr, iv t1, iv t2, iv (xs &&& (3 : Int32)), .unset, .unset, .unset, .unset, .unset, .unset, .unset, .unset, .unset, .unset, .unset, .unset, .unset, .unset, .unset, .unset, .unset, .unset, .unset, .unset] [(.int (1 : Int32)), (.int xv)] _
    refine XS.iand X11.here hx rfl (hb hby at_91) rfl ?_
    show own_S p e below T11 m 92 #[iv xk, iv xa, iv xs, iv xv, iv xw, rv a2, iv ff, iv fr, iv t1, iv t2, iv (xs &&& (3 : Int32)), .unset, .unset, .unset, .unset, .unset, .unset, .unset, .unset, .unset, .unset, .unset, .unset, .unset, .unset, .unset, .unset, .unset, .unset, .unset, .unset] [(.int (xv &&& (1 : Int32)))] _
    refine XS.istore X11.here hx rfl (hb hby at_92) rfl (l' := #[iv xk, iv xa, iv xs, iv xv, iv xw, rv a2, iv ff, iv fr, iv t1, iv t2, iv (xs &&& (3 : Int32)), iv (xv &&& (1 : Int32)), .unset, .unset, .unset, .unset, .unset, .unset, .unset, .unset, .unset, .unset, .unset, .unset, .unset, .unset, .unset, .unset, .unset, .unset, .unset]) rfl ?_
    show own_S p e below T11 m 94 #[iv xk, iv xa, iv xs, iv xv, iv xw, rv a2, iv ff, iv fr, iv t1, iv t2, iv (xs &&& (3 : Int32)), iv (xv &&& (1 : Int32)), .unset, .unset, .unset, .unset, .unset, .unset, .unset, .unset, .unset, .unset, .unset, .unset, .unset, .unset, .unset, .unset, .unset, .unset, .unset] [] _
    refine XS.iload X11.here hx rfl (hb hby at_94) rfl ?_
    show own_S p e below T11 m 96 #[iv xk, iv xa, iv xs, iv xv, iv xw, rv a2, iv ff, iv fr, iv t1, iv t2, iv (xs &&& (3 : Int32)), iv (xv &&& (1 : Int32)), .unset, .unset, .unset, .unset, .unset, .unset, .unset, .unset, .unset, .unset, .unset, .unset, .unset, .unset, .unset, .unset, .unset, .unset, .unset] [(.int xw)] _
    refine XS.iconst X11.here hx rfl (hb hby at_96) ?_
    show own_S p e below T11 m 97 #[iv xk, iv xa, iv xs, iv xv, iv xw, rv a2, iv ff, iv fr, iv t1, iv t2, iv (xs &&& (3 : Int32)), iv (xv &&& (1 : Int32)), .unset, .unset, .unset, .unset, .unset, .unset, .unset, .unset, .unset, .unset, .unset, .unset, .unset, .unset, .unset, .unset, .unset, .unset, .unset] [(.int (1 : Int32)), (.int xw)] _
    refine XS.iand X11.here hx rfl (hb hby at_97) rfl ?_
    show own_S p e below T11 m 98 #[iv xk, iv xa, iv xs, iv xv, iv xw, rv a2, iv ff, iv fr, iv t1, iv t2, iv (xs &&& (3 : Int32)), iv (xv &&& (1 : Int32)), .unset, .unset, .unset, .unset, .unset, .unset, .unset, .unset, .unset, .unset, .unset, .unset, .unset, .unset, .unset, .unset, .unset, .unset, .unset] [(.int (xw &&& (1 : Int32)))] _
    refine XS.istore X11.here hx rfl (hb hby at_98) rfl (l' := #[iv xk, iv xa, iv xs, iv xv, iv xw, rv a2, iv ff, iv fr, iv t1, iv t2, iv (xs &&& (3 : Int32)), iv (xv &&& (1 : Int32)), iv (xw &&& (1 : Int32)), .unset, .unset, .unset, .unset, .unset, .unset, .unset, .unset, .unset, .unset, .unset, .unset, .unset, .unset, .unset, .unset, .unset, .unset]) rfl ?_
    show own_S p e below T11 m 100 #[iv xk, iv xa, iv xs, iv xv, iv xw, rv a2, iv ff, iv fr, iv t1, iv t2, iv (xs &&& (3 : Int32)), iv (xv &&& (1 : Int32)), iv (xw &&& (1 : Int32)), .unset, .unset, .unset, .unset, .unset, .unset, .unset, .unset, .unset, .unset, .unset, .unset, .unset, .unset, .unset, .unset, .unset, .unset] [] _
    rw [hmo] at kt
    rw [hv] at kt
    rw [hv0] at kt
    exact kt
  refine own_st sg16 ?_
  obtain ⟨bv, hbv⟩ := own_and1 xv
  obtain ⟨bw, hbw⟩ := own_and1 xw
  have hv1 : v = own_bi bv := hv.trans hbv
  have hv2 : v0 = own_bi bw := hv0.trans hbw
  clear hv hv0
  subst hv1 hv2
  show own_Go p e below _ T11 (mkF m 100 #[iv xk, iv xa, iv xs, iv xv, iv xw, rv a2, iv ff, iv fr, iv t1, iv t2, iv mo, iv (own_bi bv), iv (own_bi bw), .unset, .unset, .unset, .unset, .unset, .unset, .unset, .unset, .unset, .unset, .unset, .unset, .unset, .unset, .unset, .unset, .unset, .unset] [])
  have sg17 : own_V p e below T11 (mkF m 116 #[iv xk, iv xa, iv xs, iv xv, iv xw, rv a2, iv ff, iv fr, iv t1, iv t2, iv mo, iv (own_bi bv), iv (own_bi bw), iv (own_K b0 b1 b2 kf), iv (own_K b0 b1 b2 (own_k1 kf)), .unset, .unset, .unset, .unset, .unset, .unset, .unset, .unset, .unset, .unset, .unset, .unset, .unset, .unset, .unset, .unset] []) (mkF m 100 #[iv xk, iv xa, iv xs, iv xv, iv xw, rv a2, iv ff, iv fr, iv t1, iv t2, iv mo, iv (own_bi bv), iv (own_bi bw), .unset, .unset, .unset, .unset, .unset, .unset, .unset, .unset, .unset, .unset, .unset, .unset, .unset, .unset, .unset, .unset, .unset, .unset] []) := by
    intro t kt
    refine XS.aload X11.here hx rfl (hb hby at_100) rfl rfl ?_
    show own_S p e below T11 m 102 #[iv xk, iv xa, iv xs, iv xv, iv xw, rv a2, iv ff, iv fr, iv t1, iv t2, iv mo, iv (own_bi bv), iv (own_bi bw), .unset, .unset, .unset, .unset, .unset, .unset, .unset, .unset, .unset, .unset, .unset, .unset, .unset, .unset, .unset, .unset, .unset, .unset] [(.ref a2)] _
    refine XS.iload X11.here hx rfl (hb hby at_102) rfl ?_
    show own_S p e below T11 m 104 #[iv xk, iv xa, iv xs, iv xv, iv xw, rv a2, iv ff, iv fr, iv t1, iv t2, iv mo, iv (own_bi bv), iv (own_bi bw), .unset, .unset, .unset, .unset, .unset, .unset, .unset, .unset, .unset, .unset, .unset, .unset, .unset, .unset, .unset, .unset, .unset, .unset] [(.int ff), (.ref a2)] _
    refine own_rdZ X11 hx hZ e11 AK0 hkf0 hf3 (g := (mkF m 104 #[iv xk, iv xa, iv xs, iv xv, iv xw, rv a2, iv ff, iv fr, iv t1, iv t2, iv mo, iv (own_bi bv), iv (own_bi bw), .unset, .unset, .unset, .unset, .unset, .unset, .unset, .unset, .unset, .unset, .unset, .unset, .unset, .unset, .unset, .unset, .unset, .unset] [(.int ff), (.ref a2)])) rfl rfl (hb hby at_104) _ ?_
    show own_S p e below T11 m 105 #[iv xk, iv xa, iv xs, iv xv, iv xw, rv a2, iv ff, iv fr, iv t1, iv t2, iv mo, iv (own_bi bv), iv (own_bi bw), .unset, .unset, .unset, .unset, .unset, .unset, .unset, .unset, .unset, .unset, .unset, .unset, .unset, .unset, .unset, .unset, .unset, .unset] [(.int (own_K b0 b1 b2 kf))] _
    refine XS.istore X11.here hx rfl (hb hby at_105) rfl (l' := #[iv xk, iv xa, iv xs, iv xv, iv xw, rv a2, iv ff, iv fr, iv t1, iv t2, iv mo, iv (own_bi bv), iv (own_bi bw), iv (own_K b0 b1 b2 kf), .unset, .unset, .unset, .unset, .unset, .unset, .unset, .unset, .unset, .unset, .unset, .unset, .unset, .unset, .unset, .unset, .unset]) rfl ?_
    show own_S p e below T11 m 107 #[iv xk, iv xa, iv xs, iv xv, iv xw, rv a2, iv ff, iv fr, iv t1, iv t2, iv mo, iv (own_bi bv), iv (own_bi bw), iv (own_K b0 b1 b2 kf), .unset, .unset, .unset, .unset, .unset, .unset, .unset, .unset, .unset, .unset, .unset, .unset, .unset, .unset, .unset, .unset, .unset] [] _
    refine XS.aload X11.here hx rfl (hb hby at_107) rfl rfl ?_
    show own_S p e below T11 m 109 #[iv xk, iv xa, iv xs, iv xv, iv xw, rv a2, iv ff, iv fr, iv t1, iv t2, iv mo, iv (own_bi bv), iv (own_bi bw), iv (own_K b0 b1 b2 kf), .unset, .unset, .unset, .unset, .unset, .unset, .unset, .unset, .unset, .unset, .unset, .unset, .unset, .unset, .unset, .unset, .unset] [(.ref a2)] _
    refine XS.iload X11.here hx rfl (hb hby at_109) rfl ?_
    show own_S p e below T11 m 111 #[iv xk, iv xa, iv xs, iv xv, iv xw, rv a2, iv ff, iv fr, iv t1, iv t2, iv mo, iv (own_bi bv), iv (own_bi bw), iv (own_K b0 b1 b2 kf), .unset, .unset, .unset, .unset, .unset, .unset, .unset, .unset, .unset, .unset, .unset, .unset, .unset, .unset, .unset, .unset, .unset] [(.int t1), (.ref a2)] _
    refine XS.iconst X11.here hx rfl (hb hby at_111) ?_
    show own_S p e below T11 m 112 #[iv xk, iv xa, iv xs, iv xv, iv xw, rv a2, iv ff, iv fr, iv t1, iv t2, iv mo, iv (own_bi bv), iv (own_bi bw), iv (own_K b0 b1 b2 kf), .unset, .unset, .unset, .unset, .unset, .unset, .unset, .unset, .unset, .unset, .unset, .unset, .unset, .unset, .unset, .unset, .unset] [(.int (1 : Int32)), (.int t1), (.ref a2)] _
    refine XS.isub X11.here hx rfl (hb hby at_112) rfl ?_
    show own_S p e below T11 m 113 #[iv xk, iv xa, iv xs, iv xv, iv xw, rv a2, iv ff, iv fr, iv t1, iv t2, iv mo, iv (own_bi bv), iv (own_bi bw), iv (own_K b0 b1 b2 kf), .unset, .unset, .unset, .unset, .unset, .unset, .unset, .unset, .unset, .unset, .unset, .unset, .unset, .unset, .unset, .unset, .unset] [(.int (t1 - (1 : Int32))), (.ref a2)] _
    refine own_rdZ X11 hx hZ e11 AK0 (own_i1 hk1.1) hk1.2 (g := (mkF m 113 #[iv xk, iv xa, iv xs, iv xv, iv xw, rv a2, iv ff, iv fr, iv t1, iv t2, iv mo, iv (own_bi bv), iv (own_bi bw), iv (own_K b0 b1 b2 kf), .unset, .unset, .unset, .unset, .unset, .unset, .unset, .unset, .unset, .unset, .unset, .unset, .unset, .unset, .unset, .unset, .unset] [(.int (t1 - (1 : Int32))), (.ref a2)])) rfl rfl (hb hby at_113) _ ?_
    show own_S p e below T11 m 114 #[iv xk, iv xa, iv xs, iv xv, iv xw, rv a2, iv ff, iv fr, iv t1, iv t2, iv mo, iv (own_bi bv), iv (own_bi bw), iv (own_K b0 b1 b2 kf), .unset, .unset, .unset, .unset, .unset, .unset, .unset, .unset, .unset, .unset, .unset, .unset, .unset, .unset, .unset, .unset, .unset] [(.int (own_K b0 b1 b2 (own_k1 kf)))] _
    refine XS.istore X11.here hx rfl (hb hby at_114) rfl (l' := #[iv xk, iv xa, iv xs, iv xv, iv xw, rv a2, iv ff, iv fr, iv t1, iv t2, iv mo, iv (own_bi bv), iv (own_bi bw), iv (own_K b0 b1 b2 kf), iv (own_K b0 b1 b2 (own_k1 kf)), .unset, .unset, .unset, .unset, .unset, .unset, .unset, .unset, .unset, .unset, .unset, .unset, .unset, .unset, .unset, .unset]) rfl ?_
    show own_S p e below T11 m 116 #[iv xk, iv xa, iv xs, iv xv, iv xw, rv a2, iv ff, iv fr, iv t1, iv t2, iv mo, iv (own_bi bv), iv (own_bi bw), iv (own_K b0 b1 b2 kf), iv (own_K b0 b1 b2 (own_k1 kf)), .unset, .unset, .unset, .unset, .unset, .unset, .unset, .unset, .unset, .unset, .unset, .unset, .unset, .unset, .unset, .unset] [] _
    exact kt
  refine own_st sg17 ?_
  obtain ⟨T18, h18, X18, e18, E18, A18, D18, -, st18⟩ := newO X11 hx hZ hown (hw _ (List.mem_of_getElem? (i := 2) rfl)) (hw _ (List.mem_of_getElem? (i := 3) rfl)) (hw _ (List.mem_of_getElem? (i := 4) rfl)) e11 (g := (mkF m 116 #[iv xk, iv xa, iv xs, iv xv, iv xw, rv a2, iv ff, iv fr, iv t1, iv t2, iv mo, iv (own_bi bv), iv (own_bi bw), iv (own_K b0 b1 b2 kf), iv (own_K b0 b1 b2 (own_k1 kf)), .unset, .unset, .unset, .unset, .unset, .unset, .unset, .unset, .unset, .unset, .unset, .unset, .unset, .unset, .unset, .unset] [])) rfl (hb hby at_116) (by decide) (by decide)
  obtain ⟨a18, g18⟩ : ∃ z, z = h11.size := ⟨_, rfl⟩
  rw [← g18] at A18 D18 st18
  refine own_st st18 ?_
  have g_a18 : n0 ≤ a18 := by rw [g18]; exact Z11
  have Z18 : n0 ≤ h18.size := Nat.le_trans Z11 E18.1
  show own_Go p e below _ T18 (mkF m 119 #[iv xk, iv xa, iv xs, iv xv, iv xw, rv a2, iv ff, iv fr, iv t1, iv t2, iv mo, iv (own_bi bv), iv (own_bi bw), iv (own_K b0 b1 b2 kf), iv (own_K b0 b1 b2 (own_k1 kf)), .unset, .unset, .unset, .unset, .unset, .unset, .unset, .unset, .unset, .unset, .unset, .unset, .unset, .unset, .unset, .unset] [(.ref a18)])
  have Finboxes : Fld Z h18 a18 "com/example/kingsround/kingsround/engine/Deliveries" "inboxes" "[Lcom/example/kingsround/kingsround/engine/Deliveries$Delivered;" .null := D18 (Or.inr (hw _ (List.mem_of_getElem? (i := 14) rfl))) (ty := (.array (.object "com/example/kingsround/kingsround/engine/Deliveries$Delivered"))) (by decide)
  have Fkept : Fld Z h18 a18 "com/example/kingsround/kingsround/engine/Deliveries" "kept" "[Z" .null := D18 (Or.inr (hw _ (List.mem_of_getElem? (i := 43) rfl))) (ty := (.array .boolean)) (by decide)
  have FkeptParties : Fld Z h18 a18 "com/example/kingsround/kingsround/engine/Deliveries" "keptParties" "[I" .null := D18 (Or.inr (hw _ (List.mem_of_getElem? (i := 49) rfl))) (ty := (.array .int)) (by decide)
  have FtoAll : Fld Z h18 a18 "com/example/kingsround/kingsround/engine/Deliveries" "toAll" "[B" .null := D18 (Or.inr (hw _ (List.mem_of_getElem? (i := 51) rfl))) (ty := (.array .byte)) (by decide)
  have FoneByOne : Fld Z h18 a18 "com/example/kingsround/kingsround/engine/Deliveries" "oneByOne" "[Z" .null := D18 (Or.inr (hw _ (List.mem_of_getElem? (i := 54) rfl))) (ty := (.array .boolean)) (by decide)
  have Foutbox : Fld Z h18 a18 "com/example/kingsround/kingsround/engine/Deliveries" "outbox" "Lcom/example/kingsround/kingsround/engine/CheckedOutbox;" .null := D18 (Or.inr (hw _ (List.mem_of_getElem? (i := 76) rfl))) (ty := (.object "com/example/kingsround/kingsround/engine/CheckedOutbox")) (by decide)
  have Fcount : Fld Z h18 a18 "com/example/kingsround/kingsround/engine/Deliveries" "count" "J" (.long (0 : Int64)) := D18 (Or.inl (hw _ (List.mem_of_getElem? (i := 88) rfl))) (ty := .long) (by decide)
  have AK1 := AK0.ext E18
  have EKx := EK2.ext E18
  have hld : a2 < a18 := by rw [g18]; exact AK0.lt
  have sg19 : own_V p e below T18 (mkF m 122 #[iv xk, iv xa, iv xs, iv xv, iv xw, rv a2, iv ff, iv fr, iv t1, iv t2, iv mo, iv (own_bi bv), iv (own_bi bw), iv (own_K b0 b1 b2 kf), iv (own_K b0 b1 b2 (own_k1 kf)), .unset, .unset, .unset, .unset, .unset, .unset, .unset, .unset, .unset, .unset, .unset, .unset, .unset, .unset, .unset, .unset] [(.ref a2), (.ref a18), (.ref a18)]) (mkF m 119 #[iv xk, iv xa, iv xs, iv xv, iv xw, rv a2, iv ff, iv fr, iv t1, iv t2, iv mo, iv (own_bi bv), iv (own_bi bw), iv (own_K b0 b1 b2 kf), iv (own_K b0 b1 b2 (own_k1 kf)), .unset, .unset, .unset, .unset, .unset, .unset, .unset, .unset, .unset, .unset, .unset, .unset, .unset, .unset, .unset, .unset] [(.ref a18)]) := by
    intro t kt
    refine XS.dup X18.here hx rfl (hb hby at_119) rfl rfl ?_
    show own_S p e below T18 m 120 #[iv xk, iv xa, iv xs, iv xv, iv xw, rv a2, iv ff, iv fr, iv t1, iv t2, iv mo, iv (own_bi bv), iv (own_bi bw), iv (own_K b0 b1 b2 kf), iv (own_K b0 b1 b2 (own_k1 kf)), .unset, .unset, .unset, .unset, .unset, .unset, .unset, .unset, .unset, .unset, .unset, .unset, .unset, .unset, .unset, .unset] [(.ref a18), (.ref a18)] _
    refine XS.aload X18.here hx rfl (hb hby at_120) rfl rfl ?_
    show own_S p e below T18 m 122 #[iv xk, iv xa, iv xs, iv xv, iv xw, rv a2, iv ff, iv fr, iv t1, iv t2, iv mo, iv (own_bi bv), iv (own_bi bw), iv (own_K b0 b1 b2 kf), iv (own_K b0 b1 b2 (own_k1 kf)), .unset, .unset, .unset, .unset, .unset, .unset, .unset, .unset, .unset, .unset, .unset, .unset, .unset, .unset, .unset, .unset] [(.ref a2), (.ref a18), (.ref a18)] _
    exact kt
  refine own_st sg19 ?_
  obtain ⟨_, T20, L20, X20, hQ20, st20⟩ := own_callI (y := (⟨"com/example/kingsround/kingsround/engine/Deliveries", "<init>", "([Z)V"⟩ : MethodName)) (a := a18) X18 hx hZ hown rfl (hw _ (List.mem_of_getElem? (i := 5) rfl)) (hw _ (List.mem_of_getElem? (i := 6) rfl)) (hw _ (List.mem_of_getElem? (i := 4) rfl)) (hw _ (List.mem_of_getElem? (i := 7) rfl)) (by decide) (own_rmini l Z a0 hw a18 a2 (own_K b0 b1 b2) h18 n0 Z18 A18 Finboxes Fkept FkeptParties FtoAll FoneByOne Foutbox Fcount AK1 EKx g_a18 hld) e18 (g := (mkF m 122 #[iv xk, iv xa, iv xs, iv xv, iv xw, rv a2, iv ff, iv fr, iv t1, iv t2, iv mo, iv (own_bi bv), iv (own_bi bw), iv (own_K b0 b1 b2 kf), iv (own_K b0 b1 b2 (own_k1 kf)), .unset, .unset, .unset, .unset, .unset, .unset, .unset, .unset, .unset, .unset, .unset, .unset, .unset, .unset, .unset, .unset] [(.ref a2), (.ref a18), (.ref a18)])) rfl (by rw [hml]; rfl) (argsL := [(.ref a2)]) (rest := [(.ref a18)]) (lenOf own_pd6 rfl) rfl (W := 1) (by show 2 * 0 + _ ≤ _; exact Nat.le_of_eq rfl) (hb hby at_122) (by decide) (by decide) (by decide) (by decide)
  obtain ⟨rfl, Nq20, K20, ib, kp, ta, ob, q, r, HA, HD⟩ := hQ20
  refine own_st st20 ?_
  have Z20 : n0 ≤ T20.heap.size := Nat.le_trans Z18 K20.1
  have N20 := Fr.app N11 Nq20
  show own_Go p e below _ T20 (mkF m 125 #[iv xk, iv xa, iv xs, iv xv, iv xw, rv a2, iv ff, iv fr, iv t1, iv t2, iv mo, iv (own_bi bv), iv (own_bi bw), iv (own_K b0 b1 b2 kf), iv (own_K b0 b1 b2 (own_k1 kf)), .unset, .unset, .unset, .unset, .unset, .unset, .unset, .unset, .unset, .unset, .unset, .unset, .unset, .unset, .unset, .unset] [(.ref a18)])
  have sg21 : own_V p e below T20 (mkF m 127 #[iv xk, iv xa, iv xs, iv xv, iv xw, rv a2, iv ff, iv fr, iv t1, iv t2, iv mo, iv (own_bi bv), iv (own_bi bw), iv (own_K b0 b1 b2 kf), iv (own_K b0 b1 b2 (own_k1 kf)), rv a18, .unset, .unset, .unset, .unset, .unset, .unset, .unset, .unset, .unset, .unset, .unset, .unset, .unset, .unset, .unset] []) (mkF m 125 #[iv xk, iv xa, iv xs, iv xv, iv xw, rv a2, iv ff, iv fr, iv t1, iv t2, iv mo, iv (own_bi bv), iv (own_bi bw), iv (own_K b0 b1 b2 kf), iv (own_K b0 b1 b2 (own_k1 kf)), .unset, .unset, .unset, .unset, .unset, .unset, .unset, .unset, .unset, .unset, .unset, .unset, .unset, .unset, .unset, .unset] [(.ref a18)]) := by
    intro t kt
    refine XS.astore X20.here hx rfl (hb hby at_125) rfl rfl (l' := #[iv xk, iv xa, iv xs, iv xv, iv xw, rv a2, iv ff, iv fr, iv t1, iv t2, iv mo, iv (own_bi bv), iv (own_bi bw), iv (own_K b0 b1 b2 kf), iv (own_K b0 b1 b2 (own_k1 kf)), rv a18, .unset, .unset, .unset, .unset, .unset, .unset, .unset, .unset, .unset, .unset, .unset, .unset, .unset, .unset, .unset]) rfl ?_
    show own_S p e below T20 m 127 #[iv xk, iv xa, iv xs, iv xv, iv xw, rv a2, iv ff, iv fr, iv t1, iv t2, iv mo, iv (own_bi bv), iv (own_bi bw), iv (own_K b0 b1 b2 kf), iv (own_K b0 b1 b2 (own_k1 kf)), rv a18, .unset, .unset, .unset, .unset, .unset, .unset, .unset, .unset, .unset, .unset, .unset, .unset, .unset, .unset, .unset] [] _
    exact kt
  refine own_st sg21 ?_
  rcases own_s4 xs mo hmo with hs4 | hs4 | hs4 | hs4
  · skip
    rw [hs4]
    show own_Go p e below _ T20 (mkF m 127 #[iv xk, iv xa, iv xs, iv xv, iv xw, rv a2, iv ff, iv fr, iv t1, iv t2, iv (0 : Int32), iv (own_bi bv), iv (own_bi bw), iv (own_K b0 b1 b2 kf), iv (own_K b0 b1 b2 (own_k1 kf)), rv a18, .unset, .unset, .unset, .unset, .unset, .unset, .unset, .unset, .unset, .unset, .unset, .unset, .unset, .unset, .unset] [])
    have sg22 : own_V p e below T20 (mkF m 191 #[iv xk, iv xa, iv xs, iv xv, iv xw, rv a2, iv ff, iv fr, iv t1, iv t2, iv (0 : Int32), iv (own_bi bv), iv (own_bi bw), iv (own_K b0 b1 b2 kf), iv (own_K b0 b1 b2 (own_k1 kf)), rv a18, .unset, .unset, .unset, .unset, .unset, .unset, .unset, .unset, .unset, .unset, .unset, .unset, .unset, .unset, .unset] [(.int (own_bi bv)), (.int fr), (.ref a18)]) (mkF m 127 #[iv xk, iv xa, iv xs, iv xv, iv xw, rv a2, iv ff, iv fr, iv t1, iv t2, iv (0 : Int32), iv (own_bi bv), iv (own_bi bw), iv (own_K b0 b1 b2 kf), iv (own_K b0 b1 b2 (own_k1 kf)), rv a18, .unset, .unset, .unset, .unset, .unset, .unset, .unset, .unset, .unset, .unset, .unset, .unset, .unset, .unset, .unset] []) := by
      intro t kt
      refine XS.iload X20.here hx rfl (hb hby at_127) rfl ?_
      show own_S p e below T20 m 129 #[iv xk, iv xa, iv xs, iv xv, iv xw, rv a2, iv ff, iv fr, iv t1, iv t2, iv (0 : Int32), iv (own_bi bv), iv (own_bi bw), iv (own_K b0 b1 b2 kf), iv (own_K b0 b1 b2 (own_k1 kf)), rv a18, .unset, .unset, .unset, .unset, .unset, .unset, .unset, .unset, .unset, .unset, .unset, .unset, .unset, .unset, .unset] [(.int (0 : Int32))] _
      refine XS.iconst X20.here hx rfl (hb hby at_129) ?_
      show own_S p e below T20 m 130 #[iv xk, iv xa, iv xs, iv xv, iv xw, rv a2, iv ff, iv fr, iv t1, iv t2, iv (0 : Int32), iv (own_bi bv), iv (own_bi bw), iv (own_K b0 b1 b2 kf), iv (own_K b0 b1 b2 (own_k1 kf)), rv a18, .unset, .unset, .unset, .unset, .unset, .unset, .unset, .unset, .unset, .unset, .unset, .unset, .unset, .unset, .unset] [(.int (1 : Int32)), (.int (0 : Int32))] _
      refine XS.icmpYes X20.here hx rfl (pc0 := 130) (pc' := 148) rfl (hb hby at_130) rfl (feq (by decide : ¬ (0 : Int32) = (1 : Int32))).2 (by decide) (by decide) ?_
      show own_S p e below T20 m 148 #[iv xk, iv xa, iv xs, iv xv, iv xw, rv a2, iv ff, iv fr, iv t1, iv t2, iv (0 : Int32), iv (own_bi bv), iv (own_bi bw), iv (own_K b0 b1 b2 kf), iv (own_K b0 b1 b2 (own_k1 kf)), rv a18, .unset, .unset, .unset, .unset, .unset, .unset, .unset, .unset, .unset, .unset, .unset, .unset, .unset, .unset, .unset] [] _
      refine XS.iload X20.here hx rfl (hb hby at_148) rfl ?_
      show own_S p e below T20 m 150 #[iv xk, iv xa, iv xs, iv xv, iv xw, rv a2, iv ff, iv fr, iv t1, iv t2, iv (0 : Int32), iv (own_bi bv), iv (own_bi bw), iv (own_K b0 b1 b2 kf), iv (own_K b0 b1 b2 (own_k1 kf)), rv a18, .unset, .unset, .unset, .unset, .unset, .unset, .unset, .unset, .unset, .unset, .unset, .unset, .unset, .unset, .unset] [(.int (0 : Int32))] _
      refine XS.iconst X20.here hx rfl (hb hby at_150) ?_
      show own_S p e below T20 m 151 #[iv xk, iv xa, iv xs, iv xv, iv xw, rv a2, iv ff, iv fr, iv t1, iv t2, iv (0 : Int32), iv (own_bi bv), iv (own_bi bw), iv (own_K b0 b1 b2 kf), iv (own_K b0 b1 b2 (own_k1 kf)), rv a18, .unset, .unset, .unset, .unset, .unset, .unset, .unset, .unset, .unset, .unset, .unset, .unset, .unset, .unset, .unset] [(.int (2 : Int32)), (.int (0 : Int32))] _
      refine XS.icmpYes X20.here hx rfl (pc0 := 151) (pc' := 167) rfl (hb hby at_151) rfl (feq (by decide : ¬ (0 : Int32) = (2 : Int32))).2 (by decide) (by decide) ?_
      show own_S p e below T20 m 167 #[iv xk, iv xa, iv xs, iv xv, iv xw, rv a2, iv ff, iv fr, iv t1, iv t2, iv (0 : Int32), iv (own_bi bv), iv (own_bi bw), iv (own_K b0 b1 b2 kf), iv (own_K b0 b1 b2 (own_k1 kf)), rv a18, .unset, .unset, .unset, .unset, .unset, .unset, .unset, .unset, .unset, .unset, .unset, .unset, .unset, .unset, .unset] [] _
      refine XS.iload X20.here hx rfl (hb hby at_167) rfl ?_
      show own_S p e below T20 m 169 #[iv xk, iv xa, iv xs, iv xv, iv xw, rv a2, iv ff, iv fr, iv t1, iv t2, iv (0 : Int32), iv (own_bi bv), iv (own_bi bw), iv (own_K b0 b1 b2 kf), iv (own_K b0 b1 b2 (own_k1 kf)), rv a18, .unset, .unset, .unset, .unset, .unset, .unset, .unset, .unset, .unset, .unset, .unset, .unset, .unset, .unset, .unset] [(.int (0 : Int32))] _
      refine XS.iconst X20.here hx rfl (hb hby at_169) ?_
      show own_S p e below T20 m 170 #[iv xk, iv xa, iv xs, iv xv, iv xw, rv a2, iv ff, iv fr, iv t1, iv t2, iv (0 : Int32), iv (own_bi bv), iv (own_bi bw), iv (own_K b0 b1 b2 kf), iv (own_K b0 b1 b2 (own_k1 kf)), rv a18, .unset, .unset, .unset, .unset, .unset, .unset, .unset, .unset, .unset, .unset, .unset, .unset, .unset, .unset, .unset] [(.int (3 : Int32)), (.int (0 : Int32))] _
      refine XS.icmpYes X20.here hx rfl (pc0 := 170) (pc' := 185) rfl (hb hby at_170) rfl (feq (by decide : ¬ (0 : Int32) = (3 : Int32))).2 (by decide) (by decide) ?_
      show own_S p e below T20 m 185 #[iv xk, iv xa, iv xs, iv xv, iv xw, rv a2, iv ff, iv fr, iv t1, iv t2, iv (0 : Int32), iv (own_bi bv), iv (own_bi bw), iv (own_K b0 b1 b2 kf), iv (own_K b0 b1 b2 (own_k1 kf)), rv a18, .unset, .unset, .unset, .unset, .unset, .unset, .unset, .unset, .unset, .unset, .unset, .unset, .unset, .unset, .unset] [] _
      refine XS.aload X20.here hx rfl (hb hby at_185) rfl rfl ?_
      show own_S p e below T20 m 187 #[iv xk, iv xa, iv xs, iv xv, iv xw, rv a2, iv ff, iv fr, iv t1, iv t2, iv (0 : Int32), iv (own_bi bv), iv (own_bi bw), iv (own_K b0 b1 b2 kf), iv (own_K b0 b1 b2 (own_k1 kf)), rv a18, .unset, .unset, .unset, .unset, .unset, .unset, .unset, .unset, .unset, .unset, .unset, .unset, .unset, .unset, .unset] [(.ref a18)] _
      refine XS.iload X20.here hx rfl (hb hby at_187) rfl ?_
      show own_S p e below T20 m 189 #[iv xk, iv xa, iv xs, iv xv, iv xw, rv a2, iv ff, iv fr, iv t1, iv t2, iv (0 : Int32), iv (own_bi bv), iv (own_bi bw), iv (own_K b0 b1 b2 kf), iv (own_K b0 b1 b2 (own_k1 kf)), rv a18, .unset, .unset, .unset, .unset, .unset, .unset, .unset, .unset, .unset, .unset, .unset, .unset, .unset, .unset, .unset] [(.int fr), (.ref a18)] _
      refine XS.iload X20.here hx rfl (hb hby at_189) rfl ?_
      show own_S p e below T20 m 191 #[iv xk, iv xa, iv xs, iv xv, iv xw, rv a2, iv ff, iv fr, iv t1, iv t2, iv (0 : Int32), iv (own_bi bv), iv (own_bi bw), iv (own_K b0 b1 b2 kf), iv (own_K b0 b1 b2 (own_k1 kf)), rv a18, .unset, .unset, .unset, .unset, .unset, .unset, .unset, .unset, .unset, .unset, .unset, .unset, .unset, .unset, .unset] [(.int (own_bi bv)), (.int fr), (.ref a18)] _
      exact kt
    refine own_st sg22 ?_
    obtain ⟨_, T23, L23, X23, hQ23, st23⟩ := own_callV (y := (⟨"com/example/kingsround/kingsround/engine/Deliveries", "putToAll", "(II)Z"⟩ : MethodName)) (y0 := (⟨"com/example/kingsround/kingsround/engine/Deliveries", "putToAll", "(II)Z"⟩ : MethodName)) (a := a18) (C := "com/example/kingsround/kingsround/engine/Deliveries") X20 hx hZ hown HD.1 (hw _ (List.mem_of_getElem? (i := 77) rfl)) (hw _ (List.mem_of_getElem? (i := 78) rfl)) (hw _ (List.mem_of_getElem? (i := 80) rfl)) (notFace_of_selects (args := #[]) (mvT hZ (hw _ (List.mem_of_getElem? (i := 80) rfl)))) (hw _ (List.mem_of_getElem? (i := 79) rfl)) (hw _ (List.mem_of_getElem? (i := 4) rfl)) (hw _ (List.mem_of_getElem? (i := 81) rfl)) (by decide) (own_rmpta l Z a0 hw a18 fr (own_bi bv) ib kp ta ob q r (own_K b0 b1 b2) (fun _ => -1) (fun _ => 0) (fun _ _ => -1) 0 kf T20.heap n0 Z20 HA HD hkf hf3) rfl (g := (mkF m 191 #[iv xk, iv xa, iv xs, iv xv, iv xw, rv a2, iv ff, iv fr, iv t1, iv t2, iv (0 : Int32), iv (own_bi bv), iv (own_bi bw), iv (own_K b0 b1 b2 kf), iv (own_K b0 b1 b2 (own_k1 kf)), rv a18, .unset, .unset, .unset, .unset, .unset, .unset, .unset, .unset, .unset, .unset, .unset, .unset, .unset, .unset, .unset] [(.int (own_bi bv)), (.int fr), (.ref a18)])) rfl (by rw [hml]; rfl) (argsL := [(.int fr), (.int (own_bi bv))]) (rest := []) (lenOf own_pd7 rfl) rfl (W := 0) (by show 2 * 0 + _ ≤ _; exact Nat.le_of_eq rfl) (hb hby at_191) (by decide) (by decide) (by decide) (by decide)
    obtain ⟨rfl, Nq23, Sz23, HD23⟩ := hQ23
    refine own_st st23 ?_
    have Z23 : n0 ≤ T23.heap.size := Nat.le_trans Z20 Sz23
    have N23 := Fr.app N20 Nq23
    show own_Go p e below _ T23 (mkF m 194 #[iv xk, iv xa, iv xs, iv xv, iv xw, rv a2, iv ff, iv fr, iv t1, iv t2, iv (0 : Int32), iv (own_bi bv), iv (own_bi bw), iv (own_K b0 b1 b2 kf), iv (own_K b0 b1 b2 (own_k1 kf)), rv a18, .unset, .unset, .unset, .unset, .unset, .unset, .unset, .unset, .unset, .unset, .unset, .unset, .unset, .unset, .unset] [(.int (own_ar (own_K b0 b1 b2) (fun _ => -1) (fun _ => 0) kf))])
    obtain ⟨ress0, hress0⟩ : ∃ z : Int32, z = (own_ar (own_K b0 b1 b2) (fun _ => -1) (fun _ => 0) kf) := ⟨_, rfl⟩
    have sg24 : own_V p e below T23 (mkF m 198 #[iv xk, iv xa, iv xs, iv xv, iv xw, rv a2, iv ff, iv fr, iv t1, iv t2, iv (0 : Int32), iv (own_bi bv), iv (own_bi bw), iv (own_K b0 b1 b2 kf), iv (own_K b0 b1 b2 (own_k1 kf)), rv a18, iv ress0, .unset, .unset, .unset, .unset, .unset, .unset, .unset, .unset, .unset, .unset, .unset, .unset, .unset, .unset] [(.ref a18)]) (mkF m 194 #[iv xk, iv xa, iv xs, iv xv, iv xw, rv a2, iv ff, iv fr, iv t1, iv t2, iv (0 : Int32), iv (own_bi bv), iv (own_bi bw), iv (own_K b0 b1 b2 kf), iv (own_K b0 b1 b2 (own_k1 kf)), rv a18, .unset, .unset, .unset, .unset, .unset, .unset, .unset, .unset, .unset, .unset, .unset, .unset, .unset, .unset, .unset] [(.int (own_ar (own_K b0 b1 b2) (fun _ => -1) (fun _ => 0) kf))]) := by
      intro t kt
      refine XS.istore X23.here hx rfl (hb hby at_194) rfl (l' := #[iv xk, iv xa, iv xs, iv xv, iv xw, rv a2, iv ff, iv fr, iv t1, iv t2, iv (0 : Int32), iv (own_bi bv), iv (own_bi bw), iv (own_K b0 b1 b2 kf), iv (own_K b0 b1 b2 (own_k1 kf)), rv a18, iv (own_ar (own_K b0 b1 b2) (fun _ => -1) (fun _ => 0) kf), .unset, .unset, .unset, .unset, .unset, .unset, .unset, .unset, .unset, .unset, .unset, .unset, .unset, .unset]) rfl ?_
      show own_S p e below T23 m 196 #[iv xk, iv xa, iv xs, iv xv, iv xw, rv a2, iv ff, iv fr, iv t1, iv t2, iv (0 : Int32), iv (own_bi bv), iv (own_bi bw), iv (own_K b0 b1 b2 kf), iv (own_K b0 b1 b2 (own_k1 kf)), rv a18, iv (own_ar (own_K b0 b1 b2) (fun _ => -1) (fun _ => 0) kf), .unset, .unset, .unset, .unset, .unset, .unset, .unset, .unset, .unset, .unset, .unset, .unset, .unset, .unset] [] _
      refine XS.aload X23.here hx rfl (hb hby at_196) rfl rfl ?_
      show own_S p e below T23 m 198 #[iv xk, iv xa, iv xs, iv xv, iv xw, rv a2, iv ff, iv fr, iv t1, iv t2, iv (0 : Int32), iv (own_bi bv), iv (own_bi bw), iv (own_K b0 b1 b2 kf), iv (own_K b0 b1 b2 (own_k1 kf)), rv a18, iv (own_ar (own_K b0 b1 b2) (fun _ => -1) (fun _ => 0) kf), .unset, .unset, .unset, .unset, .unset, .unset, .unset, .unset, .unset, .unset, .unset, .unset, .unset, .unset] [(.ref a18)] _
      rw [hress0] at kt
      exact kt
    refine own_st sg24 ?_
    obtain ⟨_, T25, L25, X25, hQ25, st25⟩ := own_callV (y := (⟨"com/example/kingsround/kingsround/engine/Deliveries", "count", "()J"⟩ : MethodName)) (y0 := (⟨"com/example/kingsround/kingsround/engine/Deliveries", "count", "()J"⟩ : MethodName)) (a := a18) (C := "com/example/kingsround/kingsround/engine/Deliveries") X23 hx hZ hown HD23.1 (hw _ (List.mem_of_getElem? (i := 82) rfl)) (hw _ (List.mem_of_getElem? (i := 83) rfl)) (hw _ (List.mem_of_getElem? (i := 85) rfl)) (notFace_of_selects (args := #[]) (mvT hZ (hw _ (List.mem_of_getElem? (i := 85) rfl)))) (hw _ (List.mem_of_getElem? (i := 84) rfl)) (hw _ (List.mem_of_getElem? (i := 4) rfl)) (hw _ (List.mem_of_getElem? (i := 86) rfl)) (by decide) (own_rmcnt l Z a0 hw a18  ib kp ta ob q r (own_K b0 b1 b2) (own_aT (own_K b0 b1 b2) (fun _ => -1) (fun _ => 0) kf (own_bi bv)) (fun _ => 0) (fun _ _ => -1) (own_ac (own_K b0 b1 b2) (fun _ => -1) (fun _ => 0) kf 0)  T23.heap n0 Z23 HA HD23 ) rfl (g := (mkF m 198 #[iv xk, iv xa, iv xs, iv xv, iv xw, rv a2, iv ff, iv fr, iv t1, iv t2, iv (0 : Int32), iv (own_bi bv), iv (own_bi bw), iv (own_K b0 b1 b2 kf), iv (own_K b0 b1 b2 (own_k1 kf)), rv a18, iv ress0, .unset, .unset, .unset, .unset, .unset, .unset, .unset, .unset, .unset, .unset, .unset, .unset, .unset, .unset] [(.ref a18)])) rfl (by rw [hml]; rfl) (argsL := []) (rest := []) (lenOf own_pd8 rfl) rfl (W := 0) (by show 2 * 0 + _ ≤ _; exact Nat.le_of_eq rfl) (hb hby at_198) (by decide) (by decide) (by decide) (by decide)
    obtain ⟨rfl, Nq25, e25⟩ := hQ25
    refine own_st st25 ?_
    have N25 := Fr.app N23 Nq25
    show own_Go p e below _ T25 (mkF m 201 #[iv xk, iv xa, iv xs, iv xv, iv xw, rv a2, iv ff, iv fr, iv t1, iv t2, iv (0 : Int32), iv (own_bi bv), iv (own_bi bw), iv (own_K b0 b1 b2 kf), iv (own_K b0 b1 b2 (own_k1 kf)), rv a18, iv ress0, .unset, .unset, .unset, .unset, .unset, .unset, .unset, .unset, .unset, .unset, .unset, .unset, .unset, .unset] [(.long (own_ac (own_K b0 b1 b2) (fun _ => -1) (fun _ => 0) kf 0))])
    obtain ⟨cns0, hcns0⟩ : ∃ z : Int64, z = (own_ac (own_K b0 b1 b2) (fun _ => -1) (fun _ => 0) kf 0) := ⟨_, rfl⟩
    have sg26 : own_V p e below T25 (mkF m 209 #[iv xk, iv xa, iv xs, iv xv, iv xw, rv a2, iv ff, iv fr, iv t1, iv t2, iv (0 : Int32), iv (own_bi bv), iv (own_bi bw), iv (own_K b0 b1 b2 kf), iv (own_K b0 b1 b2 (own_k1 kf)), rv a18, iv ress0, own_lv cns0, .second, .unset, .unset, .unset, .unset, .unset, .unset, .unset, .unset, .unset, .unset, .unset, .unset] [(.int t1), (.int fr), (.ref a18)]) (mkF m 201 #[iv xk, iv xa, iv xs, iv xv, iv xw, rv a2, iv ff, iv fr, iv t1, iv t2, iv (0 : Int32), iv (own_bi bv), iv (own_bi bw), iv (own_K b0 b1 b2 kf), iv (own_K b0 b1 b2 (own_k1 kf)), rv a18, iv ress0, .unset, .unset, .unset, .unset, .unset, .unset, .unset, .unset, .unset, .unset, .unset, .unset, .unset, .unset] [(.long (own_ac (own_K b0 b1 b2) (fun _ => -1) (fun _ => 0) kf 0))]) := by
      intro t kt
      refine XS.lstore X25.here hx rfl (hb hby at_201) rfl (l' := #[iv xk, iv xa, iv xs, iv xv, iv xw, rv a2, iv ff, iv fr, iv t1, iv t2, iv (0 : Int32), iv (own_bi bv), iv (own_bi bw), iv (own_K b0 b1 b2 kf), iv (own_K b0 b1 b2 (own_k1 kf)), rv a18, iv ress0, own_lv (own_ac (own_K b0 b1 b2) (fun _ => -1) (fun _ => 0) kf 0), .second, .unset, .unset, .unset, .unset, .unset, .unset, .unset, .unset, .unset, .unset, .unset, .unset]) rfl ?_
      show own_S p e below T25 m 203 #[iv xk, iv xa, iv xs, iv xv, iv xw, rv a2, iv ff, iv fr, iv t1, iv t2, iv (0 : Int32), iv (own_bi bv), iv (own_bi bw), iv (own_K b0 b1 b2 kf), iv (own_K b0 b1 b2 (own_k1 kf)), rv a18, iv ress0, own_lv (own_ac (own_K b0 b1 b2) (fun _ => -1) (fun _ => 0) kf 0), .second, .unset, .unset, .unset, .unset, .unset, .unset, .unset, .unset, .unset, .unset, .unset, .unset] [] _
      refine XS.aload X25.here hx rfl (hb hby at_203) rfl rfl ?_
      show own_S p e below T25 m 205 #[iv xk, iv xa, iv xs, iv xv, iv xw, rv a2, iv ff, iv fr, iv t1, iv t2, iv (0 : Int32), iv (own_bi bv), iv (own_bi bw), iv (own_K b0 b1 b2 kf), iv (own_K b0 b1 b2 (own_k1 kf)), rv a18, iv ress0, own_lv (own_ac (own_K b0 b1 b2) (fun _ => -1) (fun _ => 0) kf 0), .second, .unset, .unset, .unset, .unset, .unset, .unset, .unset, .unset, .unset, .unset, .unset, .unset] [(.ref a18)] _
      refine XS.iload X25.here hx rfl (hb hby at_205) rfl ?_
      show own_S p e below T25 m 207 #[iv xk, iv xa, iv xs, iv xv, iv xw, rv a2, iv ff, iv fr, iv t1, iv t2, iv (0 : Int32), iv (own_bi bv), iv (own_bi bw), iv (own_K b0 b1 b2 kf), iv (own_K b0 b1 b2 (own_k1 kf)), rv a18, iv ress0, own_lv (own_ac (own_K b0 b1 b2) (fun _ => -1) (fun _ => 0) kf 0), .second, .unset, .unset, .unset, .unset, .unset, .unset, .unset, .unset, .unset, .unset, .unset, .unset] [(.int fr), (.ref a18)] _
      refine XS.iload X25.here hx rfl (hb hby at_207) rfl ?_
      show own_S p e below T25 m 209 #[iv xk, iv xa, iv xs, iv xv, iv xw, rv a2, iv ff, iv fr, iv t1, iv t2, iv (0 : Int32), iv (own_bi bv), iv (own_bi bw), iv (own_K b0 b1 b2 kf), iv (own_K b0 b1 b2 (own_k1 kf)), rv a18, iv ress0, own_lv (own_ac (own_K b0 b1 b2) (fun _ => -1) (fun _ => 0) kf 0), .second, .unset, .unset, .unset, .unset, .unset, .unset, .unset, .unset, .unset, .unset, .unset, .unset] [(.int t1), (.int fr), (.ref a18)] _
      rw [hcns0] at kt
      exact kt
    refine own_st sg26 ?_
    obtain ⟨_, T27, L27, X27, hQ27, st27⟩ := own_callV (y := (⟨"com/example/kingsround/kingsround/engine/Deliveries", "value", "(II)I"⟩ : MethodName)) (y0 := (⟨"com/example/kingsround/kingsround/engine/Deliveries", "value", "(II)I"⟩ : MethodName)) (a := a18) (C := "com/example/kingsround/kingsround/engine/Deliveries") X25 hx hZ hown HD23.1 (hw _ (List.mem_of_getElem? (i := 89) rfl)) (hw _ (List.mem_of_getElem? (i := 90) rfl)) (hw _ (List.mem_of_getElem? (i := 92) rfl)) (notFace_of_selects (args := #[]) (mvT hZ (hw _ (List.mem_of_getElem? (i := 92) rfl)))) (hw _ (List.mem_of_getElem? (i := 91) rfl)) (hw _ (List.mem_of_getElem? (i := 4) rfl)) (hw _ (List.mem_of_getElem? (i := 93) rfl)) (by decide) (own_rmval l Z a0 hw a18 fr t1 ib kp ta ob q r (own_K b0 b1 b2) (own_aT (own_K b0 b1 b2) (fun _ => -1) (fun _ => 0) kf (own_bi bv)) (fun _ => 0) (fun _ _ => -1) (own_ac (own_K b0 b1 b2) (fun _ => -1) (fun _ => 0) kf 0) kf (own_k1 kf) T23.heap n0 Z23 HA HD23 hkf hk1.1 hf3 hk1.2) e25 (g := (mkF m 209 #[iv xk, iv xa, iv xs, iv xv, iv xw, rv a2, iv ff, iv fr, iv t1, iv t2, iv (0 : Int32), iv (own_bi bv), iv (own_bi bw), iv (own_K b0 b1 b2 kf), iv (own_K b0 b1 b2 (own_k1 kf)), rv a18, iv ress0, own_lv cns0, .second, .unset, .unset, .unset, .unset, .unset, .unset, .unset, .unset, .unset, .unset, .unset, .unset] [(.int t1), (.int fr), (.ref a18)])) rfl (by rw [hml]; rfl) (argsL := [(.int fr), (.int t1)]) (rest := []) (lenOf own_pd9 rfl) rfl (W := 0) (by show 2 * 0 + _ ≤ _; exact Nat.le_of_eq rfl) (hb hby at_209) (by decide) (by decide) (by decide) (by decide)
    obtain ⟨rfl, Nq27, e27⟩ := hQ27
    refine own_st st27 ?_
    have N27 := Fr.app N25 Nq27
    show own_Go p e below _ T27 (mkF m 212 #[iv xk, iv xa, iv xs, iv xv, iv xw, rv a2, iv ff, iv fr, iv t1, iv t2, iv (0 : Int32), iv (own_bi bv), iv (own_bi bw), iv (own_K b0 b1 b2 kf), iv (own_K b0 b1 b2 (own_k1 kf)), rv a18, iv ress0, own_lv cns0, .second, .unset, .unset, .unset, .unset, .unset, .unset, .unset, .unset, .unset, .unset, .unset, .unset] [(.int (own_val (own_aT (own_K b0 b1 b2) (fun _ => -1) (fun _ => 0) kf (own_bi bv)) (fun _ _ => -1) kf (own_k1 kf)))])
    obtain ⟨vas0, hvas0⟩ : ∃ z : Int32, z = (own_val (own_aT (own_K b0 b1 b2) (fun _ => -1) (fun _ => 0) kf (own_bi bv)) (fun _ _ => -1) kf (own_k1 kf)) := ⟨_, rfl⟩
    have sg28 : own_V p e below T27 (mkF m 220 #[iv xk, iv xa, iv xs, iv xv, iv xw, rv a2, iv ff, iv fr, iv t1, iv t2, iv (0 : Int32), iv (own_bi bv), iv (own_bi bw), iv (own_K b0 b1 b2 kf), iv (own_K b0 b1 b2 (own_k1 kf)), rv a18, iv ress0, own_lv cns0, .second, iv vas0, .unset, .unset, .unset, .unset, .unset, .unset, .unset, .unset, .unset, .unset, .unset] [(.int t2), (.int fr), (.ref a18)]) (mkF m 212 #[iv xk, iv xa, iv xs, iv xv, iv xw, rv a2, iv ff, iv fr, iv t1, iv t2, iv (0 : Int32), iv (own_bi bv), iv (own_bi bw), iv (own_K b0 b1 b2 kf), iv (own_K b0 b1 b2 (own_k1 kf)), rv a18, iv ress0, own_lv cns0, .second, .unset, .unset, .unset, .unset, .unset, .unset, .unset, .unset, .unset, .unset, .unset, .unset] [(.int (own_val (own_aT (own_K b0 b1 b2) (fun _ => -1) (fun _ => 0) kf (own_bi bv)) (fun _ _ => -1) kf (own_k1 kf)))]) := by
      intro t kt
      refine XS.istore X27.here hx rfl (hb hby at_212) rfl (l' := #[iv xk, iv xa, iv xs, iv xv, iv xw, rv a2, iv ff, iv fr, iv t1, iv t2, iv (0 : Int32), iv (own_bi bv), iv (own_bi bw), iv (own_K b0 b1 b2 kf), iv (own_K b0 b1 b2 (own_k1 kf)), rv a18, iv ress0, own_lv cns0, .second, iv (own_val (own_aT (own_K b0 b1 b2) (fun _ => -1) (fun _ => 0) kf (own_bi bv)) (fun _ _ => -1) kf (own_k1 kf)), .unset, .unset, .unset, .unset, .unset, .unset, .unset, .unset, .unset, .unset, .unset]) rfl ?_
      show own_S p e below T27 m 214 #[iv xk, iv xa, iv xs, iv xv, iv xw, rv a2, iv ff, iv fr, iv t1, iv t2, iv (0 : Int32), iv (own_bi bv), iv (own_bi bw), iv (own_K b0 b1 b2 kf), iv (own_K b0 b1 b2 (own_k1 kf)), rv a18, iv ress0, own_lv cns0, .second, iv (own_val (own_aT (own_K b0 b1 b2) (fun _ => -1) (fun _ => 0) kf (own_bi bv)) (fun _ _ => -1) kf (own_k1 kf)), .unset, .unset, .unset, .unset, .unset, .unset, .unset, .unset, .unset, .unset, .unset] [] _
      refine XS.aload X27.here hx rfl (hb hby at_214) rfl rfl ?_
      show own_S p e below T27 m 216 #[iv xk, iv xa, iv xs, iv xv, iv xw, rv a2, iv ff, iv fr, iv t1, iv t2, iv (0 : Int32), iv (own_bi bv), iv (own_bi bw), iv (own_K b0 b1 b2 kf), iv (own_K b0 b1 b2 (own_k1 kf)), rv a18, iv ress0, own_lv cns0, .second, iv (own_val (own_aT (own_K b0 b1 b2) (fun _ => -1) (fun _ => 0) kf (own_bi bv)) (fun _ _ => -1) kf (own_k1 kf)), .unset, .unset, .unset, .unset, .unset, .unset, .unset, .unset, .unset, .unset, .unset] [(.ref a18)] _
      refine XS.iload X27.here hx rfl (hb hby at_216) rfl ?_
      show own_S p e below T27 m 218 #[iv xk, iv xa, iv xs, iv xv, iv xw, rv a2, iv ff, iv fr, iv t1, iv t2, iv (0 : Int32), iv (own_bi bv), iv (own_bi bw), iv (own_K b0 b1 b2 kf), iv (own_K b0 b1 b2 (own_k1 kf)), rv a18, iv ress0, own_lv cns0, .second, iv (own_val (own_aT (own_K b0 b1 b2) (fun _ => -1) (fun _ => 0) kf (own_bi bv)) (fun _ _ => -1) kf (own_k1 kf)), .unset, .unset, .unset, .unset, .unset, .unset, .unset, .unset, .unset, .unset, .unset] [(.int fr), (.ref a18)] _
      refine XS.iload X27.here hx rfl (hb hby at_218) rfl ?_
      show own_S p e below T27 m 220 #[iv xk, iv xa, iv xs, iv xv, iv xw, rv a2, iv ff, iv fr, iv t1, iv t2, iv (0 : Int32), iv (own_bi bv), iv (own_bi bw), iv (own_K b0 b1 b2 kf), iv (own_K b0 b1 b2 (own_k1 kf)), rv a18, iv ress0, own_lv cns0, .second, iv (own_val (own_aT (own_K b0 b1 b2) (fun _ => -1) (fun _ => 0) kf (own_bi bv)) (fun _ _ => -1) kf (own_k1 kf)), .unset, .unset, .unset, .unset, .unset, .unset, .unset, .unset, .unset, .unset, .unset] [(.int t2), (.int fr), (.ref a18)] _
      rw [hvas0] at kt
      exact kt
    refine own_st sg28 ?_
    obtain ⟨_, T29, L29, X29, hQ29, st29⟩ := own_callV (y := (⟨"com/example/kingsround/kingsround/engine/Deliveries", "value", "(II)I"⟩ : MethodName)) (y0 := (⟨"com/example/kingsround/kingsround/engine/Deliveries", "value", "(II)I"⟩ : MethodName)) (a := a18) (C := "com/example/kingsround/kingsround/engine/Deliveries") X27 hx hZ hown HD23.1 (hw _ (List.mem_of_getElem? (i := 89) rfl)) (hw _ (List.mem_of_getElem? (i := 90) rfl)) (hw _ (List.mem_of_getElem? (i := 92) rfl)) (notFace_of_selects (args := #[]) (mvT hZ (hw _ (List.mem_of_getElem? (i := 92) rfl)))) (hw _ (List.mem_of_getElem? (i := 91) rfl)) (hw _ (List.mem_of_getElem? (i := 4) rfl)) (hw _ (List.mem_of_getElem? (i := 93) rfl)) (by decide) (own_rmval l Z a0 hw a18 fr t2 ib kp ta ob q r (own_K b0 b1 b2) (own_aT (own_K b0 b1 b2) (fun _ => -1) (fun _ => 0) kf (own_bi bv)) (fun _ => 0) (fun _ _ => -1) (own_ac (own_K b0 b1 b2) (fun _ => -1) (fun _ => 0) kf 0) kf (own_k2 kf) T23.heap n0 Z23 HA HD23 hkf hk2.1 hf3 hk2.2) e27 (g := (mkF m 220 #[iv xk, iv xa, iv xs, iv xv, iv xw, rv a2, iv ff, iv fr, iv t1, iv t2, iv (0 : Int32), iv (own_bi bv), iv (own_bi bw), iv (own_K b0 b1 b2 kf), iv (own_K b0 b1 b2 (own_k1 kf)), rv a18, iv ress0, own_lv cns0, .second, iv vas0, .unset, .unset, .unset, .unset, .unset, .unset, .unset, .unset, .unset, .unset, .unset] [(.int t2), (.int fr), (.ref a18)])) rfl (by rw [hml]; rfl) (argsL := [(.int fr), (.int t2)]) (rest := []) (lenOf own_pd9 rfl) rfl (W := 0) (by show 2 * 0 + _ ≤ _; exact Nat.le_of_eq rfl) (hb hby at_220) (by decide) (by decide) (by decide) (by decide)
    obtain ⟨rfl, Nq29, e29⟩ := hQ29
    refine own_st st29 ?_
    have N29 := Fr.app N27 Nq29
    show own_Go p e below _ T29 (mkF m 223 #[iv xk, iv xa, iv xs, iv xv, iv xw, rv a2, iv ff, iv fr, iv t1, iv t2, iv (0 : Int32), iv (own_bi bv), iv (own_bi bw), iv (own_K b0 b1 b2 kf), iv (own_K b0 b1 b2 (own_k1 kf)), rv a18, iv ress0, own_lv cns0, .second, iv vas0, .unset, .unset, .unset, .unset, .unset, .unset, .unset, .unset, .unset, .unset, .unset] [(.int (own_val (own_aT (own_K b0 b1 b2) (fun _ => -1) (fun _ => 0) kf (own_bi bv)) (fun _ _ => -1) kf (own_k2 kf)))])
    obtain ⟨vbs0, hvbs0⟩ : ∃ z : Int32, z = (own_val (own_aT (own_K b0 b1 b2) (fun _ => -1) (fun _ => 0) kf (own_bi bv)) (fun _ _ => -1) kf (own_k2 kf)) := ⟨_, rfl⟩
    have sg30 : own_V p e below T29 (mkF m 231 #[iv xk, iv xa, iv xs, iv xv, iv xw, rv a2, iv ff, iv fr, iv t1, iv t2, iv (0 : Int32), iv (own_bi bv), iv (own_bi bw), iv (own_K b0 b1 b2 kf), iv (own_K b0 b1 b2 (own_k1 kf)), rv a18, iv ress0, own_lv cns0, .second, iv vas0, iv vbs0, .unset, .unset, .unset, .unset, .unset, .unset, .unset, .unset, .unset, .unset] [(.int fr), (.int fr), (.ref a18)]) (mkF m 223 #[iv xk, iv xa, iv xs, iv xv, iv xw, rv a2, iv ff, iv fr, iv t1, iv t2, iv (0 : Int32), iv (own_bi bv), iv (own_bi bw), iv (own_K b0 b1 b2 kf), iv (own_K b0 b1 b2 (own_k1 kf)), rv a18, iv ress0, own_lv cns0, .second, iv vas0, .unset, .unset, .unset, .unset, .unset, .unset, .unset, .unset, .unset, .unset, .unset] [(.int (own_val (own_aT (own_K b0 b1 b2) (fun _ => -1) (fun _ => 0) kf (own_bi bv)) (fun _ _ => -1) kf (own_k2 kf)))]) := by
      intro t kt
      refine XS.istore X29.here hx rfl (hb hby at_223) rfl (l' := #[iv xk, iv xa, iv xs, iv xv, iv xw, rv a2, iv ff, iv fr, iv t1, iv t2, iv (0 : Int32), iv (own_bi bv), iv (own_bi bw), iv (own_K b0 b1 b2 kf), iv (own_K b0 b1 b2 (own_k1 kf)), rv a18, iv ress0, own_lv cns0, .second, iv vas0, iv (own_val (own_aT (own_K b0 b1 b2) (fun _ => -1) (fun _ => 0) kf (own_bi bv)) (fun _ _ => -1) kf (own_k2 kf)), .unset, .unset, .unset, .unset, .unset, .unset, .unset, .unset, .unset, .unset]) rfl ?_
      show own_S p e below T29 m 225 #[iv xk, iv xa, iv xs, iv xv, iv xw, rv a2, iv ff, iv fr, iv t1, iv t2, iv (0 : Int32), iv (own_bi bv), iv (own_bi bw), iv (own_K b0 b1 b2 kf), iv (own_K b0 b1 b2 (own_k1 kf)), rv a18, iv ress0, own_lv cns0, .second, iv vas0, iv (own_val (own_aT (own_K b0 b1 b2) (fun _ => -1) (fun _ => 0) kf (own_bi bv)) (fun _ _ => -1) kf (own_k2 kf)), .unset, .unset, .unset, .unset, .unset, .unset, .unset, .unset, .unset, .unset] [] _
      refine XS.aload X29.here hx rfl (hb hby at_225) rfl rfl ?_
      show own_S p e below T29 m 227 #[iv xk, iv xa, iv xs, iv xv, iv xw, rv a2, iv ff, iv fr, iv t1, iv t2, iv (0 : Int32), iv (own_bi bv), iv (own_bi bw), iv (own_K b0 b1 b2 kf), iv (own_K b0 b1 b2 (own_k1 kf)), rv a18, iv ress0, own_lv cns0, .second, iv vas0, iv (own_val (own_aT (own_K b0 b1 b2) (fun _ => -1) (fun _ => 0) kf (own_bi bv)) (fun _ _ => -1) kf (own_k2 kf)), .unset, .unset, .unset, .unset, .unset, .unset, .unset, .unset, .unset, .unset] [(.ref a18)] _
      refine XS.iload X29.here hx rfl (hb hby at_227) rfl ?_
      show own_S p e below T29 m 229 #[iv xk, iv xa, iv xs, iv xv, iv xw, rv a2, iv ff, iv fr, iv t1, iv t2, iv (0 : Int32), iv (own_bi bv), iv (own_bi bw), iv (own_K b0 b1 b2 kf), iv (own_K b0 b1 b2 (own_k1 kf)), rv a18, iv ress0, own_lv cns0, .second, iv vas0, iv (own_val (own_aT (own_K b0 b1 b2) (fun _ => -1) (fun _ => 0) kf (own_bi bv)) (fun _ _ => -1) kf (own_k2 kf)), .unset, .unset, .unset, .unset, .unset, .unset, .unset, .unset, .unset, .unset] [(.int fr), (.ref a18)] _
      refine XS.iload X29.here hx rfl (hb hby at_229) rfl ?_
      show own_S p e below T29 m 231 #[iv xk, iv xa, iv xs, iv xv, iv xw, rv a2, iv ff, iv fr, iv t1, iv t2, iv (0 : Int32), iv (own_bi bv), iv (own_bi bw), iv (own_K b0 b1 b2 kf), iv (own_K b0 b1 b2 (own_k1 kf)), rv a18, iv ress0, own_lv cns0, .second, iv vas0, iv (own_val (own_aT (own_K b0 b1 b2) (fun _ => -1) (fun _ => 0) kf (own_bi bv)) (fun _ _ => -1) kf (own_k2 kf)), .unset, .unset, .unset, .unset, .unset, .unset, .unset, .unset, .unset, .unset] [(.int fr), (.int fr), (.ref a18)] _
      rw [hvbs0] at kt
      exact kt
    refine own_st sg30 ?_
    obtain ⟨_, T31, L31, X31, hQ31, st31⟩ := own_callV (y := (⟨"com/example/kingsround/kingsround/engine/Deliveries", "value", "(II)I"⟩ : MethodName)) (y0 := (⟨"com/example/kingsround/kingsround/engine/Deliveries", "value", "(II)I"⟩ : MethodName)) (a := a18) (C := "com/example/kingsround/kingsround/engine/Deliveries") X29 hx hZ hown HD23.1 (hw _ (List.mem_of_getElem? (i := 89) rfl)) (hw _ (List.mem_of_getElem? (i := 90) rfl)) (hw _ (List.mem_of_getElem? (i := 92) rfl)) (notFace_of_selects (args := #[]) (mvT hZ (hw _ (List.mem_of_getElem? (i := 92) rfl)))) (hw _ (List.mem_of_getElem? (i := 91) rfl)) (hw _ (List.mem_of_getElem? (i := 4) rfl)) (hw _ (List.mem_of_getElem? (i := 93) rfl)) (by decide) (own_rmval l Z a0 hw a18 fr fr ib kp ta ob q r (own_K b0 b1 b2) (own_aT (own_K b0 b1 b2) (fun _ => -1) (fun _ => 0) kf (own_bi bv)) (fun _ => 0) (fun _ _ => -1) (own_ac (own_K b0 b1 b2) (fun _ => -1) (fun _ => 0) kf 0) kf kf T23.heap n0 Z23 HA HD23 hkf hkf hf3 hf3) e29 (g := (mkF m 231 #[iv xk, iv xa, iv xs, iv xv, iv xw, rv a2, iv ff, iv fr, iv t1, iv t2, iv (0 : Int32), iv (own_bi bv), iv (own_bi bw), iv (own_K b0 b1 b2 kf), iv (own_K b0 b1 b2 (own_k1 kf)), rv a18, iv ress0, own_lv cns0, .second, iv vas0, iv vbs0, .unset, .unset, .unset, .unset, .unset, .unset, .unset, .unset, .unset, .unset] [(.int fr), (.int fr), (.ref a18)])) rfl (by rw [hml]; rfl) (argsL := [(.int fr), (.int fr)]) (rest := []) (lenOf own_pd9 rfl) rfl (W := 0) (by show 2 * 0 + _ ≤ _; exact Nat.le_of_eq rfl) (hb hby at_231) (by decide) (by decide) (by decide) (by decide)
    obtain ⟨rfl, Nq31, e31⟩ := hQ31
    refine own_st st31 ?_
    have N31 := Fr.app N29 Nq31
    show own_Go p e below _ T31 (mkF m 234 #[iv xk, iv xa, iv xs, iv xv, iv xw, rv a2, iv ff, iv fr, iv t1, iv t2, iv (0 : Int32), iv (own_bi bv), iv (own_bi bw), iv (own_K b0 b1 b2 kf), iv (own_K b0 b1 b2 (own_k1 kf)), rv a18, iv ress0, own_lv cns0, .second, iv vas0, iv vbs0, .unset, .unset, .unset, .unset, .unset, .unset, .unset, .unset, .unset, .unset] [(.int (own_val (own_aT (own_K b0 b1 b2) (fun _ => -1) (fun _ => 0) kf (own_bi bv)) (fun _ _ => -1) kf kf))])
    obtain ⟨vcs0, hvcs0⟩ : ∃ z : Int32, z = (own_val (own_aT (own_K b0 b1 b2) (fun _ => -1) (fun _ => 0) kf (own_bi bv)) (fun _ _ => -1) kf kf) := ⟨_, rfl⟩
    have sg32 : own_V p e below T31 (mkF m 242 #[iv xk, iv xa, iv xs, iv xv, iv xw, rv a2, iv ff, iv fr, iv t1, iv t2, iv (0 : Int32), iv (own_bi bv), iv (own_bi bw), iv (own_K b0 b1 b2 kf), iv (own_K b0 b1 b2 (own_k1 kf)), rv a18, iv ress0, own_lv cns0, .second, iv vas0, iv vbs0, iv vcs0, .unset, .unset, .unset, .unset, .unset, .unset, .unset, .unset, .unset] [(.int fr), (.int t1), (.ref a18)]) (mkF m 234 #[iv xk, iv xa, iv xs, iv xv, iv xw, rv a2, iv ff, iv fr, iv t1, iv t2, iv (0 : Int32), iv (own_bi bv), iv (own_bi bw), iv (own_K b0 b1 b2 kf), iv (own_K b0 b1 b2 (own_k1 kf)), rv a18, iv ress0, own_lv cns0, .second, iv vas0, iv vbs0, .unset, .unset, .unset, .unset, .unset, .unset, .unset, .unset, .unset, .unset] [(.int (own_val (own_aT (own_K b0 b1 b2) (fun _ => -1) (fun _ => 0) kf (own_bi bv)) (fun _ _ => -1) kf kf))]) := by
      intro t kt
      refine XS.istore X31.here hx rfl (hb hby at_234) rfl (l' := #[iv xk, iv xa, iv xs, iv xv, iv xw, rv a2, iv ff, iv fr, iv t1, iv t2, iv (0 : Int32), iv (own_bi bv), iv (own_bi bw), iv (own_K b0 b1 b2 kf), iv (own_K b0 b1 b2 (own_k1 kf)), rv a18, iv ress0, own_lv cns0, .second, iv vas0, iv vbs0, iv (own_val (own_aT (own_K b0 b1 b2) (fun _ => -1) (fun _ => 0) kf (own_bi bv)) (fun _ _ => -1) kf kf), .unset, .unset, .unset, .unset, .unset, .unset, .unset, .unset, .unset]) rfl ?_
      show own_S p e below T31 m 236 #[iv xk, iv xa, iv xs, iv xv, iv xw, rv a2, iv ff, iv fr, iv t1, iv t2, iv (0 : Int32), iv (own_bi bv), iv (own_bi bw), iv (own_K b0 b1 b2 kf), iv (own_K b0 b1 b2 (own_k1 kf)), rv a18, iv ress0, own_lv cns0, .second, iv vas0, iv vbs0, iv (own_val (own_aT (own_K b0 b1 b2) (fun _ => -1) (fun _ => 0) kf (own_bi bv)) (fun _ _ => -1) kf kf), .unset, .unset, .unset, .unset, .unset, .unset, .unset, .unset, .unset] [] _
      refine XS.aload X31.here hx rfl (hb hby at_236) rfl rfl ?_
      show own_S p e below T31 m 238 #[iv xk, iv xa, iv xs, iv xv, iv xw, rv a2, iv ff, iv fr, iv t1, iv t2, iv (0 : Int32), iv (own_bi bv), iv (own_bi bw), iv (own_K b0 b1 b2 kf), iv (own_K b0 b1 b2 (own_k1 kf)), rv a18, iv ress0, own_lv cns0, .second, iv vas0, iv vbs0, iv (own_val (own_aT (own_K b0 b1 b2) (fun _ => -1) (fun _ => 0) kf (own_bi bv)) (fun _ _ => -1) kf kf), .unset, .unset, .unset, .unset, .unset, .unset, .unset, .unset, .unset] [(.ref a18)] _
      refine XS.iload X31.here hx rfl (hb hby at_238) rfl ?_
      show own_S p e below T31 m 240 #[iv xk, iv xa, iv xs, iv xv, iv xw, rv a2, iv ff, iv fr, iv t1, iv t2, iv (0 : Int32), iv (own_bi bv), iv (own_bi bw), iv (own_K b0 b1 b2 kf), iv (own_K b0 b1 b2 (own_k1 kf)), rv a18, iv ress0, own_lv cns0, .second, iv vas0, iv vbs0, iv (own_val (own_aT (own_K b0 b1 b2) (fun _ => -1) (fun _ => 0) kf (own_bi bv)) (fun _ _ => -1) kf kf), .unset, .unset, .unset, .unset, .unset, .unset, .unset, .unset, .unset] [(.int t1), (.ref a18)] _
      refine XS.iload X31.here hx rfl (hb hby at_240) rfl ?_
      show own_S p e below T31 m 242 #[iv xk, iv xa, iv xs, iv xv, iv xw, rv a2, iv ff, iv fr, iv t1, iv t2, iv (0 : Int32), iv (own_bi bv), iv (own_bi bw), iv (own_K b0 b1 b2 kf), iv (own_K b0 b1 b2 (own_k1 kf)), rv a18, iv ress0, own_lv cns0, .second, iv vas0, iv vbs0, iv (own_val (own_aT (own_K b0 b1 b2) (fun _ => -1) (fun _ => 0) kf (own_bi bv)) (fun _ _ => -1) kf kf), .unset, .unset, .unset, .unset, .unset, .unset, .unset, .unset, .unset] [(.int fr), (.int t1), (.ref a18)] _
      rw [hvcs0] at kt
      exact kt
    refine own_st sg32 ?_
    obtain ⟨_, T33, L33, X33, hQ33, st33⟩ := own_callV (y := (⟨"com/example/kingsround/kingsround/engine/Deliveries", "value", "(II)I"⟩ : MethodName)) (y0 := (⟨"com/example/kingsround/kingsround/engine/Deliveries", "value", "(II)I"⟩ : MethodName)) (a := a18) (C := "com/example/kingsround/kingsround/engine/Deliveries") X31 hx hZ hown HD23.1 (hw _ (List.mem_of_getElem? (i := 89) rfl)) (hw _ (List.mem_of_getElem? (i := 90) rfl)) (hw _ (List.mem_of_getElem? (i := 92) rfl)) (notFace_of_selects (args := #[]) (mvT hZ (hw _ (List.mem_of_getElem? (i := 92) rfl)))) (hw _ (List.mem_of_getElem? (i := 91) rfl)) (hw _ (List.mem_of_getElem? (i := 4) rfl)) (hw _ (List.mem_of_getElem? (i := 93) rfl)) (by decide) (own_rmval l Z a0 hw a18 t1 fr ib kp ta ob q r (own_K b0 b1 b2) (own_aT (own_K b0 b1 b2) (fun _ => -1) (fun _ => 0) kf (own_bi bv)) (fun _ => 0) (fun _ _ => -1) (own_ac (own_K b0 b1 b2) (fun _ => -1) (fun _ => 0) kf 0) (own_k1 kf) kf T23.heap n0 Z23 HA HD23 hk1.1 hkf hk1.2 hf3) e31 (g := (mkF m 242 #[iv xk, iv xa, iv xs, iv xv, iv xw, rv a2, iv ff, iv fr, iv t1, iv t2, iv (0 : Int32), iv (own_bi bv), iv (own_bi bw), iv (own_K b0 b1 b2 kf), iv (own_K b0 b1 b2 (own_k1 kf)), rv a18, iv ress0, own_lv cns0, .second, iv vas0, iv vbs0, iv vcs0, .unset, .unset, .unset, .unset, .unset, .unset, .unset, .unset, .unset] [(.int fr), (.int t1), (.ref a18)])) rfl (by rw [hml]; rfl) (argsL := [(.int t1), (.int fr)]) (rest := []) (lenOf own_pd9 rfl) rfl (W := 0) (by show 2 * 0 + _ ≤ _; exact Nat.le_of_eq rfl) (hb hby at_242) (by decide) (by decide) (by decide) (by decide)
    obtain ⟨rfl, Nq33, e33⟩ := hQ33
    refine own_st st33 ?_
    have N33 := Fr.app N31 Nq33
    show own_Go p e below _ T33 (mkF m 245 #[iv xk, iv xa, iv xs, iv xv, iv xw, rv a2, iv ff, iv fr, iv t1, iv t2, iv (0 : Int32), iv (own_bi bv), iv (own_bi bw), iv (own_K b0 b1 b2 kf), iv (own_K b0 b1 b2 (own_k1 kf)), rv a18, iv ress0, own_lv cns0, .second, iv vas0, iv vbs0, iv vcs0, .unset, .unset, .unset, .unset, .unset, .unset, .unset, .unset, .unset] [(.int (own_val (own_aT (own_K b0 b1 b2) (fun _ => -1) (fun _ => 0) kf (own_bi bv)) (fun _ _ => -1) (own_k1 kf) kf))])
    obtain ⟨vds0, hvds0⟩ : ∃ z : Int32, z = (own_val (own_aT (own_K b0 b1 b2) (fun _ => -1) (fun _ => 0) kf (own_bi bv)) (fun _ _ => -1) (own_k1 kf) kf) := ⟨_, rfl⟩
    have sg34 : own_V p e below T33 (mkF m 247 #[iv xk, iv xa, iv xs, iv xv, iv xw, rv a2, iv ff, iv fr, iv t1, iv t2, iv (0 : Int32), iv (own_bi bv), iv (own_bi bw), iv (own_K b0 b1 b2 kf), iv (own_K b0 b1 b2 (own_k1 kf)), rv a18, iv ress0, own_lv cns0, .second, iv vas0, iv vbs0, iv vcs0, iv vds0, .unset, .unset, .unset, .unset, .unset, .unset, .unset, .unset] []) (mkF m 245 #[iv xk, iv xa, iv xs, iv xv, iv xw, rv a2, iv ff, iv fr, iv t1, iv t2, iv (0 : Int32), iv (own_bi bv), iv (own_bi bw), iv (own_K b0 b1 b2 kf), iv (own_K b0 b1 b2 (own_k1 kf)), rv a18, iv ress0, own_lv cns0, .second, iv vas0, iv vbs0, iv vcs0, .unset, .unset, .unset, .unset, .unset, .unset, .unset, .unset, .unset] [(.int (own_val (own_aT (own_K b0 b1 b2) (fun _ => -1) (fun _ => 0) kf (own_bi bv)) (fun _ _ => -1) (own_k1 kf) kf))]) := by
      intro t kt
      refine XS.istore X33.here hx rfl (hb hby at_245) rfl (l' := #[iv xk, iv xa, iv xs, iv xv, iv xw, rv a2, iv ff, iv fr, iv t1, iv t2, iv (0 : Int32), iv (own_bi bv), iv (own_bi bw), iv (own_K b0 b1 b2 kf), iv (own_K b0 b1 b2 (own_k1 kf)), rv a18, iv ress0, own_lv cns0, .second, iv vas0, iv vbs0, iv vcs0, iv (own_val (own_aT (own_K b0 b1 b2) (fun _ => -1) (fun _ => 0) kf (own_bi bv)) (fun _ _ => -1) (own_k1 kf) kf), .unset, .unset, .unset, .unset, .unset, .unset, .unset, .unset]) rfl ?_
      show own_S p e below T33 m 247 #[iv xk, iv xa, iv xs, iv xv, iv xw, rv a2, iv ff, iv fr, iv t1, iv t2, iv (0 : Int32), iv (own_bi bv), iv (own_bi bw), iv (own_K b0 b1 b2 kf), iv (own_K b0 b1 b2 (own_k1 kf)), rv a18, iv ress0, own_lv cns0, .second, iv vas0, iv vbs0, iv vcs0, iv (own_val (own_aT (own_K b0 b1 b2) (fun _ => -1) (fun _ => 0) kf (own_bi bv)) (fun _ _ => -1) (own_k1 kf) kf), .unset, .unset, .unset, .unset, .unset, .unset, .unset, .unset] [] _
      rw [hvds0] at kt
      exact kt
    refine own_st sg34 ?_
    obtain ⟨pos0, hpos0⟩ : ∃ z : Int32, z = (0 : Int32) := ⟨_, rfl⟩
    have sg35 : own_V p e below T33 (mkF m 274 #[iv xk, iv xa, iv xs, iv xv, iv xw, rv a2, iv ff, iv fr, iv t1, iv t2, iv (0 : Int32), iv (own_bi bv), iv (own_bi bw), iv (own_K b0 b1 b2 kf), iv (own_K b0 b1 b2 (own_k1 kf)), rv a18, iv ress0, own_lv cns0, .second, iv vas0, iv vbs0, iv vcs0, iv vds0, .unset, .unset, .unset, .unset, .unset, .unset, .unset, .unset] [(.int pos0)]) (mkF m 247 #[iv xk, iv xa, iv xs, iv xv, iv xw, rv a2, iv ff, iv fr, iv t1, iv t2, iv (0 : Int32), iv (own_bi bv), iv (own_bi bw), iv (own_K b0 b1 b2 kf), iv (own_K b0 b1 b2 (own_k1 kf)), rv a18, iv ress0, own_lv cns0, .second, iv vas0, iv vbs0, iv vcs0, iv vds0, .unset, .unset, .unset, .unset, .unset, .unset, .unset, .unset] []) := by
      intro t kt
      refine XS.iload X33.here hx rfl (hb hby at_247) rfl ?_
      show own_S p e below T33 m 249 #[iv xk, iv xa, iv xs, iv xv, iv xw, rv a2, iv ff, iv fr, iv t1, iv t2, iv (0 : Int32), iv (own_bi bv), iv (own_bi bw), iv (own_K b0 b1 b2 kf), iv (own_K b0 b1 b2 (own_k1 kf)), rv a18, iv ress0, own_lv cns0, .second, iv vas0, iv vbs0, iv vcs0, iv vds0, .unset, .unset, .unset, .unset, .unset, .unset, .unset, .unset] [(.int (0 : Int32))] _
      refine XS.iconst X33.here hx rfl (hb hby at_249) ?_
      show own_S p e below T33 m 250 #[iv xk, iv xa, iv xs, iv xv, iv xw, rv a2, iv ff, iv fr, iv t1, iv t2, iv (0 : Int32), iv (own_bi bv), iv (own_bi bw), iv (own_K b0 b1 b2 kf), iv (own_K b0 b1 b2 (own_k1 kf)), rv a18, iv ress0, own_lv cns0, .second, iv vas0, iv vbs0, iv vcs0, iv vds0, .unset, .unset, .unset, .unset, .unset, .unset, .unset, .unset] [(.int (1 : Int32)), (.int (0 : Int32))] _
      refine XS.icmpNo X33.here hx rfl (hb hby at_250) rfl (feq (by decide : ¬ (0 : Int32) = (1 : Int32))).1 ?_
      show own_S p e below T33 m 253 #[iv xk, iv xa, iv xs, iv xv, iv xw, rv a2, iv ff, iv fr, iv t1, iv t2, iv (0 : Int32), iv (own_bi bv), iv (own_bi bw), iv (own_K b0 b1 b2 kf), iv (own_K b0 b1 b2 (own_k1 kf)), rv a18, iv ress0, own_lv cns0, .second, iv vas0, iv vbs0, iv vcs0, iv vds0, .unset, .unset, .unset, .unset, .unset, .unset, .unset, .unset] [] _
      refine XS.iload X33.here hx rfl (hb hby at_253) rfl ?_
      show own_S p e below T33 m 255 #[iv xk, iv xa, iv xs, iv xv, iv xw, rv a2, iv ff, iv fr, iv t1, iv t2, iv (0 : Int32), iv (own_bi bv), iv (own_bi bw), iv (own_K b0 b1 b2 kf), iv (own_K b0 b1 b2 (own_k1 kf)), rv a18, iv ress0, own_lv cns0, .second, iv vas0, iv vbs0, iv vcs0, iv vds0, .unset, .unset, .unset, .unset, .unset, .unset, .unset, .unset] [(.int (0 : Int32))] _
      refine XS.iconst X33.here hx rfl (hb hby at_255) ?_
      show own_S p e below T33 m 256 #[iv xk, iv xa, iv xs, iv xv, iv xw, rv a2, iv ff, iv fr, iv t1, iv t2, iv (0 : Int32), iv (own_bi bv), iv (own_bi bw), iv (own_K b0 b1 b2 kf), iv (own_K b0 b1 b2 (own_k1 kf)), rv a18, iv ress0, own_lv cns0, .second, iv vas0, iv vbs0, iv vcs0, iv vds0, .unset, .unset, .unset, .unset, .unset, .unset, .unset, .unset] [(.int (3 : Int32)), (.int (0 : Int32))] _
      refine XS.icmpYes X33.here hx rfl (pc0 := 256) (pc' := 273) rfl (hb hby at_256) rfl (feq (by decide : ¬ (0 : Int32) = (3 : Int32))).2 (by decide) (by decide) ?_
      show own_S p e below T33 m 273 #[iv xk, iv xa, iv xs, iv xv, iv xw, rv a2, iv ff, iv fr, iv t1, iv t2, iv (0 : Int32), iv (own_bi bv), iv (own_bi bw), iv (own_K b0 b1 b2 kf), iv (own_K b0 b1 b2 (own_k1 kf)), rv a18, iv ress0, own_lv cns0, .second, iv vas0, iv vbs0, iv vcs0, iv vds0, .unset, .unset, .unset, .unset, .unset, .unset, .unset, .unset] [] _
      refine XS.iconst X33.here hx rfl (hb hby at_273) ?_
      show own_S p e below T33 m 274 #[iv xk, iv xa, iv xs, iv xv, iv xw, rv a2, iv ff, iv fr, iv t1, iv t2, iv (0 : Int32), iv (own_bi bv), iv (own_bi bw), iv (own_K b0 b1 b2 kf), iv (own_K b0 b1 b2 (own_k1 kf)), rv a18, iv ress0, own_lv cns0, .second, iv vas0, iv vbs0, iv vcs0, iv vds0, .unset, .unset, .unset, .unset, .unset, .unset, .unset, .unset] [(.int (0 : Int32))] _
      rw [hpos0] at kt
      exact kt
    refine own_st sg35 ?_
    obtain ⟨pas0, hpas0⟩ : ∃ z : Int32, z = (0 : Int32) := ⟨_, rfl⟩
    have sg36 : own_V p e below T33 (mkF m 292 #[iv xk, iv xa, iv xs, iv xv, iv xw, rv a2, iv ff, iv fr, iv t1, iv t2, iv (0 : Int32), iv (own_bi bv), iv (own_bi bw), iv (own_K b0 b1 b2 kf), iv (own_K b0 b1 b2 (own_k1 kf)), rv a18, iv ress0, own_lv cns0, .second, iv vas0, iv vbs0, iv vcs0, iv vds0, iv pos0, .unset, .unset, .unset, .unset, .unset, .unset, .unset] [(.int pas0)]) (mkF m 274 #[iv xk, iv xa, iv xs, iv xv, iv xw, rv a2, iv ff, iv fr, iv t1, iv t2, iv (0 : Int32), iv (own_bi bv), iv (own_bi bw), iv (own_K b0 b1 b2 kf), iv (own_K b0 b1 b2 (own_k1 kf)), rv a18, iv ress0, own_lv cns0, .second, iv vas0, iv vbs0, iv vcs0, iv vds0, .unset, .unset, .unset, .unset, .unset, .unset, .unset, .unset] [(.int pos0)]) := by
      intro t kt
      refine XS.istore X33.here hx rfl (hb hby at_274) rfl (l' := #[iv xk, iv xa, iv xs, iv xv, iv xw, rv a2, iv ff, iv fr, iv t1, iv t2, iv (0 : Int32), iv (own_bi bv), iv (own_bi bw), iv (own_K b0 b1 b2 kf), iv (own_K b0 b1 b2 (own_k1 kf)), rv a18, iv ress0, own_lv cns0, .second, iv vas0, iv vbs0, iv vcs0, iv vds0, iv pos0, .unset, .unset, .unset, .unset, .unset, .unset, .unset]) rfl ?_
      show own_S p e below T33 m 276 #[iv xk, iv xa, iv xs, iv xv, iv xw, rv a2, iv ff, iv fr, iv t1, iv t2, iv (0 : Int32), iv (own_bi bv), iv (own_bi bw), iv (own_K b0 b1 b2 kf), iv (own_K b0 b1 b2 (own_k1 kf)), rv a18, iv ress0, own_lv cns0, .second, iv vas0, iv vbs0, iv vcs0, iv vds0, iv pos0, .unset, .unset, .unset, .unset, .unset, .unset, .unset] [] _
      refine XS.iload X33.here hx rfl (hb hby at_276) rfl ?_
      show own_S p e below T33 m 278 #[iv xk, iv xa, iv xs, iv xv, iv xw, rv a2, iv ff, iv fr, iv t1, iv t2, iv (0 : Int32), iv (own_bi bv), iv (own_bi bw), iv (own_K b0 b1 b2 kf), iv (own_K b0 b1 b2 (own_k1 kf)), rv a18, iv ress0, own_lv cns0, .second, iv vas0, iv vbs0, iv vcs0, iv vds0, iv pos0, .unset, .unset, .unset, .unset, .unset, .unset, .unset] [(.int (0 : Int32))] _
      refine XS.iconst X33.here hx rfl (hb hby at_278) ?_
      show own_S p e below T33 m 279 #[iv xk, iv xa, iv xs, iv xv, iv xw, rv a2, iv ff, iv fr, iv t1, iv t2, iv (0 : Int32), iv (own_bi bv), iv (own_bi bw), iv (own_K b0 b1 b2 kf), iv (own_K b0 b1 b2 (own_k1 kf)), rv a18, iv ress0, own_lv cns0, .second, iv vas0, iv vbs0, iv vcs0, iv vds0, iv pos0, .unset, .unset, .unset, .unset, .unset, .unset, .unset] [(.int (2 : Int32)), (.int (0 : Int32))] _
      refine XS.icmpYes X33.here hx rfl (pc0 := 279) (pc' := 291) rfl (hb hby at_279) rfl (feq (by decide : ¬ (0 : Int32) = (2 : Int32))).2 (by decide) (by decide) ?_
      show own_S p e below T33 m 291 #[iv xk, iv xa, iv xs, iv xv, iv xw, rv a2, iv ff, iv fr, iv t1, iv t2, iv (0 : Int32), iv (own_bi bv), iv (own_bi bw), iv (own_K b0 b1 b2 kf), iv (own_K b0 b1 b2 (own_k1 kf)), rv a18, iv ress0, own_lv cns0, .second, iv vas0, iv vbs0, iv vcs0, iv vds0, iv pos0, .unset, .unset, .unset, .unset, .unset, .unset, .unset] [] _
      refine XS.iconst X33.here hx rfl (hb hby at_291) ?_
      show own_S p e below T33 m 292 #[iv xk, iv xa, iv xs, iv xv, iv xw, rv a2, iv ff, iv fr, iv t1, iv t2, iv (0 : Int32), iv (own_bi bv), iv (own_bi bw), iv (own_K b0 b1 b2 kf), iv (own_K b0 b1 b2 (own_k1 kf)), rv a18, iv ress0, own_lv cns0, .second, iv vas0, iv vbs0, iv vcs0, iv vds0, iv pos0, .unset, .unset, .unset, .unset, .unset, .unset, .unset] [(.int (0 : Int32))] _
      rw [hpas0] at kt
      exact kt
    refine own_st sg36 ?_
    obtain ⟨ers0, hers0⟩ : ∃ z : Int32, z = (if (own_K b0 b1 b2 kf) = (0 : Int32) then (0 : Int32) else (1 : Int32)) := ⟨_, rfl⟩
    have sg38 : own_V p e below T33 (mkF m 315 #[iv xk, iv xa, iv xs, iv xv, iv xw, rv a2, iv ff, iv fr, iv t1, iv t2, iv (0 : Int32), iv (own_bi bv), iv (own_bi bw), iv (own_K b0 b1 b2 kf), iv (own_K b0 b1 b2 (own_k1 kf)), rv a18, iv ress0, own_lv cns0, .second, iv vas0, iv vbs0, iv vcs0, iv vds0, iv pos0, iv pas0, .unset, .unset, .unset, .unset, .unset, .unset] [(.int ers0)]) (mkF m 292 #[iv xk, iv xa, iv xs, iv xv, iv xw, rv a2, iv ff, iv fr, iv t1, iv t2, iv (0 : Int32), iv (own_bi bv), iv (own_bi bw), iv (own_K b0 b1 b2 kf), iv (own_K b0 b1 b2 (own_k1 kf)), rv a18, iv ress0, own_lv cns0, .second, iv vas0, iv vbs0, iv vcs0, iv vds0, iv pos0, .unset, .unset, .unset, .unset, .unset, .unset, .unset] [(.int pas0)]) := by
      intro t kt
      refine XS.istore X33.here hx rfl (hb hby at_292) rfl (l' := #[iv xk, iv xa, iv xs, iv xv, iv xw, rv a2, iv ff, iv fr, iv t1, iv t2, iv (0 : Int32), iv (own_bi bv), iv (own_bi bw), iv (own_K b0 b1 b2 kf), iv (own_K b0 b1 b2 (own_k1 kf)), rv a18, iv ress0, own_lv cns0, .second, iv vas0, iv vbs0, iv vcs0, iv vds0, iv pos0, iv pas0, .unset, .unset, .unset, .unset, .unset, .unset]) rfl ?_
      show own_S p e below T33 m 294 #[iv xk, iv xa, iv xs, iv xv, iv xw, rv a2, iv ff, iv fr, iv t1, iv t2, iv (0 : Int32), iv (own_bi bv), iv (own_bi bw), iv (own_K b0 b1 b2 kf), iv (own_K b0 b1 b2 (own_k1 kf)), rv a18, iv ress0, own_lv cns0, .second, iv vas0, iv vbs0, iv vcs0, iv vds0, iv pos0, iv pas0, .unset, .unset, .unset, .unset, .unset, .unset] [] _
      refine XS.iload X33.here hx rfl (hb hby at_294) rfl ?_
      show own_S p e below T33 m 296 #[iv xk, iv xa, iv xs, iv xv, iv xw, rv a2, iv ff, iv fr, iv t1, iv t2, iv (0 : Int32), iv (own_bi bv), iv (own_bi bw), iv (own_K b0 b1 b2 kf), iv (own_K b0 b1 b2 (own_k1 kf)), rv a18, iv ress0, own_lv cns0, .second, iv vas0, iv vbs0, iv vcs0, iv vds0, iv pos0, iv pas0, .unset, .unset, .unset, .unset, .unset, .unset] [(.int (own_K b0 b1 b2 kf))] _
      by_cases hc37 : (own_K b0 b1 b2 kf) = (0 : Int32)
      · refine XS.ifYes X33.here hx rfl (pc0 := 296) (pc' := 314) rfl (hb hby at_296) rfl ((if0 _ _).trans (teq hc37).1) (by decide) (by decide) ?_
        show own_S p e below T33 m 314 #[iv xk, iv xa, iv xs, iv xv, iv xw, rv a2, iv ff, iv fr, iv t1, iv t2, iv (0 : Int32), iv (own_bi bv), iv (own_bi bw), iv (own_K b0 b1 b2 kf), iv (own_K b0 b1 b2 (own_k1 kf)), rv a18, iv ress0, own_lv cns0, .second, iv vas0, iv vbs0, iv vcs0, iv vds0, iv pos0, iv pas0, .unset, .unset, .unset, .unset, .unset, .unset] [] _
        refine XS.iconst X33.here hx rfl (hb hby at_314) ?_
        show own_S p e below T33 m 315 #[iv xk, iv xa, iv xs, iv xv, iv xw, rv a2, iv ff, iv fr, iv t1, iv t2, iv (0 : Int32), iv (own_bi bv), iv (own_bi bw), iv (own_K b0 b1 b2 kf), iv (own_K b0 b1 b2 (own_k1 kf)), rv a18, iv ress0, own_lv cns0, .second, iv vas0, iv vbs0, iv vcs0, iv vds0, iv pos0, iv pas0, .unset, .unset, .unset, .unset, .unset, .unset] [(.int (0 : Int32))] _
        rw [show ers0 = (0 : Int32) from by rw [hers0, if_pos hc37]] at kt
        exact kt
      · refine XS.ifNo X33.here hx rfl (hb hby at_296) rfl ((if0 _ _).trans (feq hc37).1) ?_
        show own_S p e below T33 m 299 #[iv xk, iv xa, iv xs, iv xv, iv xw, rv a2, iv ff, iv fr, iv t1, iv t2, iv (0 : Int32), iv (own_bi bv), iv (own_bi bw), iv (own_K b0 b1 b2 kf), iv (own_K b0 b1 b2 (own_k1 kf)), rv a18, iv ress0, own_lv cns0, .second, iv vas0, iv vbs0, iv vcs0, iv vds0, iv pos0, iv pas0, .unset, .unset, .unset, .unset, .unset, .unset] [] _
        refine XS.iload X33.here hx rfl (hb hby at_299) rfl ?_
        show own_S p e below T33 m 301 #[iv xk, iv xa, iv xs, iv xv, iv xw, rv a2, iv ff, iv fr, iv t1, iv t2, iv (0 : Int32), iv (own_bi bv), iv (own_bi bw), iv (own_K b0 b1 b2 kf), iv (own_K b0 b1 b2 (own_k1 kf)), rv a18, iv ress0, own_lv cns0, .second, iv vas0, iv vbs0, iv vcs0, iv vds0, iv pos0, iv pas0, .unset, .unset, .unset, .unset, .unset, .unset] [(.int (0 : Int32))] _
        refine XS.ifYes X33.here hx rfl (pc0 := 301) (pc' := 310) rfl (hb hby at_301) rfl ((if0 _ _).trans (teq (by decide : (0 : Int32) = (0 : Int32))).1) (by decide) (by decide) ?_
        show own_S p e below T33 m 310 #[iv xk, iv xa, iv xs, iv xv, iv xw, rv a2, iv ff, iv fr, iv t1, iv t2, iv (0 : Int32), iv (own_bi bv), iv (own_bi bw), iv (own_K b0 b1 b2 kf), iv (own_K b0 b1 b2 (own_k1 kf)), rv a18, iv ress0, own_lv cns0, .second, iv vas0, iv vbs0, iv vcs0, iv vds0, iv pos0, iv pas0, .unset, .unset, .unset, .unset, .unset, .unset] [] _
        refine XS.iconst X33.here hx rfl (hb hby at_310) ?_
        show own_S p e below T33 m 311 #[iv xk, iv xa, iv xs, iv xv, iv xw, rv a2, iv ff, iv fr, iv t1, iv t2, iv (0 : Int32), iv (own_bi bv), iv (own_bi bw), iv (own_K b0 b1 b2 kf), iv (own_K b0 b1 b2 (own_k1 kf)), rv a18, iv ress0, own_lv cns0, .second, iv vas0, iv vbs0, iv vcs0, iv vds0, iv pos0, iv pas0, .unset, .unset, .unset, .unset, .unset, .unset] [(.int (1 : Int32))] _
        refine XS.goto X33.here hx rfl (pc0 := 311) (pc' := 315) rfl (hb hby at_311) (by decide) (by decide) ?_
        show own_S p e below T33 m 315 #[iv xk, iv xa, iv xs, iv xv, iv xw, rv a2, iv ff, iv fr, iv t1, iv t2, iv (0 : Int32), iv (own_bi bv), iv (own_bi bw), iv (own_K b0 b1 b2 kf), iv (own_K b0 b1 b2 (own_k1 kf)), rv a18, iv ress0, own_lv cns0, .second, iv vas0, iv vbs0, iv vcs0, iv vds0, iv pos0, iv pas0, .unset, .unset, .unset, .unset, .unset, .unset] [(.int (1 : Int32))] _
        rw [show ers0 = (1 : Int32) from by rw [hers0, if_neg hc37]] at kt
        exact kt
    refine own_st sg38 ?_
    obtain ⟨e1s0, he1s0⟩ : ∃ z : Int64, z = (if pos0 = (0 : Int32) then (0 : Int64) else (1 : Int64)) := ⟨_, rfl⟩
    have sg40 : own_V p e below T33 (mkF m 327 #[iv xk, iv xa, iv xs, iv xv, iv xw, rv a2, iv ff, iv fr, iv t1, iv t2, iv (0 : Int32), iv (own_bi bv), iv (own_bi bw), iv (own_K b0 b1 b2 kf), iv (own_K b0 b1 b2 (own_k1 kf)), rv a18, iv ress0, own_lv cns0, .second, iv vas0, iv vbs0, iv vcs0, iv vds0, iv pos0, iv pas0, iv ers0, .unset, .unset, .unset, .unset, .unset] [(.long e1s0)]) (mkF m 315 #[iv xk, iv xa, iv xs, iv xv, iv xw, rv a2, iv ff, iv fr, iv t1, iv t2, iv (0 : Int32), iv (own_bi bv), iv (own_bi bw), iv (own_K b0 b1 b2 kf), iv (own_K b0 b1 b2 (own_k1 kf)), rv a18, iv ress0, own_lv cns0, .second, iv vas0, iv vbs0, iv vcs0, iv vds0, iv pos0, iv pas0, .unset, .unset, .unset, .unset, .unset, .unset] [(.int ers0)]) := by
      intro t kt
      refine XS.istore X33.here hx rfl (hb hby at_315) rfl (l' := #[iv xk, iv xa, iv xs, iv xv, iv xw, rv a2, iv ff, iv fr, iv t1, iv t2, iv (0 : Int32), iv (own_bi bv), iv (own_bi bw), iv (own_K b0 b1 b2 kf), iv (own_K b0 b1 b2 (own_k1 kf)), rv a18, iv ress0, own_lv cns0, .second, iv vas0, iv vbs0, iv vcs0, iv vds0, iv pos0, iv pas0, iv ers0, .unset, .unset, .unset, .unset, .unset]) rfl ?_
      show own_S p e below T33 m 317 #[iv xk, iv xa, iv xs, iv xv, iv xw, rv a2, iv ff, iv fr, iv t1, iv t2, iv (0 : Int32), iv (own_bi bv), iv (own_bi bw), iv (own_K b0 b1 b2 kf), iv (own_K b0 b1 b2 (own_k1 kf)), rv a18, iv ress0, own_lv cns0, .second, iv vas0, iv vbs0, iv vcs0, iv vds0, iv pos0, iv pas0, iv ers0, .unset, .unset, .unset, .unset, .unset] [] _
      refine XS.iload X33.here hx rfl (hb hby at_317) rfl ?_
      show own_S p e below T33 m 319 #[iv xk, iv xa, iv xs, iv xv, iv xw, rv a2, iv ff, iv fr, iv t1, iv t2, iv (0 : Int32), iv (own_bi bv), iv (own_bi bw), iv (own_K b0 b1 b2 kf), iv (own_K b0 b1 b2 (own_k1 kf)), rv a18, iv ress0, own_lv cns0, .second, iv vas0, iv vbs0, iv vcs0, iv vds0, iv pos0, iv pas0, iv ers0, .unset, .unset, .unset, .unset, .unset] [(.int pos0)] _
      by_cases hc39 : pos0 = (0 : Int32)
      · refine XS.ifYes X33.here hx rfl (pc0 := 319) (pc' := 326) rfl (hb hby at_319) rfl ((if0 _ _).trans (teq hc39).1) (by decide) (by decide) ?_
        show own_S p e below T33 m 326 #[iv xk, iv xa, iv xs, iv xv, iv xw, rv a2, iv ff, iv fr, iv t1, iv t2, iv (0 : Int32), iv (own_bi bv), iv (own_bi bw), iv (own_K b0 b1 b2 kf), iv (own_K b0 b1 b2 (own_k1 kf)), rv a18, iv ress0, own_lv cns0, .second, iv vas0, iv vbs0, iv vcs0, iv vds0, iv pos0, iv pas0, iv ers0, .unset, .unset, .unset, .unset, .unset] [] _
        refine XS.lconst X33.here hx rfl (hb hby at_326) ?_
        show own_S p e below T33 m 327 #[iv xk, iv xa, iv xs, iv xv, iv xw, rv a2, iv ff, iv fr, iv t1, iv t2, iv (0 : Int32), iv (own_bi bv), iv (own_bi bw), iv (own_K b0 b1 b2 kf), iv (own_K b0 b1 b2 (own_k1 kf)), rv a18, iv ress0, own_lv cns0, .second, iv vas0, iv vbs0, iv vcs0, iv vds0, iv pos0, iv pas0, iv ers0, .unset, .unset, .unset, .unset, .unset] [(.long (0 : Int64))] _
        rw [show e1s0 = (0 : Int64) from by rw [he1s0, if_pos hc39]] at kt
        exact kt
      · refine XS.ifNo X33.here hx rfl (hb hby at_319) rfl ((if0 _ _).trans (feq hc39).1) ?_
        show own_S p e below T33 m 322 #[iv xk, iv xa, iv xs, iv xv, iv xw, rv a2, iv ff, iv fr, iv t1, iv t2, iv (0 : Int32), iv (own_bi bv), iv (own_bi bw), iv (own_K b0 b1 b2 kf), iv (own_K b0 b1 b2 (own_k1 kf)), rv a18, iv ress0, own_lv cns0, .second, iv vas0, iv vbs0, iv vcs0, iv vds0, iv pos0, iv pas0, iv ers0, .unset, .unset, .unset, .unset, .unset] [] _
        refine XS.lconst X33.here hx rfl (hb hby at_322) ?_
        show own_S p e below T33 m 323 #[iv xk, iv xa, iv xs, iv xv, iv xw, rv a2, iv ff, iv fr, iv t1, iv t2, iv (0 : Int32), iv (own_bi bv), iv (own_bi bw), iv (own_K b0 b1 b2 kf), iv (own_K b0 b1 b2 (own_k1 kf)), rv a18, iv ress0, own_lv cns0, .second, iv vas0, iv vbs0, iv vcs0, iv vds0, iv pos0, iv pas0, iv ers0, .unset, .unset, .unset, .unset, .unset] [(.long (1 : Int64))] _
        refine XS.goto X33.here hx rfl (pc0 := 323) (pc' := 327) rfl (hb hby at_323) (by decide) (by decide) ?_
        show own_S p e below T33 m 327 #[iv xk, iv xa, iv xs, iv xv, iv xw, rv a2, iv ff, iv fr, iv t1, iv t2, iv (0 : Int32), iv (own_bi bv), iv (own_bi bw), iv (own_K b0 b1 b2 kf), iv (own_K b0 b1 b2 (own_k1 kf)), rv a18, iv ress0, own_lv cns0, .second, iv vas0, iv vbs0, iv vcs0, iv vds0, iv pos0, iv pas0, iv ers0, .unset, .unset, .unset, .unset, .unset] [(.long (1 : Int64))] _
        rw [show e1s0 = (1 : Int64) from by rw [he1s0, if_neg hc39]] at kt
        exact kt
    refine own_st sg40 ?_
    obtain ⟨e2s0, he2s0⟩ : ∃ z : Int64, z = (if pas0 = (0 : Int32) then (0 : Int64) else (2 : Int64)) := ⟨_, rfl⟩
    have sg42 : own_V p e below T33 (mkF m 339 #[iv xk, iv xa, iv xs, iv xv, iv xw, rv a2, iv ff, iv fr, iv t1, iv t2, iv (0 : Int32), iv (own_bi bv), iv (own_bi bw), iv (own_K b0 b1 b2 kf), iv (own_K b0 b1 b2 (own_k1 kf)), rv a18, iv ress0, own_lv cns0, .second, iv vas0, iv vbs0, iv vcs0, iv vds0, iv pos0, iv pas0, iv ers0, .unset, .unset, .unset, .unset, .unset] [(.long e2s0), (.long e1s0)]) (mkF m 327 #[iv xk, iv xa, iv xs, iv xv, iv xw, rv a2, iv ff, iv fr, iv t1, iv t2, iv (0 : Int32), iv (own_bi bv), iv (own_bi bw), iv (own_K b0 b1 b2 kf), iv (own_K b0 b1 b2 (own_k1 kf)), rv a18, iv ress0, own_lv cns0, .second, iv vas0, iv vbs0, iv vcs0, iv vds0, iv pos0, iv pas0, iv ers0, .unset, .unset, .unset, .unset, .unset] [(.long e1s0)]) := by
      intro t kt
      refine XS.iload X33.here hx rfl (hb hby at_327) rfl ?_
      show own_S p e below T33 m 329 #[iv xk, iv xa, iv xs, iv xv, iv xw, rv a2, iv ff, iv fr, iv t1, iv t2, iv (0 : Int32), iv (own_bi bv), iv (own_bi bw), iv (own_K b0 b1 b2 kf), iv (own_K b0 b1 b2 (own_k1 kf)), rv a18, iv ress0, own_lv cns0, .second, iv vas0, iv vbs0, iv vcs0, iv vds0, iv pos0, iv pas0, iv ers0, .unset, .unset, .unset, .unset, .unset] [(.int pas0), (.long e1s0)] _
      by_cases hc41 : pas0 = (0 : Int32)
      · refine XS.ifYes X33.here hx rfl (pc0 := 329) (pc' := 338) rfl (hb hby at_329) rfl ((if0 _ _).trans (teq hc41).1) (by decide) (by decide) ?_
        show own_S p e below T33 m 338 #[iv xk, iv xa, iv xs, iv xv, iv xw, rv a2, iv ff, iv fr, iv t1, iv t2, iv (0 : Int32), iv (own_bi bv), iv (own_bi bw), iv (own_K b0 b1 b2 kf), iv (own_K b0 b1 b2 (own_k1 kf)), rv a18, iv ress0, own_lv cns0, .second, iv vas0, iv vbs0, iv vcs0, iv vds0, iv pos0, iv pas0, iv ers0, .unset, .unset, .unset, .unset, .unset] [(.long e1s0)] _
        refine XS.lconst X33.here hx rfl (hb hby at_338) ?_
        show own_S p e below T33 m 339 #[iv xk, iv xa, iv xs, iv xv, iv xw, rv a2, iv ff, iv fr, iv t1, iv t2, iv (0 : Int32), iv (own_bi bv), iv (own_bi bw), iv (own_K b0 b1 b2 kf), iv (own_K b0 b1 b2 (own_k1 kf)), rv a18, iv ress0, own_lv cns0, .second, iv vas0, iv vbs0, iv vcs0, iv vds0, iv pos0, iv pas0, iv ers0, .unset, .unset, .unset, .unset, .unset] [(.long (0 : Int64)), (.long e1s0)] _
        rw [show e2s0 = (0 : Int64) from by rw [he2s0, if_pos hc41]] at kt
        exact kt
      · refine XS.ifNo X33.here hx rfl (hb hby at_329) rfl ((if0 _ _).trans (feq hc41).1) ?_
        show own_S p e below T33 m 332 #[iv xk, iv xa, iv xs, iv xv, iv xw, rv a2, iv ff, iv fr, iv t1, iv t2, iv (0 : Int32), iv (own_bi bv), iv (own_bi bw), iv (own_K b0 b1 b2 kf), iv (own_K b0 b1 b2 (own_k1 kf)), rv a18, iv ress0, own_lv cns0, .second, iv vas0, iv vbs0, iv vcs0, iv vds0, iv pos0, iv pas0, iv ers0, .unset, .unset, .unset, .unset, .unset] [(.long e1s0)] _
        refine X33.ldc2Long hx hown (mvT hZ (hw _ (List.mem_of_getElem? (i := 100) rfl))) (g := (mkF m 332 #[iv xk, iv xa, iv xs, iv xv, iv xw, rv a2, iv ff, iv fr, iv t1, iv t2, iv (0 : Int32), iv (own_bi bv), iv (own_bi bw), iv (own_K b0 b1 b2 kf), iv (own_K b0 b1 b2 (own_k1 kf)), rv a18, iv ress0, own_lv cns0, .second, iv vas0, iv vbs0, iv vcs0, iv vds0, iv pos0, iv pas0, iv ers0, .unset, .unset, .unset, .unset, .unset] [(.long e1s0)])) rfl (hb hby at_332) _ ?_
        show own_S p e below T33 m 335 #[iv xk, iv xa, iv xs, iv xv, iv xw, rv a2, iv ff, iv fr, iv t1, iv t2, iv (0 : Int32), iv (own_bi bv), iv (own_bi bw), iv (own_K b0 b1 b2 kf), iv (own_K b0 b1 b2 (own_k1 kf)), rv a18, iv ress0, own_lv cns0, .second, iv vas0, iv vbs0, iv vcs0, iv vds0, iv pos0, iv pas0, iv ers0, .unset, .unset, .unset, .unset, .unset] [(.long (2 : Int64)), (.long e1s0)] _
        refine XS.goto X33.here hx rfl (pc0 := 335) (pc' := 339) rfl (hb hby at_335) (by decide) (by decide) ?_
        show own_S p e below T33 m 339 #[iv xk, iv xa, iv xs, iv xv, iv xw, rv a2, iv ff, iv fr, iv t1, iv t2, iv (0 : Int32), iv (own_bi bv), iv (own_bi bw), iv (own_K b0 b1 b2 kf), iv (own_K b0 b1 b2 (own_k1 kf)), rv a18, iv ress0, own_lv cns0, .second, iv vas0, iv vbs0, iv vcs0, iv vds0, iv pos0, iv pas0, iv ers0, .unset, .unset, .unset, .unset, .unset] [(.long (2 : Int64)), (.long e1s0)] _
        rw [show e2s0 = (2 : Int64) from by rw [he2s0, if_neg hc41]] at kt
        exact kt
    refine own_st sg42 ?_
    obtain ⟨e3s0, he3s0⟩ : ∃ z : Int64, z = (if ers0 = (0 : Int32) then (0 : Int64) else (2 : Int64)) := ⟨_, rfl⟩
    have sg44 : own_V p e below T33 (mkF m 352 #[iv xk, iv xa, iv xs, iv xv, iv xw, rv a2, iv ff, iv fr, iv t1, iv t2, iv (0 : Int32), iv (own_bi bv), iv (own_bi bw), iv (own_K b0 b1 b2 kf), iv (own_K b0 b1 b2 (own_k1 kf)), rv a18, iv ress0, own_lv cns0, .second, iv vas0, iv vbs0, iv vcs0, iv vds0, iv pos0, iv pas0, iv ers0, .unset, .unset, .unset, .unset, .unset] [(.long e3s0), (.long (e1s0 + e2s0))]) (mkF m 339 #[iv xk, iv xa, iv xs, iv xv, iv xw, rv a2, iv ff, iv fr, iv t1, iv t2, iv (0 : Int32), iv (own_bi bv), iv (own_bi bw), iv (own_K b0 b1 b2 kf), iv (own_K b0 b1 b2 (own_k1 kf)), rv a18, iv ress0, own_lv cns0, .second, iv vas0, iv vbs0, iv vcs0, iv vds0, iv pos0, iv pas0, iv ers0, .unset, .unset, .unset, .unset, .unset] [(.long e2s0), (.long e1s0)]) := by
      intro t kt
      refine XS.ladd X33.here hx rfl (hb hby at_339) rfl ?_
      show own_S p e below T33 m 340 #[iv xk, iv xa, iv xs, iv xv, iv xw, rv a2, iv ff, iv fr, iv t1, iv t2, iv (0 : Int32), iv (own_bi bv), iv (own_bi bw), iv (own_K b0 b1 b2 kf), iv (own_K b0 b1 b2 (own_k1 kf)), rv a18, iv ress0, own_lv cns0, .second, iv vas0, iv vbs0, iv vcs0, iv vds0, iv pos0, iv pas0, iv ers0, .unset, .unset, .unset, .unset, .unset] [(.long (e1s0 + e2s0))] _
      refine XS.iload X33.here hx rfl (hb hby at_340) rfl ?_
      show own_S p e below T33 m 342 #[iv xk, iv xa, iv xs, iv xv, iv xw, rv a2, iv ff, iv fr, iv t1, iv t2, iv (0 : Int32), iv (own_bi bv), iv (own_bi bw), iv (own_K b0 b1 b2 kf), iv (own_K b0 b1 b2 (own_k1 kf)), rv a18, iv ress0, own_lv cns0, .second, iv vas0, iv vbs0, iv vcs0, iv vds0, iv pos0, iv pas0, iv ers0, .unset, .unset, .unset, .unset, .unset] [(.int ers0), (.long (e1s0 + e2s0))] _
      by_cases hc43 : ers0 = (0 : Int32)
      · refine XS.ifYes X33.here hx rfl (pc0 := 342) (pc' := 351) rfl (hb hby at_342) rfl ((if0 _ _).trans (teq hc43).1) (by decide) (by decide) ?_
        show own_S p e below T33 m 351 #[iv xk, iv xa, iv xs, iv xv, iv xw, rv a2, iv ff, iv fr, iv t1, iv t2, iv (0 : Int32), iv (own_bi bv), iv (own_bi bw), iv (own_K b0 b1 b2 kf), iv (own_K b0 b1 b2 (own_k1 kf)), rv a18, iv ress0, own_lv cns0, .second, iv vas0, iv vbs0, iv vcs0, iv vds0, iv pos0, iv pas0, iv ers0, .unset, .unset, .unset, .unset, .unset] [(.long (e1s0 + e2s0))] _
        refine XS.lconst X33.here hx rfl (hb hby at_351) ?_
        show own_S p e below T33 m 352 #[iv xk, iv xa, iv xs, iv xv, iv xw, rv a2, iv ff, iv fr, iv t1, iv t2, iv (0 : Int32), iv (own_bi bv), iv (own_bi bw), iv (own_K b0 b1 b2 kf), iv (own_K b0 b1 b2 (own_k1 kf)), rv a18, iv ress0, own_lv cns0, .second, iv vas0, iv vbs0, iv vcs0, iv vds0, iv pos0, iv pas0, iv ers0, .unset, .unset, .unset, .unset, .unset] [(.long (0 : Int64)), (.long (e1s0 + e2s0))] _
        rw [show e3s0 = (0 : Int64) from by rw [he3s0, if_pos hc43]] at kt
        exact kt
      · refine XS.ifNo X33.here hx rfl (hb hby at_342) rfl ((if0 _ _).trans (feq hc43).1) ?_
        show own_S p e below T33 m 345 #[iv xk, iv xa, iv xs, iv xv, iv xw, rv a2, iv ff, iv fr, iv t1, iv t2, iv (0 : Int32), iv (own_bi bv), iv (own_bi bw), iv (own_K b0 b1 b2 kf), iv (own_K b0 b1 b2 (own_k1 kf)), rv a18, iv ress0, own_lv cns0, .second, iv vas0, iv vbs0, iv vcs0, iv vds0, iv pos0, iv pas0, iv ers0, .unset, .unset, .unset, .unset, .unset] [(.long (e1s0 + e2s0))] _
        refine X33.ldc2Long hx hown (mvT hZ (hw _ (List.mem_of_getElem? (i := 100) rfl))) (g := (mkF m 345 #[iv xk, iv xa, iv xs, iv xv, iv xw, rv a2, iv ff, iv fr, iv t1, iv t2, iv (0 : Int32), iv (own_bi bv), iv (own_bi bw), iv (own_K b0 b1 b2 kf), iv (own_K b0 b1 b2 (own_k1 kf)), rv a18, iv ress0, own_lv cns0, .second, iv vas0, iv vbs0, iv vcs0, iv vds0, iv pos0, iv pas0, iv ers0, .unset, .unset, .unset, .unset, .unset] [(.long (e1s0 + e2s0))])) rfl (hb hby at_345) _ ?_
        show own_S p e below T33 m 348 #[iv xk, iv xa, iv xs, iv xv, iv xw, rv a2, iv ff, iv fr, iv t1, iv t2, iv (0 : Int32), iv (own_bi bv), iv (own_bi bw), iv (own_K b0 b1 b2 kf), iv (own_K b0 b1 b2 (own_k1 kf)), rv a18, iv ress0, own_lv cns0, .second, iv vas0, iv vbs0, iv vcs0, iv vds0, iv pos0, iv pas0, iv ers0, .unset, .unset, .unset, .unset, .unset] [(.long (2 : Int64)), (.long (e1s0 + e2s0))] _
        refine XS.goto X33.here hx rfl (pc0 := 348) (pc' := 352) rfl (hb hby at_348) (by decide) (by decide) ?_
        show own_S p e below T33 m 352 #[iv xk, iv xa, iv xs, iv xv, iv xw, rv a2, iv ff, iv fr, iv t1, iv t2, iv (0 : Int32), iv (own_bi bv), iv (own_bi bw), iv (own_K b0 b1 b2 kf), iv (own_K b0 b1 b2 (own_k1 kf)), rv a18, iv ress0, own_lv cns0, .second, iv vas0, iv vbs0, iv vcs0, iv vds0, iv pos0, iv pas0, iv ers0, .unset, .unset, .unset, .unset, .unset] [(.long (2 : Int64)), (.long (e1s0 + e2s0))] _
        rw [show e3s0 = (2 : Int64) from by rw [he3s0, if_neg hc43]] at kt
        exact kt
    refine own_st sg44 ?_
    obtain ⟨ecs0, hecs0⟩ : ∃ z : Int64, z = ((e1s0 + e2s0) + e3s0) := ⟨_, rfl⟩
    obtain ⟨x1s0, hx1s0⟩ : ∃ z : Int32, z = (if pas0 = (0 : Int32) then (if ers0 = (0 : Int32) then (-1 : Int32) else (own_bi bv)) else (own_bi bw)) := ⟨_, rfl⟩
    have sg47 : own_V p e below T33 (mkF m 400 #[iv xk, iv xa, iv xs, iv xv, iv xw, rv a2, iv ff, iv fr, iv t1, iv t2, iv (0 : Int32), iv (own_bi bv), iv (own_bi bw), iv (own_K b0 b1 b2 kf), iv (own_K b0 b1 b2 (own_k1 kf)), rv a18, iv ress0, own_lv cns0, .second, iv vas0, iv vbs0, iv vcs0, iv vds0, iv pos0, iv pas0, iv ers0, own_lv ecs0, .second, iv x1s0, .unset, .unset] []) (mkF m 352 #[iv xk, iv xa, iv xs, iv xv, iv xw, rv a2, iv ff, iv fr, iv t1, iv t2, iv (0 : Int32), iv (own_bi bv), iv (own_bi bw), iv (own_K b0 b1 b2 kf), iv (own_K b0 b1 b2 (own_k1 kf)), rv a18, iv ress0, own_lv cns0, .second, iv vas0, iv vbs0, iv vcs0, iv vds0, iv pos0, iv pas0, iv ers0, .unset, .unset, .unset, .unset, .unset] [(.long e3s0), (.long (e1s0 + e2s0))]) := by
      intro t kt
      refine XS.ladd X33.here hx rfl (hb hby at_352) rfl ?_
      show own_S p e below T33 m 353 #[iv xk, iv xa, iv xs, iv xv, iv xw, rv a2, iv ff, iv fr, iv t1, iv t2, iv (0 : Int32), iv (own_bi bv), iv (own_bi bw), iv (own_K b0 b1 b2 kf), iv (own_K b0 b1 b2 (own_k1 kf)), rv a18, iv ress0, own_lv cns0, .second, iv vas0, iv vbs0, iv vcs0, iv vds0, iv pos0, iv pas0, iv ers0, .unset, .unset, .unset, .unset, .unset] [(.long ((e1s0 + e2s0) + e3s0))] _
      refine XS.lstore X33.here hx rfl (hb hby at_353) rfl (l' := #[iv xk, iv xa, iv xs, iv xv, iv xw, rv a2, iv ff, iv fr, iv t1, iv t2, iv (0 : Int32), iv (own_bi bv), iv (own_bi bw), iv (own_K b0 b1 b2 kf), iv (own_K b0 b1 b2 (own_k1 kf)), rv a18, iv ress0, own_lv cns0, .second, iv vas0, iv vbs0, iv vcs0, iv vds0, iv pos0, iv pas0, iv ers0, own_lv ((e1s0 + e2s0) + e3s0), .second, .unset, .unset, .unset]) rfl ?_
      show own_S p e below T33 m 355 #[iv xk, iv xa, iv xs, iv xv, iv xw, rv a2, iv ff, iv fr, iv t1, iv t2, iv (0 : Int32), iv (own_bi bv), iv (own_bi bw), iv (own_K b0 b1 b2 kf), iv (own_K b0 b1 b2 (own_k1 kf)), rv a18, iv ress0, own_lv cns0, .second, iv vas0, iv vbs0, iv vcs0, iv vds0, iv pos0, iv pas0, iv ers0, own_lv ((e1s0 + e2s0) + e3s0), .second, .unset, .unset, .unset] [] _
      refine XS.iload X33.here hx rfl (hb hby at_355) rfl ?_
      show own_S p e below T33 m 357 #[iv xk, iv xa, iv xs, iv xv, iv xw, rv a2, iv ff, iv fr, iv t1, iv t2, iv (0 : Int32), iv (own_bi bv), iv (own_bi bw), iv (own_K b0 b1 b2 kf), iv (own_K b0 b1 b2 (own_k1 kf)), rv a18, iv ress0, own_lv cns0, .second, iv vas0, iv vbs0, iv vcs0, iv vds0, iv pos0, iv pas0, iv ers0, own_lv ((e1s0 + e2s0) + e3s0), .second, .unset, .unset, .unset] [(.int pas0)] _
      by_cases hc45 : pas0 = (0 : Int32)
      · refine XS.ifYes X33.here hx rfl (pc0 := 357) (pc' := 367) rfl (hb hby at_357) rfl ((if0 _ _).trans (teq hc45).1) (by decide) (by decide) ?_
        show own_S p e below T33 m 367 #[iv xk, iv xa, iv xs, iv xv, iv xw, rv a2, iv ff, iv fr, iv t1, iv t2, iv (0 : Int32), iv (own_bi bv), iv (own_bi bw), iv (own_K b0 b1 b2 kf), iv (own_K b0 b1 b2 (own_k1 kf)), rv a18, iv ress0, own_lv cns0, .second, iv vas0, iv vbs0, iv vcs0, iv vds0, iv pos0, iv pas0, iv ers0, own_lv ((e1s0 + e2s0) + e3s0), .second, .unset, .unset, .unset] [] _
        refine XS.iload X33.here hx rfl (hb hby at_367) rfl ?_
        show own_S p e below T33 m 369 #[iv xk, iv xa, iv xs, iv xv, iv xw, rv a2, iv ff, iv fr, iv t1, iv t2, iv (0 : Int32), iv (own_bi bv), iv (own_bi bw), iv (own_K b0 b1 b2 kf), iv (own_K b0 b1 b2 (own_k1 kf)), rv a18, iv ress0, own_lv cns0, .second, iv vas0, iv vbs0, iv vcs0, iv vds0, iv pos0, iv pas0, iv ers0, own_lv ((e1s0 + e2s0) + e3s0), .second, .unset, .unset, .unset] [(.int ers0)] _
        by_cases hc46 : ers0 = (0 : Int32)
        · refine XS.ifYes X33.here hx rfl (pc0 := 369) (pc' := 379) rfl (hb hby at_369) rfl ((if0 _ _).trans (teq hc46).1) (by decide) (by decide) ?_
          show own_S p e below T33 m 379 #[iv xk, iv xa, iv xs, iv xv, iv xw, rv a2, iv ff, iv fr, iv t1, iv t2, iv (0 : Int32), iv (own_bi bv), iv (own_bi bw), iv (own_K b0 b1 b2 kf), iv (own_K b0 b1 b2 (own_k1 kf)), rv a18, iv ress0, own_lv cns0, .second, iv vas0, iv vbs0, iv vcs0, iv vds0, iv pos0, iv pas0, iv ers0, own_lv ((e1s0 + e2s0) + e3s0), .second, .unset, .unset, .unset] [] _
          refine XS.iload X33.here hx rfl (hb hby at_379) rfl ?_
          show own_S p e below T33 m 381 #[iv xk, iv xa, iv xs, iv xv, iv xw, rv a2, iv ff, iv fr, iv t1, iv t2, iv (0 : Int32), iv (own_bi bv), iv (own_bi bw), iv (own_K b0 b1 b2 kf), iv (own_K b0 b1 b2 (own_k1 kf)), rv a18, iv ress0, own_lv cns0, .second, iv vas0, iv vbs0, iv vcs0, iv vds0, iv pos0, iv pas0, iv ers0, own_lv ((e1s0 + e2s0) + e3s0), .second, .unset, .unset, .unset] [(.int (0 : Int32))] _
          refine XS.iconst X33.here hx rfl (hb hby at_381) ?_
          show own_S p e below T33 m 382 #[iv xk, iv xa, iv xs, iv xv, iv xw, rv a2, iv ff, iv fr, iv t1, iv t2, iv (0 : Int32), iv (own_bi bv), iv (own_bi bw), iv (own_K b0 b1 b2 kf), iv (own_K b0 b1 b2 (own_k1 kf)), rv a18, iv ress0, own_lv cns0, .second, iv vas0, iv vbs0, iv vcs0, iv vds0, iv pos0, iv pas0, iv ers0, own_lv ((e1s0 + e2s0) + e3s0), .second, .unset, .unset, .unset] [(.int (1 : Int32)), (.int (0 : Int32))] _
          refine XS.icmpYes X33.here hx rfl (pc0 := 382) (pc' := 397) rfl (hb hby at_382) rfl (feq (by decide : ¬ (0 : Int32) = (1 : Int32))).2 (by decide) (by decide) ?_
          show own_S p e below T33 m 397 #[iv xk, iv xa, iv xs, iv xv, iv xw, rv a2, iv ff, iv fr, iv t1, iv t2, iv (0 : Int32), iv (own_bi bv), iv (own_bi bw), iv (own_K b0 b1 b2 kf), iv (own_K b0 b1 b2 (own_k1 kf)), rv a18, iv ress0, own_lv cns0, .second, iv vas0, iv vbs0, iv vcs0, iv vds0, iv pos0, iv pas0, iv ers0, own_lv ((e1s0 + e2s0) + e3s0), .second, .unset, .unset, .unset] [] _
          refine XS.iconst X33.here hx rfl (hb hby at_397) ?_
          show own_S p e below T33 m 398 #[iv xk, iv xa, iv xs, iv xv, iv xw, rv a2, iv ff, iv fr, iv t1, iv t2, iv (0 : Int32), iv (own_bi bv), iv (own_bi bw), iv (own_K b0 b1 b2 kf), iv (own_K b0 b1 b2 (own_k1 kf)), rv a18, iv ress0, own_lv cns0, .second, iv vas0, iv vbs0, iv vcs0, iv vds0, iv pos0, iv pas0, iv ers0, own_lv ((e1s0 + e2s0) + e3s0), .second, .unset, .unset, .unset] [(.int (-1 : Int32))] _
          refine XS.istore X33.here hx rfl (hb hby at_398) rfl (l' := #[iv xk, iv xa, iv xs, iv xv, iv xw, rv a2, iv ff, iv fr, iv t1, iv t2, iv (0 : Int32), iv (own_bi bv), iv (own_bi bw), iv (own_K b0 b1 b2 kf), iv (own_K b0 b1 b2 (own_k1 kf)), rv a18, iv ress0, own_lv cns0, .second, iv vas0, iv vbs0, iv vcs0, iv vds0, iv pos0, iv pas0, iv ers0, own_lv ((e1s0 + e2s0) + e3s0), .second, iv (-1 : Int32), .unset, .unset]) rfl ?_
          show own_S p e below T33 m 400 #[iv xk, iv xa, iv xs, iv xv, iv xw, rv a2, iv ff, iv fr, iv t1, iv t2, iv (0 : Int32), iv (own_bi bv), iv (own_bi bw), iv (own_K b0 b1 b2 kf), iv (own_K b0 b1 b2 (own_k1 kf)), rv a18, iv ress0, own_lv cns0, .second, iv vas0, iv vbs0, iv vcs0, iv vds0, iv pos0, iv pas0, iv ers0, own_lv ((e1s0 + e2s0) + e3s0), .second, iv (-1 : Int32), .unset, .unset] [] _
          rw [hecs0] at kt
          rw [show x1s0 = (-1 : Int32) from by rw [hx1s0, if_pos hc45, if_pos hc46]] at kt
          exact kt
        · refine XS.ifNo X33.here hx rfl (hb hby at_369) rfl ((if0 _ _).trans (feq hc46).1) ?_
          show own_S p e below T33 m 372 #[iv xk, iv xa, iv xs, iv xv, iv xw, rv a2, iv ff, iv fr, iv t1, iv t2, iv (0 : Int32), iv (own_bi bv), iv (own_bi bw), iv (own_K b0 b1 b2 kf), iv (own_K b0 b1 b2 (own_k1 kf)), rv a18, iv ress0, own_lv cns0, .second, iv vas0, iv vbs0, iv vcs0, iv vds0, iv pos0, iv pas0, iv ers0, own_lv ((e1s0 + e2s0) + e3s0), .second, .unset, .unset, .unset] [] _
          refine XS.iload X33.here hx rfl (hb hby at_372) rfl ?_
          show own_S p e below T33 m 374 #[iv xk, iv xa, iv xs, iv xv, iv xw, rv a2, iv ff, iv fr, iv t1, iv t2, iv (0 : Int32), iv (own_bi bv), iv (own_bi bw), iv (own_K b0 b1 b2 kf), iv (own_K b0 b1 b2 (own_k1 kf)), rv a18, iv ress0, own_lv cns0, .second, iv vas0, iv vbs0, iv vcs0, iv vds0, iv pos0, iv pas0, iv ers0, own_lv ((e1s0 + e2s0) + e3s0), .second, .unset, .unset, .unset] [(.int (own_bi bv))] _
          refine XS.istore X33.here hx rfl (hb hby at_374) rfl (l' := #[iv xk, iv xa, iv xs, iv xv, iv xw, rv a2, iv ff, iv fr, iv t1, iv t2, iv (0 : Int32), iv (own_bi bv), iv (own_bi bw), iv (own_K b0 b1 b2 kf), iv (own_K b0 b1 b2 (own_k1 kf)), rv a18, iv ress0, own_lv cns0, .second, iv vas0, iv vbs0, iv vcs0, iv vds0, iv pos0, iv pas0, iv ers0, own_lv ((e1s0 + e2s0) + e3s0), .second, iv (own_bi bv), .unset, .unset]) rfl ?_
          show own_S p e below T33 m 376 #[iv xk, iv xa, iv xs, iv xv, iv xw, rv a2, iv ff, iv fr, iv t1, iv t2, iv (0 : Int32), iv (own_bi bv), iv (own_bi bw), iv (own_K b0 b1 b2 kf), iv (own_K b0 b1 b2 (own_k1 kf)), rv a18, iv ress0, own_lv cns0, .second, iv vas0, iv vbs0, iv vcs0, iv vds0, iv pos0, iv pas0, iv ers0, own_lv ((e1s0 + e2s0) + e3s0), .second, iv (own_bi bv), .unset, .unset] [] _
          refine XS.goto X33.here hx rfl (pc0 := 376) (pc' := 400) rfl (hb hby at_376) (by decide) (by decide) ?_
          show own_S p e below T33 m 400 #[iv xk, iv xa, iv xs, iv xv, iv xw, rv a2, iv ff, iv fr, iv t1, iv t2, iv (0 : Int32), iv (own_bi bv), iv (own_bi bw), iv (own_K b0 b1 b2 kf), iv (own_K b0 b1 b2 (own_k1 kf)), rv a18, iv ress0, own_lv cns0, .second, iv vas0, iv vbs0, iv vcs0, iv vds0, iv pos0, iv pas0, iv ers0, own_lv ((e1s0 + e2s0) + e3s0), .second, iv (own_bi bv), .unset, .unset] [] _
          rw [hecs0] at kt
          rw [show x1s0 = (own_bi bv) from by rw [hx1s0, if_pos hc45, if_neg hc46]] at kt
          exact kt
      · refine XS.ifNo X33.here hx rfl (hb hby at_357) rfl ((if0 _ _).trans (feq hc45).1) ?_
        show own_S p e below T33 m 360 #[iv xk, iv xa, iv xs, iv xv, iv xw, rv a2, iv ff, iv fr, iv t1, iv t2, iv (0 : Int32), iv (own_bi bv), iv (own_bi bw), iv (own_K b0 b1 b2 kf), iv (own_K b0 b1 b2 (own_k1 kf)), rv a18, iv ress0, own_lv cns0, .second, iv vas0, iv vbs0, iv vcs0, iv vds0, iv pos0, iv pas0, iv ers0, own_lv ((e1s0 + e2s0) + e3s0), .second, .unset, .unset, .unset] [] _
        refine XS.iload X33.here hx rfl (hb hby at_360) rfl ?_
        show own_S p e below T33 m 362 #[iv xk, iv xa, iv xs, iv xv, iv xw, rv a2, iv ff, iv fr, iv t1, iv t2, iv (0 : Int32), iv (own_bi bv), iv (own_bi bw), iv (own_K b0 b1 b2 kf), iv (own_K b0 b1 b2 (own_k1 kf)), rv a18, iv ress0, own_lv cns0, .second, iv vas0, iv vbs0, iv vcs0, iv vds0, iv pos0, iv pas0, iv ers0, own_lv ((e1s0 + e2s0) + e3s0), .second, .unset, .unset, .unset] [(.int (own_bi bw))] _
        refine XS.istore X33.here hx rfl (hb hby at_362) rfl (l' := #[iv xk, iv xa, iv xs, iv xv, iv xw, rv a2, iv ff, iv fr, iv t1, iv t2, iv (0 : Int32), iv (own_bi bv), iv (own_bi bw), iv (own_K b0 b1 b2 kf), iv (own_K b0 b1 b2 (own_k1 kf)), rv a18, iv ress0, own_lv cns0, .second, iv vas0, iv vbs0, iv vcs0, iv vds0, iv pos0, iv pas0, iv ers0, own_lv ((e1s0 + e2s0) + e3s0), .second, iv (own_bi bw), .unset, .unset]) rfl ?_
        show own_S p e below T33 m 364 #[iv xk, iv xa, iv xs, iv xv, iv xw, rv a2, iv ff, iv fr, iv t1, iv t2, iv (0 : Int32), iv (own_bi bv), iv (own_bi bw), iv (own_K b0 b1 b2 kf), iv (own_K b0 b1 b2 (own_k1 kf)), rv a18, iv ress0, own_lv cns0, .second, iv vas0, iv vbs0, iv vcs0, iv vds0, iv pos0, iv pas0, iv ers0, own_lv ((e1s0 + e2s0) + e3s0), .second, iv (own_bi bw), .unset, .unset] [] _
        refine XS.goto X33.here hx rfl (pc0 := 364) (pc' := 400) rfl (hb hby at_364) (by decide) (by decide) ?_
        show own_S p e below T33 m 400 #[iv xk, iv xa, iv xs, iv xv, iv xw, rv a2, iv ff, iv fr, iv t1, iv t2, iv (0 : Int32), iv (own_bi bv), iv (own_bi bw), iv (own_K b0 b1 b2 kf), iv (own_K b0 b1 b2 (own_k1 kf)), rv a18, iv ress0, own_lv cns0, .second, iv vas0, iv vbs0, iv vcs0, iv vds0, iv pos0, iv pas0, iv ers0, own_lv ((e1s0 + e2s0) + e3s0), .second, iv (own_bi bw), .unset, .unset] [] _
        rw [hecs0] at kt
        rw [show x1s0 = (own_bi bw) from by rw [hx1s0, if_neg hc45]] at kt
        exact kt
    refine own_st sg47 ?_
    obtain ⟨x2s0, hx2s0⟩ : ∃ z : Int32, z = (if pas0 = (0 : Int32) then (if ers0 = (0 : Int32) then (-1 : Int32) else (own_bi bv)) else (own_bi bw)) := ⟨_, rfl⟩
    have sg50 : own_V p e below T33 (mkF m 427 #[iv xk, iv xa, iv xs, iv xv, iv xw, rv a2, iv ff, iv fr, iv t1, iv t2, iv (0 : Int32), iv (own_bi bv), iv (own_bi bw), iv (own_K b0 b1 b2 kf), iv (own_K b0 b1 b2 (own_k1 kf)), rv a18, iv ress0, own_lv cns0, .second, iv vas0, iv vbs0, iv vcs0, iv vds0, iv pos0, iv pas0, iv ers0, own_lv ecs0, .second, iv x1s0, iv x2s0, .unset] []) (mkF m 400 #[iv xk, iv xa, iv xs, iv xv, iv xw, rv a2, iv ff, iv fr, iv t1, iv t2, iv (0 : Int32), iv (own_bi bv), iv (own_bi bw), iv (own_K b0 b1 b2 kf), iv (own_K b0 b1 b2 (own_k1 kf)), rv a18, iv ress0, own_lv cns0, .second, iv vas0, iv vbs0, iv vcs0, iv vds0, iv pos0, iv pas0, iv ers0, own_lv ecs0, .second, iv x1s0, .unset, .unset] []) := by
      intro t kt
      refine XS.iload X33.here hx rfl (hb hby at_400) rfl ?_
      show own_S p e below T33 m 402 #[iv xk, iv xa, iv xs, iv xv, iv xw, rv a2, iv ff, iv fr, iv t1, iv t2, iv (0 : Int32), iv (own_bi bv), iv (own_bi bw), iv (own_K b0 b1 b2 kf), iv (own_K b0 b1 b2 (own_k1 kf)), rv a18, iv ress0, own_lv cns0, .second, iv vas0, iv vbs0, iv vcs0, iv vds0, iv pos0, iv pas0, iv ers0, own_lv ecs0, .second, iv x1s0, .unset, .unset] [(.int pas0)] _
      by_cases hc48 : pas0 = (0 : Int32)
      · refine XS.ifYes X33.here hx rfl (pc0 := 402) (pc' := 412) rfl (hb hby at_402) rfl ((if0 _ _).trans (teq hc48).1) (by decide) (by decide) ?_
        show own_S p e below T33 m 412 #[iv xk, iv xa, iv xs, iv xv, iv xw, rv a2, iv ff, iv fr, iv t1, iv t2, iv (0 : Int32), iv (own_bi bv), iv (own_bi bw), iv (own_K b0 b1 b2 kf), iv (own_K b0 b1 b2 (own_k1 kf)), rv a18, iv ress0, own_lv cns0, .second, iv vas0, iv vbs0, iv vcs0, iv vds0, iv pos0, iv pas0, iv ers0, own_lv ecs0, .second, iv x1s0, .unset, .unset] [] _
        refine XS.iload X33.here hx rfl (hb hby at_412) rfl ?_
        show own_S p e below T33 m 414 #[iv xk, iv xa, iv xs, iv xv, iv xw, rv a2, iv ff, iv fr, iv t1, iv t2, iv (0 : Int32), iv (own_bi bv), iv (own_bi bw), iv (own_K b0 b1 b2 kf), iv (own_K b0 b1 b2 (own_k1 kf)), rv a18, iv ress0, own_lv cns0, .second, iv vas0, iv vbs0, iv vcs0, iv vds0, iv pos0, iv pas0, iv ers0, own_lv ecs0, .second, iv x1s0, .unset, .unset] [(.int ers0)] _
        by_cases hc49 : ers0 = (0 : Int32)
        · refine XS.ifYes X33.here hx rfl (pc0 := 414) (pc' := 424) rfl (hb hby at_414) rfl ((if0 _ _).trans (teq hc49).1) (by decide) (by decide) ?_
          show own_S p e below T33 m 424 #[iv xk, iv xa, iv xs, iv xv, iv xw, rv a2, iv ff, iv fr, iv t1, iv t2, iv (0 : Int32), iv (own_bi bv), iv (own_bi bw), iv (own_K b0 b1 b2 kf), iv (own_K b0 b1 b2 (own_k1 kf)), rv a18, iv ress0, own_lv cns0, .second, iv vas0, iv vbs0, iv vcs0, iv vds0, iv pos0, iv pas0, iv ers0, own_lv ecs0, .second, iv x1s0, .unset, .unset] [] _
          refine XS.iconst X33.here hx rfl (hb hby at_424) ?_
          show own_S p e below T33 m 425 #[iv xk, iv xa, iv xs, iv xv, iv xw, rv a2, iv ff, iv fr, iv t1, iv t2, iv (0 : Int32), iv (own_bi bv), iv (own_bi bw), iv (own_K b0 b1 b2 kf), iv (own_K b0 b1 b2 (own_k1 kf)), rv a18, iv ress0, own_lv cns0, .second, iv vas0, iv vbs0, iv vcs0, iv vds0, iv pos0, iv pas0, iv ers0, own_lv ecs0, .second, iv x1s0, .unset, .unset] [(.int (-1 : Int32))] _
          refine XS.istore X33.here hx rfl (hb hby at_425) rfl (l' := #[iv xk, iv xa, iv xs, iv xv, iv xw, rv a2, iv ff, iv fr, iv t1, iv t2, iv (0 : Int32), iv (own_bi bv), iv (own_bi bw), iv (own_K b0 b1 b2 kf), iv (own_K b0 b1 b2 (own_k1 kf)), rv a18, iv ress0, own_lv cns0, .second, iv vas0, iv vbs0, iv vcs0, iv vds0, iv pos0, iv pas0, iv ers0, own_lv ecs0, .second, iv x1s0, iv (-1 : Int32), .unset]) rfl ?_
          show own_S p e below T33 m 427 #[iv xk, iv xa, iv xs, iv xv, iv xw, rv a2, iv ff, iv fr, iv t1, iv t2, iv (0 : Int32), iv (own_bi bv), iv (own_bi bw), iv (own_K b0 b1 b2 kf), iv (own_K b0 b1 b2 (own_k1 kf)), rv a18, iv ress0, own_lv cns0, .second, iv vas0, iv vbs0, iv vcs0, iv vds0, iv pos0, iv pas0, iv ers0, own_lv ecs0, .second, iv x1s0, iv (-1 : Int32), .unset] [] _
          rw [show x2s0 = (-1 : Int32) from by rw [hx2s0, if_pos hc48, if_pos hc49]] at kt
          exact kt
        · refine XS.ifNo X33.here hx rfl (hb hby at_414) rfl ((if0 _ _).trans (feq hc49).1) ?_
          show own_S p e below T33 m 417 #[iv xk, iv xa, iv xs, iv xv, iv xw, rv a2, iv ff, iv fr, iv t1, iv t2, iv (0 : Int32), iv (own_bi bv), iv (own_bi bw), iv (own_K b0 b1 b2 kf), iv (own_K b0 b1 b2 (own_k1 kf)), rv a18, iv ress0, own_lv cns0, .second, iv vas0, iv vbs0, iv vcs0, iv vds0, iv pos0, iv pas0, iv ers0, own_lv ecs0, .second, iv x1s0, .unset, .unset] [] _
          refine XS.iload X33.here hx rfl (hb hby at_417) rfl ?_
          show own_S p e below T33 m 419 #[iv xk, iv xa, iv xs, iv xv, iv xw, rv a2, iv ff, iv fr, iv t1, iv t2, iv (0 : Int32), iv (own_bi bv), iv (own_bi bw), iv (own_K b0 b1 b2 kf), iv (own_K b0 b1 b2 (own_k1 kf)), rv a18, iv ress0, own_lv cns0, .second, iv vas0, iv vbs0, iv vcs0, iv vds0, iv pos0, iv pas0, iv ers0, own_lv ecs0, .second, iv x1s0, .unset, .unset] [(.int (own_bi bv))] _
          refine XS.istore X33.here hx rfl (hb hby at_419) rfl (l' := #[iv xk, iv xa, iv xs, iv xv, iv xw, rv a2, iv ff, iv fr, iv t1, iv t2, iv (0 : Int32), iv (own_bi bv), iv (own_bi bw), iv (own_K b0 b1 b2 kf), iv (own_K b0 b1 b2 (own_k1 kf)), rv a18, iv ress0, own_lv cns0, .second, iv vas0, iv vbs0, iv vcs0, iv vds0, iv pos0, iv pas0, iv ers0, own_lv ecs0, .second, iv x1s0, iv (own_bi bv), .unset]) rfl ?_
          show own_S p e below T33 m 421 #[iv xk, iv xa, iv xs, iv xv, iv xw, rv a2, iv ff, iv fr, iv t1, iv t2, iv (0 : Int32), iv (own_bi bv), iv (own_bi bw), iv (own_K b0 b1 b2 kf), iv (own_K b0 b1 b2 (own_k1 kf)), rv a18, iv ress0, own_lv cns0, .second, iv vas0, iv vbs0, iv vcs0, iv vds0, iv pos0, iv pas0, iv ers0, own_lv ecs0, .second, iv x1s0, iv (own_bi bv), .unset] [] _
          refine XS.goto X33.here hx rfl (pc0 := 421) (pc' := 427) rfl (hb hby at_421) (by decide) (by decide) ?_
          show own_S p e below T33 m 427 #[iv xk, iv xa, iv xs, iv xv, iv xw, rv a2, iv ff, iv fr, iv t1, iv t2, iv (0 : Int32), iv (own_bi bv), iv (own_bi bw), iv (own_K b0 b1 b2 kf), iv (own_K b0 b1 b2 (own_k1 kf)), rv a18, iv ress0, own_lv cns0, .second, iv vas0, iv vbs0, iv vcs0, iv vds0, iv pos0, iv pas0, iv ers0, own_lv ecs0, .second, iv x1s0, iv (own_bi bv), .unset] [] _
          rw [show x2s0 = (own_bi bv) from by rw [hx2s0, if_pos hc48, if_neg hc49]] at kt
          exact kt
      · refine XS.ifNo X33.here hx rfl (hb hby at_402) rfl ((if0 _ _).trans (feq hc48).1) ?_
        show own_S p e below T33 m 405 #[iv xk, iv xa, iv xs, iv xv, iv xw, rv a2, iv ff, iv fr, iv t1, iv t2, iv (0 : Int32), iv (own_bi bv), iv (own_bi bw), iv (own_K b0 b1 b2 kf), iv (own_K b0 b1 b2 (own_k1 kf)), rv a18, iv ress0, own_lv cns0, .second, iv vas0, iv vbs0, iv vcs0, iv vds0, iv pos0, iv pas0, iv ers0, own_lv ecs0, .second, iv x1s0, .unset, .unset] [] _
        refine XS.iload X33.here hx rfl (hb hby at_405) rfl ?_
        show own_S p e below T33 m 407 #[iv xk, iv xa, iv xs, iv xv, iv xw, rv a2, iv ff, iv fr, iv t1, iv t2, iv (0 : Int32), iv (own_bi bv), iv (own_bi bw), iv (own_K b0 b1 b2 kf), iv (own_K b0 b1 b2 (own_k1 kf)), rv a18, iv ress0, own_lv cns0, .second, iv vas0, iv vbs0, iv vcs0, iv vds0, iv pos0, iv pas0, iv ers0, own_lv ecs0, .second, iv x1s0, .unset, .unset] [(.int (own_bi bw))] _
        refine XS.istore X33.here hx rfl (hb hby at_407) rfl (l' := #[iv xk, iv xa, iv xs, iv xv, iv xw, rv a2, iv ff, iv fr, iv t1, iv t2, iv (0 : Int32), iv (own_bi bv), iv (own_bi bw), iv (own_K b0 b1 b2 kf), iv (own_K b0 b1 b2 (own_k1 kf)), rv a18, iv ress0, own_lv cns0, .second, iv vas0, iv vbs0, iv vcs0, iv vds0, iv pos0, iv pas0, iv ers0, own_lv ecs0, .second, iv x1s0, iv (own_bi bw), .unset]) rfl ?_
        show own_S p e below T33 m 409 #[iv xk, iv xa, iv xs, iv xv, iv xw, rv a2, iv ff, iv fr, iv t1, iv t2, iv (0 : Int32), iv (own_bi bv), iv (own_bi bw), iv (own_K b0 b1 b2 kf), iv (own_K b0 b1 b2 (own_k1 kf)), rv a18, iv ress0, own_lv cns0, .second, iv vas0, iv vbs0, iv vcs0, iv vds0, iv pos0, iv pas0, iv ers0, own_lv ecs0, .second, iv x1s0, iv (own_bi bw), .unset] [] _
        refine XS.goto X33.here hx rfl (pc0 := 409) (pc' := 427) rfl (hb hby at_409) (by decide) (by decide) ?_
        show own_S p e below T33 m 427 #[iv xk, iv xa, iv xs, iv xv, iv xw, rv a2, iv ff, iv fr, iv t1, iv t2, iv (0 : Int32), iv (own_bi bv), iv (own_bi bw), iv (own_K b0 b1 b2 kf), iv (own_K b0 b1 b2 (own_k1 kf)), rv a18, iv ress0, own_lv cns0, .second, iv vas0, iv vbs0, iv vcs0, iv vds0, iv pos0, iv pas0, iv ers0, own_lv ecs0, .second, iv x1s0, iv (own_bi bw), .unset] [] _
        rw [show x2s0 = (own_bi bw) from by rw [hx2s0, if_neg hc48]] at kt
        exact kt
    refine own_st sg50 ?_
    obtain ⟨xbs0, hxbs0⟩ : ∃ z : Int32, z = (-1 : Int32) := ⟨_, rfl⟩
    have sg51 : own_V p e below T33 (mkF m 444 #[iv xk, iv xa, iv xs, iv xv, iv xw, rv a2, iv ff, iv fr, iv t1, iv t2, iv (0 : Int32), iv (own_bi bv), iv (own_bi bw), iv (own_K b0 b1 b2 kf), iv (own_K b0 b1 b2 (own_k1 kf)), rv a18, iv ress0, own_lv cns0, .second, iv vas0, iv vbs0, iv vcs0, iv vds0, iv pos0, iv pas0, iv ers0, own_lv ecs0, .second, iv x1s0, iv x2s0, .unset] [(.int xbs0)]) (mkF m 427 #[iv xk, iv xa, iv xs, iv xv, iv xw, rv a2, iv ff, iv fr, iv t1, iv t2, iv (0 : Int32), iv (own_bi bv), iv (own_bi bw), iv (own_K b0 b1 b2 kf), iv (own_K b0 b1 b2 (own_k1 kf)), rv a18, iv ress0, own_lv cns0, .second, iv vas0, iv vbs0, iv vcs0, iv vds0, iv pos0, iv pas0, iv ers0, own_lv ecs0, .second, iv x1s0, iv x2s0, .unset] []) := by
      intro t kt
      refine XS.iload X33.here hx rfl (hb hby at_427) rfl ?_
      show own_S p e below T33 m 429 #[iv xk, iv xa, iv xs, iv xv, iv xw, rv a2, iv ff, iv fr, iv t1, iv t2, iv (0 : Int32), iv (own_bi bv), iv (own_bi bw), iv (own_K b0 b1 b2 kf), iv (own_K b0 b1 b2 (own_k1 kf)), rv a18, iv ress0, own_lv cns0, .second, iv vas0, iv vbs0, iv vcs0, iv vds0, iv pos0, iv pas0, iv ers0, own_lv ecs0, .second, iv x1s0, iv x2s0, .unset] [(.int (0 : Int32))] _
      refine XS.iconst X33.here hx rfl (hb hby at_429) ?_
      show own_S p e below T33 m 430 #[iv xk, iv xa, iv xs, iv xv, iv xw, rv a2, iv ff, iv fr, iv t1, iv t2, iv (0 : Int32), iv (own_bi bv), iv (own_bi bw), iv (own_K b0 b1 b2 kf), iv (own_K b0 b1 b2 (own_k1 kf)), rv a18, iv ress0, own_lv cns0, .second, iv vas0, iv vbs0, iv vcs0, iv vds0, iv pos0, iv pas0, iv ers0, own_lv ecs0, .second, iv x1s0, iv x2s0, .unset] [(.int (3 : Int32)), (.int (0 : Int32))] _
      refine XS.icmpYes X33.here hx rfl (pc0 := 430) (pc' := 443) rfl (hb hby at_430) rfl (feq (by decide : ¬ (0 : Int32) = (3 : Int32))).2 (by decide) (by decide) ?_
      show own_S p e below T33 m 443 #[iv xk, iv xa, iv xs, iv xv, iv xw, rv a2, iv ff, iv fr, iv t1, iv t2, iv (0 : Int32), iv (own_bi bv), iv (own_bi bw), iv (own_K b0 b1 b2 kf), iv (own_K b0 b1 b2 (own_k1 kf)), rv a18, iv ress0, own_lv cns0, .second, iv vas0, iv vbs0, iv vcs0, iv vds0, iv pos0, iv pas0, iv ers0, own_lv ecs0, .second, iv x1s0, iv x2s0, .unset] [] _
      refine XS.iconst X33.here hx rfl (hb hby at_443) ?_
      show own_S p e below T33 m 444 #[iv xk, iv xa, iv xs, iv xv, iv xw, rv a2, iv ff, iv fr, iv t1, iv t2, iv (0 : Int32), iv (own_bi bv), iv (own_bi bw), iv (own_K b0 b1 b2 kf), iv (own_K b0 b1 b2 (own_k1 kf)), rv a18, iv ress0, own_lv cns0, .second, iv vas0, iv vbs0, iv vcs0, iv vds0, iv pos0, iv pas0, iv ers0, own_lv ecs0, .second, iv x1s0, iv x2s0, .unset] [(.int (-1 : Int32))] _
      rw [hxbs0] at kt
      exact kt
    refine own_st sg51 ?_
    obtain ⟨rrs0, hrrs0⟩ : ∃ z : Int32, z = (if ress0 = ers0 then (if cns0 = ecs0 then (if vas0 = x1s0 then (if vbs0 = x2s0 then (if vcs0 = (-1 : Int32) then (if vds0 = xbs0 then (1 : Int32) else (0 : Int32)) else (0 : Int32)) else (0 : Int32)) else (0 : Int32)) else (0 : Int32)) else (0 : Int32)) := ⟨_, rfl⟩
    have sg58 : own_V p e below T33 (mkF m 493 #[iv xk, iv xa, iv xs, iv xv, iv xw, rv a2, iv ff, iv fr, iv t1, iv t2, iv (0 : Int32), iv (own_bi bv), iv (own_bi bw), iv (own_K b0 b1 b2 kf), iv (own_K b0 b1 b2 (own_k1 kf)), rv a18, iv ress0, own_lv cns0, .second, iv vas0, iv vbs0, iv vcs0, iv vds0, iv pos0, iv pas0, iv ers0, own_lv ecs0, .second, iv x1s0, iv x2s0, iv xbs0] [(.int rrs0)]) (mkF m 444 #[iv xk, iv xa, iv xs, iv xv, iv xw, rv a2, iv ff, iv fr, iv t1, iv t2, iv (0 : Int32), iv (own_bi bv), iv (own_bi bw), iv (own_K b0 b1 b2 kf), iv (own_K b0 b1 b2 (own_k1 kf)), rv a18, iv ress0, own_lv cns0, .second, iv vas0, iv vbs0, iv vcs0, iv vds0, iv pos0, iv pas0, iv ers0, own_lv ecs0, .second, iv x1s0, iv x2s0, .unset] [(.int xbs0)]) := by
      intro t kt
      refine XS.istore X33.here hx rfl (hb hby at_444) rfl (l' := #[iv xk, iv xa, iv xs, iv xv, iv xw, rv a2, iv ff, iv fr, iv t1, iv t2, iv (0 : Int32), iv (own_bi bv), iv (own_bi bw), iv (own_K b0 b1 b2 kf), iv (own_K b0 b1 b2 (own_k1 kf)), rv a18, iv ress0, own_lv cns0, .second, iv vas0, iv vbs0, iv vcs0, iv vds0, iv pos0, iv pas0, iv ers0, own_lv ecs0, .second, iv x1s0, iv x2s0, iv xbs0]) rfl ?_
      show own_S p e below T33 m 446 #[iv xk, iv xa, iv xs, iv xv, iv xw, rv a2, iv ff, iv fr, iv t1, iv t2, iv (0 : Int32), iv (own_bi bv), iv (own_bi bw), iv (own_K b0 b1 b2 kf), iv (own_K b0 b1 b2 (own_k1 kf)), rv a18, iv ress0, own_lv cns0, .second, iv vas0, iv vbs0, iv vcs0, iv vds0, iv pos0, iv pas0, iv ers0, own_lv ecs0, .second, iv x1s0, iv x2s0, iv xbs0] [] _
      refine XS.iload X33.here hx rfl (hb hby at_446) rfl ?_
      show own_S p e below T33 m 448 #[iv xk, iv xa, iv xs, iv xv, iv xw, rv a2, iv ff, iv fr, iv t1, iv t2, iv (0 : Int32), iv (own_bi bv), iv (own_bi bw), iv (own_K b0 b1 b2 kf), iv (own_K b0 b1 b2 (own_k1 kf)), rv a18, iv ress0, own_lv cns0, .second, iv vas0, iv vbs0, iv vcs0, iv vds0, iv pos0, iv pas0, iv ers0, own_lv ecs0, .second, iv x1s0, iv x2s0, iv xbs0] [(.int ress0)] _
      refine XS.iload X33.here hx rfl (hb hby at_448) rfl ?_
      show own_S p e below T33 m 450 #[iv xk, iv xa, iv xs, iv xv, iv xw, rv a2, iv ff, iv fr, iv t1, iv t2, iv (0 : Int32), iv (own_bi bv), iv (own_bi bw), iv (own_K b0 b1 b2 kf), iv (own_K b0 b1 b2 (own_k1 kf)), rv a18, iv ress0, own_lv cns0, .second, iv vas0, iv vbs0, iv vcs0, iv vds0, iv pos0, iv pas0, iv ers0, own_lv ecs0, .second, iv x1s0, iv x2s0, iv xbs0] [(.int ers0), (.int ress0)] _
      by_cases hc52 : ress0 = ers0
      · refine XS.icmpNo X33.here hx rfl (hb hby at_450) rfl (teq hc52).2 ?_
        show own_S p e below T33 m 453 #[iv xk, iv xa, iv xs, iv xv, iv xw, rv a2, iv ff, iv fr, iv t1, iv t2, iv (0 : Int32), iv (own_bi bv), iv (own_bi bw), iv (own_K b0 b1 b2 kf), iv (own_K b0 b1 b2 (own_k1 kf)), rv a18, iv ress0, own_lv cns0, .second, iv vas0, iv vbs0, iv vcs0, iv vds0, iv pos0, iv pas0, iv ers0, own_lv ecs0, .second, iv x1s0, iv x2s0, iv xbs0] [] _
        refine XS.lload X33.here hx rfl (hb hby at_453) rfl ?_
        show own_S p e below T33 m 455 #[iv xk, iv xa, iv xs, iv xv, iv xw, rv a2, iv ff, iv fr, iv t1, iv t2, iv (0 : Int32), iv (own_bi bv), iv (own_bi bw), iv (own_K b0 b1 b2 kf), iv (own_K b0 b1 b2 (own_k1 kf)), rv a18, iv ress0, own_lv cns0, .second, iv vas0, iv vbs0, iv vcs0, iv vds0, iv pos0, iv pas0, iv ers0, own_lv ecs0, .second, iv x1s0, iv x2s0, iv xbs0] [(.long cns0)] _
        refine XS.lload X33.here hx rfl (hb hby at_455) rfl ?_
        show own_S p e below T33 m 457 #[iv xk, iv xa, iv xs, iv xv, iv xw, rv a2, iv ff, iv fr, iv t1, iv t2, iv (0 : Int32), iv (own_bi bv), iv (own_bi bw), iv (own_K b0 b1 b2 kf), iv (own_K b0 b1 b2 (own_k1 kf)), rv a18, iv ress0, own_lv cns0, .second, iv vas0, iv vbs0, iv vcs0, iv vds0, iv pos0, iv pas0, iv ers0, own_lv ecs0, .second, iv x1s0, iv x2s0, iv xbs0] [(.long ecs0), (.long cns0)] _
        refine XS.lcmp X33.here hx rfl (hb hby at_457) rfl ?_
        show own_S p e below T33 m 458 #[iv xk, iv xa, iv xs, iv xv, iv xw, rv a2, iv ff, iv fr, iv t1, iv t2, iv (0 : Int32), iv (own_bi bv), iv (own_bi bw), iv (own_K b0 b1 b2 kf), iv (own_K b0 b1 b2 (own_k1 kf)), rv a18, iv ress0, own_lv cns0, .second, iv vas0, iv vbs0, iv vcs0, iv vds0, iv pos0, iv pas0, iv ers0, own_lv ecs0, .second, iv x1s0, iv x2s0, iv xbs0] [(.int (lcmpW cns0 ecs0))] _
        by_cases hc53 : cns0 = ecs0
        · refine XS.ifNo X33.here hx rfl (hb hby at_458) rfl (own_teqL hc53).2 ?_
          show own_S p e below T33 m 461 #[iv xk, iv xa, iv xs, iv xv, iv xw, rv a2, iv ff, iv fr, iv t1, iv t2, iv (0 : Int32), iv (own_bi bv), iv (own_bi bw), iv (own_K b0 b1 b2 kf), iv (own_K b0 b1 b2 (own_k1 kf)), rv a18, iv ress0, own_lv cns0, .second, iv vas0, iv vbs0, iv vcs0, iv vds0, iv pos0, iv pas0, iv ers0, own_lv ecs0, .second, iv x1s0, iv x2s0, iv xbs0] [] _
          refine XS.iload X33.here hx rfl (hb hby at_461) rfl ?_
          show own_S p e below T33 m 463 #[iv xk, iv xa, iv xs, iv xv, iv xw, rv a2, iv ff, iv fr, iv t1, iv t2, iv (0 : Int32), iv (own_bi bv), iv (own_bi bw), iv (own_K b0 b1 b2 kf), iv (own_K b0 b1 b2 (own_k1 kf)), rv a18, iv ress0, own_lv cns0, .second, iv vas0, iv vbs0, iv vcs0, iv vds0, iv pos0, iv pas0, iv ers0, own_lv ecs0, .second, iv x1s0, iv x2s0, iv xbs0] [(.int vas0)] _
          refine XS.iload X33.here hx rfl (hb hby at_463) rfl ?_
          show own_S p e below T33 m 465 #[iv xk, iv xa, iv xs, iv xv, iv xw, rv a2, iv ff, iv fr, iv t1, iv t2, iv (0 : Int32), iv (own_bi bv), iv (own_bi bw), iv (own_K b0 b1 b2 kf), iv (own_K b0 b1 b2 (own_k1 kf)), rv a18, iv ress0, own_lv cns0, .second, iv vas0, iv vbs0, iv vcs0, iv vds0, iv pos0, iv pas0, iv ers0, own_lv ecs0, .second, iv x1s0, iv x2s0, iv xbs0] [(.int x1s0), (.int vas0)] _
          by_cases hc54 : vas0 = x1s0
          · refine XS.icmpNo X33.here hx rfl (hb hby at_465) rfl (teq hc54).2 ?_
            show own_S p e below T33 m 468 #[iv xk, iv xa, iv xs, iv xv, iv xw, rv a2, iv ff, iv fr, iv t1, iv t2, iv (0 : Int32), iv (own_bi bv), iv (own_bi bw), iv (own_K b0 b1 b2 kf), iv (own_K b0 b1 b2 (own_k1 kf)), rv a18, iv ress0, own_lv cns0, .second, iv vas0, iv vbs0, iv vcs0, iv vds0, iv pos0, iv pas0, iv ers0, own_lv ecs0, .second, iv x1s0, iv x2s0, iv xbs0] [] _
            refine XS.iload X33.here hx rfl (hb hby at_468) rfl ?_
            show own_S p e below T33 m 470 #[iv xk, iv xa, iv xs, iv xv, iv xw, rv a2, iv ff, iv fr, iv t1, iv t2, iv (0 : Int32), iv (own_bi bv), iv (own_bi bw), iv (own_K b0 b1 b2 kf), iv (own_K b0 b1 b2 (own_k1 kf)), rv a18, iv ress0, own_lv cns0, .second, iv vas0, iv vbs0, iv vcs0, iv vds0, iv pos0, iv pas0, iv ers0, own_lv ecs0, .second, iv x1s0, iv x2s0, iv xbs0] [(.int vbs0)] _
            refine XS.iload X33.here hx rfl (hb hby at_470) rfl ?_
            show own_S p e below T33 m 472 #[iv xk, iv xa, iv xs, iv xv, iv xw, rv a2, iv ff, iv fr, iv t1, iv t2, iv (0 : Int32), iv (own_bi bv), iv (own_bi bw), iv (own_K b0 b1 b2 kf), iv (own_K b0 b1 b2 (own_k1 kf)), rv a18, iv ress0, own_lv cns0, .second, iv vas0, iv vbs0, iv vcs0, iv vds0, iv pos0, iv pas0, iv ers0, own_lv ecs0, .second, iv x1s0, iv x2s0, iv xbs0] [(.int x2s0), (.int vbs0)] _
            by_cases hc55 : vbs0 = x2s0
            · refine XS.icmpNo X33.here hx rfl (hb hby at_472) rfl (teq hc55).2 ?_
              show own_S p e below T33 m 475 #[iv xk, iv xa, iv xs, iv xv, iv xw, rv a2, iv ff, iv fr, iv t1, iv t2, iv (0 : Int32), iv (own_bi bv), iv (own_bi bw), iv (own_K b0 b1 b2 kf), iv (own_K b0 b1 b2 (own_k1 kf)), rv a18, iv ress0, own_lv cns0, .second, iv vas0, iv vbs0, iv vcs0, iv vds0, iv pos0, iv pas0, iv ers0, own_lv ecs0, .second, iv x1s0, iv x2s0, iv xbs0] [] _
              refine XS.iload X33.here hx rfl (hb hby at_475) rfl ?_
              show own_S p e below T33 m 477 #[iv xk, iv xa, iv xs, iv xv, iv xw, rv a2, iv ff, iv fr, iv t1, iv t2, iv (0 : Int32), iv (own_bi bv), iv (own_bi bw), iv (own_K b0 b1 b2 kf), iv (own_K b0 b1 b2 (own_k1 kf)), rv a18, iv ress0, own_lv cns0, .second, iv vas0, iv vbs0, iv vcs0, iv vds0, iv pos0, iv pas0, iv ers0, own_lv ecs0, .second, iv x1s0, iv x2s0, iv xbs0] [(.int vcs0)] _
              refine XS.iconst X33.here hx rfl (hb hby at_477) ?_
              show own_S p e below T33 m 478 #[iv xk, iv xa, iv xs, iv xv, iv xw, rv a2, iv ff, iv fr, iv t1, iv t2, iv (0 : Int32), iv (own_bi bv), iv (own_bi bw), iv (own_K b0 b1 b2 kf), iv (own_K b0 b1 b2 (own_k1 kf)), rv a18, iv ress0, own_lv cns0, .second, iv vas0, iv vbs0, iv vcs0, iv vds0, iv pos0, iv pas0, iv ers0, own_lv ecs0, .second, iv x1s0, iv x2s0, iv xbs0] [(.int (-1 : Int32)), (.int vcs0)] _
              by_cases hc56 : vcs0 = (-1 : Int32)
              · refine XS.icmpNo X33.here hx rfl (hb hby at_478) rfl (teq hc56).2 ?_
                show own_S p e below T33 m 481 #[iv xk, iv xa, iv xs, iv xv, iv xw, rv a2, iv ff, iv fr, iv t1, iv t2, iv (0 : Int32), iv (own_bi bv), iv (own_bi bw), iv (own_K b0 b1 b2 kf), iv (own_K b0 b1 b2 (own_k1 kf)), rv a18, iv ress0, own_lv cns0, .second, iv vas0, iv vbs0, iv vcs0, iv vds0, iv pos0, iv pas0, iv ers0, own_lv ecs0, .second, iv x1s0, iv x2s0, iv xbs0] [] _
                refine XS.iload X33.here hx rfl (hb hby at_481) rfl ?_
                show own_S p e below T33 m 483 #[iv xk, iv xa, iv xs, iv xv, iv xw, rv a2, iv ff, iv fr, iv t1, iv t2, iv (0 : Int32), iv (own_bi bv), iv (own_bi bw), iv (own_K b0 b1 b2 kf), iv (own_K b0 b1 b2 (own_k1 kf)), rv a18, iv ress0, own_lv cns0, .second, iv vas0, iv vbs0, iv vcs0, iv vds0, iv pos0, iv pas0, iv ers0, own_lv ecs0, .second, iv x1s0, iv x2s0, iv xbs0] [(.int vds0)] _
                refine XS.iload X33.here hx rfl (hb hby at_483) rfl ?_
                show own_S p e below T33 m 485 #[iv xk, iv xa, iv xs, iv xv, iv xw, rv a2, iv ff, iv fr, iv t1, iv t2, iv (0 : Int32), iv (own_bi bv), iv (own_bi bw), iv (own_K b0 b1 b2 kf), iv (own_K b0 b1 b2 (own_k1 kf)), rv a18, iv ress0, own_lv cns0, .second, iv vas0, iv vbs0, iv vcs0, iv vds0, iv pos0, iv pas0, iv ers0, own_lv ecs0, .second, iv x1s0, iv x2s0, iv xbs0] [(.int xbs0), (.int vds0)] _
                by_cases hc57 : vds0 = xbs0
                · refine XS.icmpNo X33.here hx rfl (hb hby at_485) rfl (teq hc57).2 ?_
                  show own_S p e below T33 m 488 #[iv xk, iv xa, iv xs, iv xv, iv xw, rv a2, iv ff, iv fr, iv t1, iv t2, iv (0 : Int32), iv (own_bi bv), iv (own_bi bw), iv (own_K b0 b1 b2 kf), iv (own_K b0 b1 b2 (own_k1 kf)), rv a18, iv ress0, own_lv cns0, .second, iv vas0, iv vbs0, iv vcs0, iv vds0, iv pos0, iv pas0, iv ers0, own_lv ecs0, .second, iv x1s0, iv x2s0, iv xbs0] [] _
                  refine XS.iconst X33.here hx rfl (hb hby at_488) ?_
                  show own_S p e below T33 m 489 #[iv xk, iv xa, iv xs, iv xv, iv xw, rv a2, iv ff, iv fr, iv t1, iv t2, iv (0 : Int32), iv (own_bi bv), iv (own_bi bw), iv (own_K b0 b1 b2 kf), iv (own_K b0 b1 b2 (own_k1 kf)), rv a18, iv ress0, own_lv cns0, .second, iv vas0, iv vbs0, iv vcs0, iv vds0, iv pos0, iv pas0, iv ers0, own_lv ecs0, .second, iv x1s0, iv x2s0, iv xbs0] [(.int (1 : Int32))] _
                  refine XS.goto X33.here hx rfl (pc0 := 489) (pc' := 493) rfl (hb hby at_489) (by decide) (by decide) ?_
                  show own_S p e below T33 m 493 #[iv xk, iv xa, iv xs, iv xv, iv xw, rv a2, iv ff, iv fr, iv t1, iv t2, iv (0 : Int32), iv (own_bi bv), iv (own_bi bw), iv (own_K b0 b1 b2 kf), iv (own_K b0 b1 b2 (own_k1 kf)), rv a18, iv ress0, own_lv cns0, .second, iv vas0, iv vbs0, iv vcs0, iv vds0, iv pos0, iv pas0, iv ers0, own_lv ecs0, .second, iv x1s0, iv x2s0, iv xbs0] [(.int (1 : Int32))] _
                  rw [show rrs0 = (1 : Int32) from by rw [hrrs0, if_pos hc52, if_pos hc53, if_pos hc54, if_pos hc55, if_pos hc56, if_pos hc57]] at kt
                  exact kt
                · refine XS.icmpYes X33.here hx rfl (pc0 := 485) (pc' := 492) rfl (hb hby at_485) rfl (feq hc57).2 (by decide) (by decide) ?_
                  show own_S p e below T33 m 492 #[iv xk, iv xa, iv xs, iv xv, iv xw, rv a2, iv ff, iv fr, iv t1, iv t2, iv (0 : Int32), iv (own_bi bv), iv (own_bi bw), iv (own_K b0 b1 b2 kf), iv (own_K b0 b1 b2 (own_k1 kf)), rv a18, iv ress0, own_lv cns0, .second, iv vas0, iv vbs0, iv vcs0, iv vds0, iv pos0, iv pas0, iv ers0, own_lv ecs0, .second, iv x1s0, iv x2s0, iv xbs0] [] _
                  refine XS.iconst X33.here hx rfl (hb hby at_492) ?_
                  show own_S p e below T33 m 493 #[iv xk, iv xa, iv xs, iv xv, iv xw, rv a2, iv ff, iv fr, iv t1, iv t2, iv (0 : Int32), iv (own_bi bv), iv (own_bi bw), iv (own_K b0 b1 b2 kf), iv (own_K b0 b1 b2 (own_k1 kf)), rv a18, iv ress0, own_lv cns0, .second, iv vas0, iv vbs0, iv vcs0, iv vds0, iv pos0, iv pas0, iv ers0, own_lv ecs0, .second, iv x1s0, iv x2s0, iv xbs0] [(.int (0 : Int32))] _
                  rw [show rrs0 = (0 : Int32) from by rw [hrrs0, if_pos hc52, if_pos hc53, if_pos hc54, if_pos hc55, if_pos hc56, if_neg hc57]] at kt
                  exact kt
              · refine XS.icmpYes X33.here hx rfl (pc0 := 478) (pc' := 492) rfl (hb hby at_478) rfl (feq hc56).2 (by decide) (by decide) ?_
                show own_S p e below T33 m 492 #[iv xk, iv xa, iv xs, iv xv, iv xw, rv a2, iv ff, iv fr, iv t1, iv t2, iv (0 : Int32), iv (own_bi bv), iv (own_bi bw), iv (own_K b0 b1 b2 kf), iv (own_K b0 b1 b2 (own_k1 kf)), rv a18, iv ress0, own_lv cns0, .second, iv vas0, iv vbs0, iv vcs0, iv vds0, iv pos0, iv pas0, iv ers0, own_lv ecs0, .second, iv x1s0, iv x2s0, iv xbs0] [] _
                refine XS.iconst X33.here hx rfl (hb hby at_492) ?_
                show own_S p e below T33 m 493 #[iv xk, iv xa, iv xs, iv xv, iv xw, rv a2, iv ff, iv fr, iv t1, iv t2, iv (0 : Int32), iv (own_bi bv), iv (own_bi bw), iv (own_K b0 b1 b2 kf), iv (own_K b0 b1 b2 (own_k1 kf)), rv a18, iv ress0, own_lv cns0, .second, iv vas0, iv vbs0, iv vcs0, iv vds0, iv pos0, iv pas0, iv ers0, own_lv ecs0, .second, iv x1s0, iv x2s0, iv xbs0] [(.int (0 : Int32))] _
                rw [show rrs0 = (0 : Int32) from by rw [hrrs0, if_pos hc52, if_pos hc53, if_pos hc54, if_pos hc55, if_neg hc56]] at kt
                exact kt
            · refine XS.icmpYes X33.here hx rfl (pc0 := 472) (pc' := 492) rfl (hb hby at_472) rfl (feq hc55).2 (by decide) (by decide) ?_
              show own_S p e below T33 m 492 #[iv xk, iv xa, iv xs, iv xv, iv xw, rv a2, iv ff, iv fr, iv t1, iv t2, iv (0 : Int32), iv (own_bi bv), iv (own_bi bw), iv (own_K b0 b1 b2 kf), iv (own_K b0 b1 b2 (own_k1 kf)), rv a18, iv ress0, own_lv cns0, .second, iv vas0, iv vbs0, iv vcs0, iv vds0, iv pos0, iv pas0, iv ers0, own_lv ecs0, .second, iv x1s0, iv x2s0, iv xbs0] [] _
              refine XS.iconst X33.here hx rfl (hb hby at_492) ?_
              show own_S p e below T33 m 493 #[iv xk, iv xa, iv xs, iv xv, iv xw, rv a2, iv ff, iv fr, iv t1, iv t2, iv (0 : Int32), iv (own_bi bv), iv (own_bi bw), iv (own_K b0 b1 b2 kf), iv (own_K b0 b1 b2 (own_k1 kf)), rv a18, iv ress0, own_lv cns0, .second, iv vas0, iv vbs0, iv vcs0, iv vds0, iv pos0, iv pas0, iv ers0, own_lv ecs0, .second, iv x1s0, iv x2s0, iv xbs0] [(.int (0 : Int32))] _
              rw [show rrs0 = (0 : Int32) from by rw [hrrs0, if_pos hc52, if_pos hc53, if_pos hc54, if_neg hc55]] at kt
              exact kt
          · refine XS.icmpYes X33.here hx rfl (pc0 := 465) (pc' := 492) rfl (hb hby at_465) rfl (feq hc54).2 (by decide) (by decide) ?_
            show own_S p e below T33 m 492 #[iv xk, iv xa, iv xs, iv xv, iv xw, rv a2, iv ff, iv fr, iv t1, iv t2, iv (0 : Int32), iv (own_bi bv), iv (own_bi bw), iv (own_K b0 b1 b2 kf), iv (own_K b0 b1 b2 (own_k1 kf)), rv a18, iv ress0, own_lv cns0, .second, iv vas0, iv vbs0, iv vcs0, iv vds0, iv pos0, iv pas0, iv ers0, own_lv ecs0, .second, iv x1s0, iv x2s0, iv xbs0] [] _
            refine XS.iconst X33.here hx rfl (hb hby at_492) ?_
            show own_S p e below T33 m 493 #[iv xk, iv xa, iv xs, iv xv, iv xw, rv a2, iv ff, iv fr, iv t1, iv t2, iv (0 : Int32), iv (own_bi bv), iv (own_bi bw), iv (own_K b0 b1 b2 kf), iv (own_K b0 b1 b2 (own_k1 kf)), rv a18, iv ress0, own_lv cns0, .second, iv vas0, iv vbs0, iv vcs0, iv vds0, iv pos0, iv pas0, iv ers0, own_lv ecs0, .second, iv x1s0, iv x2s0, iv xbs0] [(.int (0 : Int32))] _
            rw [show rrs0 = (0 : Int32) from by rw [hrrs0, if_pos hc52, if_pos hc53, if_neg hc54]] at kt
            exact kt
        · refine XS.ifYes X33.here hx rfl (pc0 := 458) (pc' := 492) rfl (hb hby at_458) rfl (own_feqL hc53).2 (by decide) (by decide) ?_
          show own_S p e below T33 m 492 #[iv xk, iv xa, iv xs, iv xv, iv xw, rv a2, iv ff, iv fr, iv t1, iv t2, iv (0 : Int32), iv (own_bi bv), iv (own_bi bw), iv (own_K b0 b1 b2 kf), iv (own_K b0 b1 b2 (own_k1 kf)), rv a18, iv ress0, own_lv cns0, .second, iv vas0, iv vbs0, iv vcs0, iv vds0, iv pos0, iv pas0, iv ers0, own_lv ecs0, .second, iv x1s0, iv x2s0, iv xbs0] [] _
          refine XS.iconst X33.here hx rfl (hb hby at_492) ?_
          show own_S p e below T33 m 493 #[iv xk, iv xa, iv xs, iv xv, iv xw, rv a2, iv ff, iv fr, iv t1, iv t2, iv (0 : Int32), iv (own_bi bv), iv (own_bi bw), iv (own_K b0 b1 b2 kf), iv (own_K b0 b1 b2 (own_k1 kf)), rv a18, iv ress0, own_lv cns0, .second, iv vas0, iv vbs0, iv vcs0, iv vds0, iv pos0, iv pas0, iv ers0, own_lv ecs0, .second, iv x1s0, iv x2s0, iv xbs0] [(.int (0 : Int32))] _
          rw [show rrs0 = (0 : Int32) from by rw [hrrs0, if_pos hc52, if_neg hc53]] at kt
          exact kt
      · refine XS.icmpYes X33.here hx rfl (pc0 := 450) (pc' := 492) rfl (hb hby at_450) rfl (feq hc52).2 (by decide) (by decide) ?_
        show own_S p e below T33 m 492 #[iv xk, iv xa, iv xs, iv xv, iv xw, rv a2, iv ff, iv fr, iv t1, iv t2, iv (0 : Int32), iv (own_bi bv), iv (own_bi bw), iv (own_K b0 b1 b2 kf), iv (own_K b0 b1 b2 (own_k1 kf)), rv a18, iv ress0, own_lv cns0, .second, iv vas0, iv vbs0, iv vcs0, iv vds0, iv pos0, iv pas0, iv ers0, own_lv ecs0, .second, iv x1s0, iv x2s0, iv xbs0] [] _
        refine XS.iconst X33.here hx rfl (hb hby at_492) ?_
        show own_S p e below T33 m 493 #[iv xk, iv xa, iv xs, iv xv, iv xw, rv a2, iv ff, iv fr, iv t1, iv t2, iv (0 : Int32), iv (own_bi bv), iv (own_bi bw), iv (own_K b0 b1 b2 kf), iv (own_K b0 b1 b2 (own_k1 kf)), rv a18, iv ress0, own_lv cns0, .second, iv vas0, iv vbs0, iv vcs0, iv vds0, iv pos0, iv pas0, iv ers0, own_lv ecs0, .second, iv x1s0, iv x2s0, iv xbs0] [(.int (0 : Int32))] _
        rw [show rrs0 = (0 : Int32) from by rw [hrrs0, if_neg hc52]] at kt
        exact kt
    refine own_st sg58 ?_
    have hone : rrs0 = 1 := by
      have hd : rrs0 = own_f_rrs0 b0 b1 b2 kf bv bw := by subst hrrs0 hxbs0 hx2s0 hx1s0 hecs0 he3s0 he2s0 he1s0 hers0 hpas0 hpos0 hvds0 hvcs0 hvbs0 hvas0 hcns0 hress0; rfl
      rw [hd]; exact own_fins0 b0 b1 b2 ⟨kf, hf3⟩ bv bw
    rw [hone]
    show own_Go p e below _ T33 (mkF m 493 #[iv xk, iv xa, iv xs, iv xv, iv xw, rv a2, iv ff, iv fr, iv t1, iv t2, iv (0 : Int32), iv (own_bi bv), iv (own_bi bw), iv (own_K b0 b1 b2 kf), iv (own_K b0 b1 b2 (own_k1 kf)), rv a18, iv ress0, own_lv cns0, .second, iv vas0, iv vbs0, iv vcs0, iv vds0, iv pos0, iv pas0, iv ers0, own_lv ecs0, .second, iv x1s0, iv x2s0, iv xbs0] [(.int (1 : Int32))])
    exact own_retZ X33 hx Bd.notSynchronized Bd.returns (hb hby at_493) (by decide) (by decide) (by decide) e33 ⟨rfl, N33⟩
  · skip
    rw [hs4]
    show own_Go p e below _ T20 (mkF m 127 #[iv xk, iv xa, iv xs, iv xv, iv xw, rv a2, iv ff, iv fr, iv t1, iv t2, iv (1 : Int32), iv (own_bi bv), iv (own_bi bw), iv (own_K b0 b1 b2 kf), iv (own_K b0 b1 b2 (own_k1 kf)), rv a18, .unset, .unset, .unset, .unset, .unset, .unset, .unset, .unset, .unset, .unset, .unset, .unset, .unset, .unset, .unset] [])
    have sg59 : own_V p e below T20 (mkF m 141 #[iv xk, iv xa, iv xs, iv xv, iv xw, rv a2, iv ff, iv fr, iv t1, iv t2, iv (1 : Int32), iv (own_bi bv), iv (own_bi bw), iv (own_K b0 b1 b2 kf), iv (own_K b0 b1 b2 (own_k1 kf)), rv a18, .unset, .unset, .unset, .unset, .unset, .unset, .unset, .unset, .unset, .unset, .unset, .unset, .unset, .unset, .unset] [(.int (own_bi bw)), (.int t1), (.int fr), (.ref a18)]) (mkF m 127 #[iv xk, iv xa, iv xs, iv xv, iv xw, rv a2, iv ff, iv fr, iv t1, iv t2, iv (1 : Int32), iv (own_bi bv), iv (own_bi bw), iv (own_K b0 b1 b2 kf), iv (own_K b0 b1 b2 (own_k1 kf)), rv a18, .unset, .unset, .unset, .unset, .unset, .unset, .unset, .unset, .unset, .unset, .unset, .unset, .unset, .unset, .unset] []) := by
      intro t kt
      refine XS.iload X20.here hx rfl (hb hby at_127) rfl ?_
      show own_S p e below T20 m 129 #[iv xk, iv xa, iv xs, iv xv, iv xw, rv a2, iv ff, iv fr, iv t1, iv t2, iv (1 : Int32), iv (own_bi bv), iv (own_bi bw), iv (own_K b0 b1 b2 kf), iv (own_K b0 b1 b2 (own_k1 kf)), rv a18, .unset, .unset, .unset, .unset, .unset, .unset, .unset, .unset, .unset, .unset, .unset, .unset, .unset, .unset, .unset] [(.int (1 : Int32))] _
      refine XS.iconst X20.here hx rfl (hb hby at_129) ?_
      show own_S p e below T20 m 130 #[iv xk, iv xa, iv xs, iv xv, iv xw, rv a2, iv ff, iv fr, iv t1, iv t2, iv (1 : Int32), iv (own_bi bv), iv (own_bi bw), iv (own_K b0 b1 b2 kf), iv (own_K b0 b1 b2 (own_k1 kf)), rv a18, .unset, .unset, .unset, .unset, .unset, .unset, .unset, .unset, .unset, .unset, .unset, .unset, .unset, .unset, .unset] [(.int (1 : Int32)), (.int (1 : Int32))] _
      refine XS.icmpNo X20.here hx rfl (hb hby at_130) rfl (teq (by decide : (1 : Int32) = (1 : Int32))).2 ?_
      show own_S p e below T20 m 133 #[iv xk, iv xa, iv xs, iv xv, iv xw, rv a2, iv ff, iv fr, iv t1, iv t2, iv (1 : Int32), iv (own_bi bv), iv (own_bi bw), iv (own_K b0 b1 b2 kf), iv (own_K b0 b1 b2 (own_k1 kf)), rv a18, .unset, .unset, .unset, .unset, .unset, .unset, .unset, .unset, .unset, .unset, .unset, .unset, .unset, .unset, .unset] [] _
      refine XS.aload X20.here hx rfl (hb hby at_133) rfl rfl ?_
      show own_S p e below T20 m 135 #[iv xk, iv xa, iv xs, iv xv, iv xw, rv a2, iv ff, iv fr, iv t1, iv t2, iv (1 : Int32), iv (own_bi bv), iv (own_bi bw), iv (own_K b0 b1 b2 kf), iv (own_K b0 b1 b2 (own_k1 kf)), rv a18, .unset, .unset, .unset, .unset, .unset, .unset, .unset, .unset, .unset, .unset, .unset, .unset, .unset, .unset, .unset] [(.ref a18)] _
      refine XS.iload X20.here hx rfl (hb hby at_135) rfl ?_
      show own_S p e below T20 m 137 #[iv xk, iv xa, iv xs, iv xv, iv xw, rv a2, iv ff, iv fr, iv t1, iv t2, iv (1 : Int32), iv (own_bi bv), iv (own_bi bw), iv (own_K b0 b1 b2 kf), iv (own_K b0 b1 b2 (own_k1 kf)), rv a18, .unset, .unset, .unset, .unset, .unset, .unset, .unset, .unset, .unset, .unset, .unset, .unset, .unset, .unset, .unset] [(.int fr), (.ref a18)] _
      refine XS.iload X20.here hx rfl (hb hby at_137) rfl ?_
      show own_S p e below T20 m 139 #[iv xk, iv xa, iv xs, iv xv, iv xw, rv a2, iv ff, iv fr, iv t1, iv t2, iv (1 : Int32), iv (own_bi bv), iv (own_bi bw), iv (own_K b0 b1 b2 kf), iv (own_K b0 b1 b2 (own_k1 kf)), rv a18, .unset, .unset, .unset, .unset, .unset, .unset, .unset, .unset, .unset, .unset, .unset, .unset, .unset, .unset, .unset] [(.int t1), (.int fr), (.ref a18)] _
      refine XS.iload X20.here hx rfl (hb hby at_139) rfl ?_
      show own_S p e below T20 m 141 #[iv xk, iv xa, iv xs, iv xv, iv xw, rv a2, iv ff, iv fr, iv t1, iv t2, iv (1 : Int32), iv (own_bi bv), iv (own_bi bw), iv (own_K b0 b1 b2 kf), iv (own_K b0 b1 b2 (own_k1 kf)), rv a18, .unset, .unset, .unset, .unset, .unset, .unset, .unset, .unset, .unset, .unset, .unset, .unset, .unset, .unset, .unset] [(.int (own_bi bw)), (.int t1), (.int fr), (.ref a18)] _
      exact kt
    refine own_st sg59 ?_
    obtain ⟨_, T60, L60, X60, hQ60, st60⟩ := own_callV (y := (⟨"com/example/kingsround/kingsround/engine/Deliveries", "put", "(III)Z"⟩ : MethodName)) (y0 := (⟨"com/example/kingsround/kingsround/engine/Deliveries", "put", "(III)Z"⟩ : MethodName)) (a := a18) (C := "com/example/kingsround/kingsround/engine/Deliveries") X20 hx hZ hown HD.1 (hw _ (List.mem_of_getElem? (i := 101) rfl)) (hw _ (List.mem_of_getElem? (i := 102) rfl)) (hw _ (List.mem_of_getElem? (i := 104) rfl)) (notFace_of_selects (args := #[]) (mvT hZ (hw _ (List.mem_of_getElem? (i := 104) rfl)))) (hw _ (List.mem_of_getElem? (i := 103) rfl)) (hw _ (List.mem_of_getElem? (i := 4) rfl)) (hw _ (List.mem_of_getElem? (i := 105) rfl)) (by decide) (own_rmput l Z a0 hw a18 fr t1 (own_bi bw) ib kp ta ob q r (own_K b0 b1 b2) (fun _ => -1) (fun _ => 0) (fun _ _ => -1) 0 kf (own_k1 kf) T20.heap n0 Z20 HA HD hkf hk1.1 hf3 hk1.2) rfl (g := (mkF m 141 #[iv xk, iv xa, iv xs, iv xv, iv xw, rv a2, iv ff, iv fr, iv t1, iv t2, iv (1 : Int32), iv (own_bi bv), iv (own_bi bw), iv (own_K b0 b1 b2 kf), iv (own_K b0 b1 b2 (own_k1 kf)), rv a18, .unset, .unset, .unset, .unset, .unset, .unset, .unset, .unset, .unset, .unset, .unset, .unset, .unset, .unset, .unset] [(.int (own_bi bw)), (.int t1), (.int fr), (.ref a18)])) rfl (by rw [hml]; rfl) (argsL := [(.int fr), (.int t1), (.int (own_bi bw))]) (rest := []) (lenOf own_pd10 rfl) rfl (W := 0) (by show 2 * 0 + _ ≤ _; exact Nat.le_of_eq rfl) (hb hby at_141) (by decide) (by decide) (by decide) (by decide)
    obtain ⟨rfl, Nq60, Sz60, HD60⟩ := hQ60
    refine own_st st60 ?_
    have Z60 : n0 ≤ T60.heap.size := Nat.le_trans Z20 Sz60
    have N60 := Fr.app N20 Nq60
    show own_Go p e below _ T60 (mkF m 144 #[iv xk, iv xa, iv xs, iv xv, iv xw, rv a2, iv ff, iv fr, iv t1, iv t2, iv (1 : Int32), iv (own_bi bv), iv (own_bi bw), iv (own_K b0 b1 b2 kf), iv (own_K b0 b1 b2 (own_k1 kf)), rv a18, .unset, .unset, .unset, .unset, .unset, .unset, .unset, .unset, .unset, .unset, .unset, .unset, .unset, .unset, .unset] [(.int (own_pr (own_K b0 b1 b2) (fun _ => -1) (fun _ _ => -1) kf (own_k1 kf)))])
    have sg61 : own_V p e below T60 (mkF m 191 #[iv xk, iv xa, iv xs, iv xv, iv xw, rv a2, iv ff, iv fr, iv t1, iv t2, iv (1 : Int32), iv (own_bi bv), iv (own_bi bw), iv (own_K b0 b1 b2 kf), iv (own_K b0 b1 b2 (own_k1 kf)), rv a18, .unset, .unset, .unset, .unset, .unset, .unset, .unset, .unset, .unset, .unset, .unset, .unset, .unset, .unset, .unset] [(.int (own_bi bv)), (.int fr), (.ref a18)]) (mkF m 144 #[iv xk, iv xa, iv xs, iv xv, iv xw, rv a2, iv ff, iv fr, iv t1, iv t2, iv (1 : Int32), iv (own_bi bv), iv (own_bi bw), iv (own_K b0 b1 b2 kf), iv (own_K b0 b1 b2 (own_k1 kf)), rv a18, .unset, .unset, .unset, .unset, .unset, .unset, .unset, .unset, .unset, .unset, .unset, .unset, .unset, .unset, .unset] [(.int (own_pr (own_K b0 b1 b2) (fun _ => -1) (fun _ _ => -1) kf (own_k1 kf)))]) := by
      intro t kt
      refine XS.pop X60.here hx rfl (hb hby at_144) rfl rfl ?_
      show own_S p e below T60 m 145 #[iv xk, iv xa, iv xs, iv xv, iv xw, rv a2, iv ff, iv fr, iv t1, iv t2, iv (1 : Int32), iv (own_bi bv), iv (own_bi bw), iv (own_K b0 b1 b2 kf), iv (own_K b0 b1 b2 (own_k1 kf)), rv a18, .unset, .unset, .unset, .unset, .unset, .unset, .unset, .unset, .unset, .unset, .unset, .unset, .unset, .unset, .unset] [] _
      refine XS.goto X60.here hx rfl (pc0 := 145) (pc' := 185) rfl (hb hby at_145) (by decide) (by decide) ?_
      show own_S p e below T60 m 185 #[iv xk, iv xa, iv xs, iv xv, iv xw, rv a2, iv ff, iv fr, iv t1, iv t2, iv (1 : Int32), iv (own_bi bv), iv (own_bi bw), iv (own_K b0 b1 b2 kf), iv (own_K b0 b1 b2 (own_k1 kf)), rv a18, .unset, .unset, .unset, .unset, .unset, .unset, .unset, .unset, .unset, .unset, .unset, .unset, .unset, .unset, .unset] [] _
      refine XS.aload X60.here hx rfl (hb hby at_185) rfl rfl ?_
      show own_S p e below T60 m 187 #[iv xk, iv xa, iv xs, iv xv, iv xw, rv a2, iv ff, iv fr, iv t1, iv t2, iv (1 : Int32), iv (own_bi bv), iv (own_bi bw), iv (own_K b0 b1 b2 kf), iv (own_K b0 b1 b2 (own_k1 kf)), rv a18, .unset, .unset, .unset, .unset, .unset, .unset, .unset, .unset, .unset, .unset, .unset, .unset, .unset, .unset, .unset] [(.ref a18)] _
      refine XS.iload X60.here hx rfl (hb hby at_187) rfl ?_
      show own_S p e below T60 m 189 #[iv xk, iv xa, iv xs, iv xv, iv xw, rv a2, iv ff, iv fr, iv t1, iv t2, iv (1 : Int32), iv (own_bi bv), iv (own_bi bw), iv (own_K b0 b1 b2 kf), iv (own_K b0 b1 b2 (own_k1 kf)), rv a18, .unset, .unset, .unset, .unset, .unset, .unset, .unset, .unset, .unset, .unset, .unset, .unset, .unset, .unset, .unset] [(.int fr), (.ref a18)] _
      refine XS.iload X60.here hx rfl (hb hby at_189) rfl ?_
      show own_S p e below T60 m 191 #[iv xk, iv xa, iv xs, iv xv, iv xw, rv a2, iv ff, iv fr, iv t1, iv t2, iv (1 : Int32), iv (own_bi bv), iv (own_bi bw), iv (own_K b0 b1 b2 kf), iv (own_K b0 b1 b2 (own_k1 kf)), rv a18, .unset, .unset, .unset, .unset, .unset, .unset, .unset, .unset, .unset, .unset, .unset, .unset, .unset, .unset, .unset] [(.int (own_bi bv)), (.int fr), (.ref a18)] _
      exact kt
    refine own_st sg61 ?_
    obtain ⟨_, T62, L62, X62, hQ62, st62⟩ := own_callV (y := (⟨"com/example/kingsround/kingsround/engine/Deliveries", "putToAll", "(II)Z"⟩ : MethodName)) (y0 := (⟨"com/example/kingsround/kingsround/engine/Deliveries", "putToAll", "(II)Z"⟩ : MethodName)) (a := a18) (C := "com/example/kingsround/kingsround/engine/Deliveries") X60 hx hZ hown HD60.1 (hw _ (List.mem_of_getElem? (i := 77) rfl)) (hw _ (List.mem_of_getElem? (i := 78) rfl)) (hw _ (List.mem_of_getElem? (i := 80) rfl)) (notFace_of_selects (args := #[]) (mvT hZ (hw _ (List.mem_of_getElem? (i := 80) rfl)))) (hw _ (List.mem_of_getElem? (i := 79) rfl)) (hw _ (List.mem_of_getElem? (i := 4) rfl)) (hw _ (List.mem_of_getElem? (i := 81) rfl)) (by decide) (own_rmpta l Z a0 hw a18 fr (own_bi bv) ib kp ta ob q r (own_K b0 b1 b2) (fun _ => -1) (own_pO (own_K b0 b1 b2) (fun _ => -1) (fun _ => 0) (fun _ _ => -1) kf (own_k1 kf)) (own_pR (own_K b0 b1 b2) (fun _ => -1) (fun _ _ => -1) kf (own_k1 kf) (own_bi bw)) (own_pc (own_K b0 b1 b2) (fun _ => -1) (fun _ _ => -1) kf (own_k1 kf) 0) kf T60.heap n0 Z60 HA HD60 hkf hf3) rfl (g := (mkF m 191 #[iv xk, iv xa, iv xs, iv xv, iv xw, rv a2, iv ff, iv fr, iv t1, iv t2, iv (1 : Int32), iv (own_bi bv), iv (own_bi bw), iv (own_K b0 b1 b2 kf), iv (own_K b0 b1 b2 (own_k1 kf)), rv a18, .unset, .unset, .unset, .unset, .unset, .unset, .unset, .unset, .unset, .unset, .unset, .unset, .unset, .unset, .unset] [(.int (own_bi bv)), (.int fr), (.ref a18)])) rfl (by rw [hml]; rfl) (argsL := [(.int fr), (.int (own_bi bv))]) (rest := []) (lenOf own_pd7 rfl) rfl (W := 0) (by show 2 * 0 + _ ≤ _; exact Nat.le_of_eq rfl) (hb hby at_191) (by decide) (by decide) (by decide) (by decide)
    obtain ⟨rfl, Nq62, Sz62, HD62⟩ := hQ62
    refine own_st st62 ?_
    have Z62 : n0 ≤ T62.heap.size := Nat.le_trans Z60 Sz62
    have N62 := Fr.app N60 Nq62
    show own_Go p e below _ T62 (mkF m 194 #[iv xk, iv xa, iv xs, iv xv, iv xw, rv a2, iv ff, iv fr, iv t1, iv t2, iv (1 : Int32), iv (own_bi bv), iv (own_bi bw), iv (own_K b0 b1 b2 kf), iv (own_K b0 b1 b2 (own_k1 kf)), rv a18, .unset, .unset, .unset, .unset, .unset, .unset, .unset, .unset, .unset, .unset, .unset, .unset, .unset, .unset, .unset] [(.int (own_ar (own_K b0 b1 b2) (fun _ => -1) (own_pO (own_K b0 b1 b2) (fun _ => -1) (fun _ => 0) (fun _ _ => -1) kf (own_k1 kf)) kf))])
    obtain ⟨ress1, hress1⟩ : ∃ z : Int32, z = (own_ar (own_K b0 b1 b2) (fun _ => -1) (own_pO (own_K b0 b1 b2) (fun _ => -1) (fun _ => 0) (fun _ _ => -1) kf (own_k1 kf)) kf) := ⟨_, rfl⟩
    have sg63 : own_V p e below T62 (mkF m 198 #[iv xk, iv xa, iv xs, iv xv, iv xw, rv a2, iv ff, iv fr, iv t1, iv t2, iv (1 : Int32), iv (own_bi bv), iv (own_bi bw), iv (own_K b0 b1 b2 kf), iv (own_K b0 b1 b2 (own_k1 kf)), rv a18, iv ress1, .unset, .unset, .unset, .unset, .unset, .unset, .unset, .unset, .unset, .unset, .unset, .unset, .unset, .unset] [(.ref a18)]) (mkF m 194 #[iv xk, iv xa, iv xs, iv xv, iv xw, rv a2, iv ff, iv fr, iv t1, iv t2, iv (1 : Int32), iv (own_bi bv), iv (own_bi bw), iv (own_K b0 b1 b2 kf), iv (own_K b0 b1 b2 (own_k1 kf)), rv a18, .unset, .unset, .unset, .unset, .unset, .unset, .unset, .unset, .unset, .unset, .unset, .unset, .unset, .unset, .unset] [(.int (own_ar (own_K b0 b1 b2) (fun _ => -1) (own_pO (own_K b0 b1 b2) (fun _ => -1) (fun _ => 0) (fun _ _ => -1) kf (own_k1 kf)) kf))]) := by
      intro t kt
      refine XS.istore X62.here hx rfl (hb hby at_194) rfl (l' := #[iv xk, iv xa, iv xs, iv xv, iv xw, rv a2, iv ff, iv fr, iv t1, iv t2, iv (1 : Int32), iv (own_bi bv), iv (own_bi bw), iv (own_K b0 b1 b2 kf), iv (own_K b0 b1 b2 (own_k1 kf)), rv a18, iv (own_ar (own_K b0 b1 b2) (fun _ => -1) (own_pO (own_K b0 b1 b2) (fun _ => -1) (fun _ => 0) (fun _ _ => -1) kf (own_k1 kf)) kf), .unset, .unset, .unset, .unset, .unset, .unset, .unset, .unset, .unset, .unset, .unset, .unset, .unset, .unset]) rfl ?_
      show own_S p e below T62 m 196 #[iv xk, iv xa, iv xs, iv xv, iv xw, rv a2, iv ff, iv fr, iv t1, iv t2, iv (1 : Int32), iv (own_bi bv), iv (own_bi bw), iv (own_K b0 b1 b2 kf), iv (own_K b0 b1 b2 (own_k1 kf)), rv a18, iv (own_ar (own_K b0 b1 b2) (fun _ => -1) (own_pO (own_K b0 b1 b2) (fun _ => -1) (fun _ => 0) (fun _ _ => -1) kf (own_k1 kf)) kf), .unset, .unset, .unset, .unset, .unset, .unset, .unset, .unset, .unset, .unset, .unset, .unset, .unset, .unset] [] _
      refine XS.aload X62.here hx rfl (hb hby at_196) rfl rfl ?_
      show own_S p e below T62 m 198 #[iv xk, iv xa, iv xs, iv xv, iv xw, rv a2, iv ff, iv fr, iv t1, iv t2, iv (1 : Int32), iv (own_bi bv), iv (own_bi bw), iv (own_K b0 b1 b2 kf), iv (own_K b0 b1 b2 (own_k1 kf)), rv a18, iv (own_ar (own_K b0 b1 b2) (fun _ => -1) (own_pO (own_K b0 b1 b2) (fun _ => -1) (fun _ => 0) (fun _ _ => -1) kf (own_k1 kf)) kf), .unset, .unset, .unset, .unset, .unset, .unset, .unset, .unset, .unset, .unset, .unset, .unset, .unset, .unset] [(.ref a18)] _
      rw [hress1] at kt
      exact kt
    refine own_st sg63 ?_
    obtain ⟨_, T64, L64, X64, hQ64, st64⟩ := own_callV (y := (⟨"com/example/kingsround/kingsround/engine/Deliveries", "count", "()J"⟩ : MethodName)) (y0 := (⟨"com/example/kingsround/kingsround/engine/Deliveries", "count", "()J"⟩ : MethodName)) (a := a18) (C := "com/example/kingsround/kingsround/engine/Deliveries") X62 hx hZ hown HD62.1 (hw _ (List.mem_of_getElem? (i := 82) rfl)) (hw _ (List.mem_of_getElem? (i := 83) rfl)) (hw _ (List.mem_of_getElem? (i := 85) rfl)) (notFace_of_selects (args := #[]) (mvT hZ (hw _ (List.mem_of_getElem? (i := 85) rfl)))) (hw _ (List.mem_of_getElem? (i := 84) rfl)) (hw _ (List.mem_of_getElem? (i := 4) rfl)) (hw _ (List.mem_of_getElem? (i := 86) rfl)) (by decide) (own_rmcnt l Z a0 hw a18  ib kp ta ob q r (own_K b0 b1 b2) (own_aT (own_K b0 b1 b2) (fun _ => -1) (own_pO (own_K b0 b1 b2) (fun _ => -1) (fun _ => 0) (fun _ _ => -1) kf (own_k1 kf)) kf (own_bi bv)) (own_pO (own_K b0 b1 b2) (fun _ => -1) (fun _ => 0) (fun _ _ => -1) kf (own_k1 kf)) (own_pR (own_K b0 b1 b2) (fun _ => -1) (fun _ _ => -1) kf (own_k1 kf) (own_bi bw)) (own_ac (own_K b0 b1 b2) (fun _ => -1) (own_pO (own_K b0 b1 b2) (fun _ => -1) (fun _ => 0) (fun _ _ => -1) kf (own_k1 kf)) kf (own_pc (own_K b0 b1 b2) (fun _ => -1) (fun _ _ => -1) kf (own_k1 kf) 0))  T62.heap n0 Z62 HA HD62 ) rfl (g := (mkF m 198 #[iv xk, iv xa, iv xs, iv xv, iv xw, rv a2, iv ff, iv fr, iv t1, iv t2, iv (1 : Int32), iv (own_bi bv), iv (own_bi bw), iv (own_K b0 b1 b2 kf), iv (own_K b0 b1 b2 (own_k1 kf)), rv a18, iv ress1, .unset, .unset, .unset, .unset, .unset, .unset, .unset, .unset, .unset, .unset, .unset, .unset, .unset, .unset] [(.ref a18)])) rfl (by rw [hml]; rfl) (argsL := []) (rest := []) (lenOf own_pd8 rfl) rfl (W := 0) (by show 2 * 0 + _ ≤ _; exact Nat.le_of_eq rfl) (hb hby at_198) (by decide) (by decide) (by decide) (by decide)
    obtain ⟨rfl, Nq64, e64⟩ := hQ64
    refine own_st st64 ?_
    have N64 := Fr.app N62 Nq64
    show own_Go p e below _ T64 (mkF m 201 #[iv xk, iv xa, iv xs, iv xv, iv xw, rv a2, iv ff, iv fr, iv t1, iv t2, iv (1 : Int32), iv (own_bi bv), iv (own_bi bw), iv (own_K b0 b1 b2 kf), iv (own_K b0 b1 b2 (own_k1 kf)), rv a18, iv ress1, .unset, .unset, .unset, .unset, .unset, .unset, .unset, .unset, .unset, .unset, .unset, .unset, .unset, .unset] [(.long (own_ac (own_K b0 b1 b2) (fun _ => -1) (own_pO (own_K b0 b1 b2) (fun _ => -1) (fun _ => 0) (fun _ _ => -1) kf (own_k1 kf)) kf (own_pc (own_K b0 b1 b2) (fun _ => -1) (fun _ _ => -1) kf (own_k1 kf) 0)))])
    obtain ⟨cns1, hcns1⟩ : ∃ z : Int64, z = (own_ac (own_K b0 b1 b2) (fun _ => -1) (own_pO (own_K b0 b1 b2) (fun _ => -1) (fun _ => 0) (fun _ _ => -1) kf (own_k1 kf)) kf (own_pc (own_K b0 b1 b2) (fun _ => -1) (fun _ _ => -1) kf (own_k1 kf) 0)) := ⟨_, rfl⟩
    have sg65 : own_V p e below T64 (mkF m 209 #[iv xk, iv xa, iv xs, iv xv, iv xw, rv a2, iv ff, iv fr, iv t1, iv t2, iv (1 : Int32), iv (own_bi bv), iv (own_bi bw), iv (own_K b0 b1 b2 kf), iv (own_K b0 b1 b2 (own_k1 kf)), rv a18, iv ress1, own_lv cns1, .second, .unset, .unset, .unset, .unset, .unset, .unset, .unset, .unset, .unset, .unset, .unset, .unset] [(.int t1), (.int fr), (.ref a18)]) (mkF m 201 #[iv xk, iv xa, iv xs, iv xv, iv xw, rv a2, iv ff, iv fr, iv t1, iv t2, iv (1 : Int32), iv (own_bi bv), iv (own_bi bw), iv (own_K b0 b1 b2 kf), iv (own_K b0 b1 b2 (own_k1 kf)), rv a18, iv ress1, .unset, .unset, .unset, .unset, .unset, .unset, .unset, .unset, .unset, .unset, .unset, .unset, .unset, .unset] [(.long (own_ac (own_K b0 b1 b2) (fun _ => -1) (own_pO (own_K b0 b1 b2) (fun _ => -1) (fun _ => 0) (fun _ _ => -1) kf (own_k1 kf)) kf (own_pc (own_K b0 b1 b2) (fun _ => -1) (fun _ _ => -1) kf (own_k1 kf) 0)))]) := by
      intro t kt
      refine XS.lstore X64.here hx rfl (hb hby at_201) rfl (l' := #[iv xk, iv xa, iv xs, iv xv, iv xw, rv a2, iv ff, iv fr, iv t1, iv t2, iv (1 : Int32), iv (own_bi bv), iv (own_bi bw), iv (own_K b0 b1 b2 kf), iv (own_K b0 b1 b2 (own_k1 kf)), rv a18, iv ress1, own_lv (own_ac (own_K b0 b1 b2) (fun _ => -1) (own_pO (own_K b0 b1 b2) (fun _ => -1) (fun _ => 0) (fun _ _ => -1) kf (own_k1 kf)) kf (own_pc (own_K b0 b1 b2) (fun _ => -1) (fun _ _ => -1) kf (own_k1 kf) 0)), .second, .unset, .unset, .unset, .unset, .unset, .unset, .unset, .unset, .unset, .unset, .unset, .unset]) rfl ?_
      show own_S p e below T64 m 203 #[iv xk, iv xa, iv xs, iv xv, iv xw, rv a2, iv ff, iv fr, iv t1, iv t2, iv (1 : Int32), iv (own_bi bv), iv (own_bi bw), iv (own_K b0 b1 b2 kf), iv (own_K b0 b1 b2 (own_k1 kf)), rv a18, iv ress1, own_lv (own_ac (own_K b0 b1 b2) (fun _ => -1) (own_pO (own_K b0 b1 b2) (fun _ => -1) (fun _ => 0) (fun _ _ => -1) kf (own_k1 kf)) kf (own_pc (own_K b0 b1 b2) (fun _ => -1) (fun _ _ => -1) kf (own_k1 kf) 0)), .second, .unset, .unset, .unset, .unset, .unset, .unset, .unset, .unset, .unset, .unset, .unset, .unset] [] _
      refine XS.aload X64.here hx rfl (hb hby at_203) rfl rfl ?_
      show own_S p e below T64 m 205 #[iv xk, iv xa, iv xs, iv xv, iv xw, rv a2, iv ff, iv fr, iv t1, iv t2, iv (1 : Int32), iv (own_bi bv), iv (own_bi bw), iv (own_K b0 b1 b2 kf), iv (own_K b0 b1 b2 (own_k1 kf)), rv a18, iv ress1, own_lv (own_ac (own_K b0 b1 b2) (fun _ => -1) (own_pO (own_K b0 b1 b2) (fun _ => -1) (fun _ => 0) (fun _ _ => -1) kf (own_k1 kf)) kf (own_pc (own_K b0 b1 b2) (fun _ => -1) (fun _ _ => -1) kf (own_k1 kf) 0)), .second, .unset, .unset, .unset, .unset, .unset, .unset, .unset, .unset, .unset, .unset, .unset, .unset] [(.ref a18)] _
      refine XS.iload X64.here hx rfl (hb hby at_205) rfl ?_
      show own_S p e below T64 m 207 #[iv xk, iv xa, iv xs, iv xv, iv xw, rv a2, iv ff, iv fr, iv t1, iv t2, iv (1 : Int32), iv (own_bi bv), iv (own_bi bw), iv (own_K b0 b1 b2 kf), iv (own_K b0 b1 b2 (own_k1 kf)), rv a18, iv ress1, own_lv (own_ac (own_K b0 b1 b2) (fun _ => -1) (own_pO (own_K b0 b1 b2) (fun _ => -1) (fun _ => 0) (fun _ _ => -1) kf (own_k1 kf)) kf (own_pc (own_K b0 b1 b2) (fun _ => -1) (fun _ _ => -1) kf (own_k1 kf) 0)), .second, .unset, .unset, .unset, .unset, .unset, .unset, .unset, .unset, .unset, .unset, .unset, .unset] [(.int fr), (.ref a18)] _
      refine XS.iload X64.here hx rfl (hb hby at_207) rfl ?_
      show own_S p e below T64 m 209 #[iv xk, iv xa, iv xs, iv xv, iv xw, rv a2, iv ff, iv fr, iv t1, iv t2, iv (1 : Int32), iv (own_bi bv), iv (own_bi bw), iv (own_K b0 b1 b2 kf), iv (own_K b0 b1 b2 (own_k1 kf)), rv a18, iv ress1, own_lv (own_ac (own_K b0 b1 b2) (fun _ => -1) (own_pO (own_K b0 b1 b2) (fun _ => -1) (fun _ => 0) (fun _ _ => -1) kf (own_k1 kf)) kf (own_pc (own_K b0 b1 b2) (fun _ => -1) (fun _ _ => -1) kf (own_k1 kf) 0)), .second, .unset, .unset, .unset, .unset, .unset, .unset, .unset, .unset, .unset, .unset, .unset, .unset] [(.int t1), (.int fr), (.ref a18)] _
      rw [hcns1] at kt
      exact kt
    refine own_st sg65 ?_
    obtain ⟨_, T66, L66, X66, hQ66, st66⟩ := own_callV (y := (⟨"com/example/kingsround/kingsround/engine/Deliveries", "value", "(II)I"⟩ : MethodName)) (y0 := (⟨"com/example/kingsround/kingsround/engine/Deliveries", "value", "(II)I"⟩ : MethodName)) (a := a18) (C := "com/example/kingsround/kingsround/engine/Deliveries") X64 hx hZ hown HD62.1 (hw _ (List.mem_of_getElem? (i := 89) rfl)) (hw _ (List.mem_of_getElem? (i := 90) rfl)) (hw _ (List.mem_of_getElem? (i := 92) rfl)) (notFace_of_selects (args := #[]) (mvT hZ (hw _ (List.mem_of_getElem? (i := 92) rfl)))) (hw _ (List.mem_of_getElem? (i := 91) rfl)) (hw _ (List.mem_of_getElem? (i := 4) rfl)) (hw _ (List.mem_of_getElem? (i := 93) rfl)) (by decide) (own_rmval l Z a0 hw a18 fr t1 ib kp ta ob q r (own_K b0 b1 b2) (own_aT (own_K b0 b1 b2) (fun _ => -1) (own_pO (own_K b0 b1 b2) (fun _ => -1) (fun _ => 0) (fun _ _ => -1) kf (own_k1 kf)) kf (own_bi bv)) (own_pO (own_K b0 b1 b2) (fun _ => -1) (fun _ => 0) (fun _ _ => -1) kf (own_k1 kf)) (own_pR (own_K b0 b1 b2) (fun _ => -1) (fun _ _ => -1) kf (own_k1 kf) (own_bi bw)) (own_ac (own_K b0 b1 b2) (fun _ => -1) (own_pO (own_K b0 b1 b2) (fun _ => -1) (fun _ => 0) (fun _ _ => -1) kf (own_k1 kf)) kf (own_pc (own_K b0 b1 b2) (fun _ => -1) (fun _ _ => -1) kf (own_k1 kf) 0)) kf (own_k1 kf) T62.heap n0 Z62 HA HD62 hkf hk1.1 hf3 hk1.2) e64 (g := (mkF m 209 #[iv xk, iv xa, iv xs, iv xv, iv xw, rv a2, iv ff, iv fr, iv t1, iv t2, iv (1 : Int32), iv (own_bi bv), iv (own_bi bw), iv (own_K b0 b1 b2 kf), iv (own_K b0 b1 b2 (own_k1 kf)), rv a18, iv ress1, own_lv cns1, .second, .unset, .unset, .unset, .unset, .unset, .unset, .unset, .unset, .unset, .unset, .unset, .unset] [(.int t1), (.int fr), (.ref a18)])) rfl (by rw [hml]; rfl) (argsL := [(.int fr), (.int t1)]) (rest := []) (lenOf own_pd9 rfl) rfl (W := 0) (by show 2 * 0 + _ ≤ _; exact Nat.le_of_eq rfl) (hb hby at_209) (by decide) (by decide) (by decide) (by decide)
    obtain ⟨rfl, Nq66, e66⟩ := hQ66
    refine own_st st66 ?_
    have N66 := Fr.app N64 Nq66
    show own_Go p e below _ T66 (mkF m 212 #[iv xk, iv xa, iv xs, iv xv, iv xw, rv a2, iv ff, iv fr, iv t1, iv t2, iv (1 : Int32), iv (own_bi bv), iv (own_bi bw), iv (own_K b0 b1 b2 kf), iv (own_K b0 b1 b2 (own_k1 kf)), rv a18, iv ress1, own_lv cns1, .second, .unset, .unset, .unset, .unset, .unset, .unset, .unset, .unset, .unset, .unset, .unset, .unset] [(.int (own_val (own_aT (own_K b0 b1 b2) (fun _ => -1) (own_pO (own_K b0 b1 b2) (fun _ => -1) (fun _ => 0) (fun _ _ => -1) kf (own_k1 kf)) kf (own_bi bv)) (own_pR (own_K b0 b1 b2) (fun _ => -1) (fun _ _ => -1) kf (own_k1 kf) (own_bi bw)) kf (own_k1 kf)))])
    obtain ⟨vas1, hvas1⟩ : ∃ z : Int32, z = (own_val (own_aT (own_K b0 b1 b2) (fun _ => -1) (own_pO (own_K b0 b1 b2) (fun _ => -1) (fun _ => 0) (fun _ _ => -1) kf (own_k1 kf)) kf (own_bi bv)) (own_pR (own_K b0 b1 b2) (fun _ => -1) (fun _ _ => -1) kf (own_k1 kf) (own_bi bw)) kf (own_k1 kf)) := ⟨_, rfl⟩
    have sg67 : own_V p e below T66 (mkF m 220 #[iv xk, iv xa, iv xs, iv xv, iv xw, rv a2, iv ff, iv fr, iv t1, iv t2, iv (1 : Int32), iv (own_bi bv), iv (own_bi bw), iv (own_K b0 b1 b2 kf), iv (own_K b0 b1 b2 (own_k1 kf)), rv a18, iv ress1, own_lv cns1, .second, iv vas1, .unset, .unset, .unset, .unset, .unset, .unset, .unset, .unset, .unset, .unset, .unset] [(.int t2), (.int fr), (.ref a18)]) (mkF m 212 #[iv xk, iv xa, iv xs, iv xv, iv xw, rv a2, iv ff, iv fr, iv t1, iv t2, iv (1 : Int32), iv (own_bi bv), iv (own_bi bw), iv (own_K b0 b1 b2 kf), iv (own_K b0 b1 b2 (own_k1 kf)), rv a18, iv ress1, own_lv cns1, .second, .unset, .unset, .unset, .unset, .unset, .unset, .unset, .unset, .unset, .unset, .unset, .unset] [(.int (own_val (own_aT (own_K b0 b1 b2) (fun _ => -1) (own_pO (own_K b0 b1 b2) (fun _ => -1) (fun _ => 0) (fun _ _ => -1) kf (own_k1 kf)) kf (own_bi bv)) (own_pR (own_K b0 b1 b2) (fun _ => -1) (fun _ _ => -1) kf (own_k1 kf) (own_bi bw)) kf (own_k1 kf)))]) := by
      intro t kt
      refine XS.istore X66.here hx rfl (hb hby at_212) rfl (l' := #[iv xk, iv xa, iv xs, iv xv, iv xw, rv a2, iv ff, iv fr, iv t1, iv t2, iv (1 : Int32), iv (own_bi bv), iv (own_bi bw), iv (own_K b0 b1 b2 kf), iv (own_K b0 b1 b2 (own_k1 kf)), rv a18, iv ress1, own_lv cns1, .second, iv (own_val (own_aT (own_K b0 b1 b2) (fun _ => -1) (own_pO (own_K b0 b1 b2) (fun _ => -1) (fun _ => 0) (fun _ _ => -1) kf (own_k1 kf)) kf (own_bi bv)) (own_pR (own_K b0 b1 b2) (fun _ => -1) (fun _ _ => -1) kf (own_k1 kf) (own_bi bw)) kf (own_k1 kf)), .unset, .unset, .unset, .unset, .unset, .unset, .unset, .unset, .unset, .unset, .unset]) rfl ?_
      show own_S p e below T66 m 214 #[iv xk, iv xa, iv xs, iv xv, iv xw, rv a2, iv ff, iv fr, iv t1, iv t2, iv (1 : Int32), iv (own_bi bv), iv (own_bi bw), iv (own_K b0 b1 b2 kf), iv (own_K b0 b1 b2 (own_k1 kf)), rv a18, iv ress1, own_lv cns1, .second, iv (own_val (own_aT (own_K b0 b1 b2) (fun _ => -1) (own_pO (own_K b0 b1 b2) (fun _ => -1) (fun _ => 0) (fun _ _ => -1) kf (own_k1 kf)) kf (own_bi bv)) (own_pR (own_K b0 b1 b2) (fun _ => -1) (fun _ _ => -1) kf (own_k1 kf) (own_bi bw)) kf (own_k1 kf)), .unset, .unset, .unset, .unset, .unset, .unset, .unset, .unset, .unset, .unset, .unset] [] _
      refine XS.aload X66.here hx rfl (hb hby at_214) rfl rfl ?_
      show own_S p e below T66 m 216 #[iv xk, iv xa, iv xs, iv xv, iv xw, rv a2, iv ff, iv fr, iv t1, iv t2, iv (1 : Int32), iv (own_bi bv), iv (own_bi bw), iv (own_K b0 b1 b2 kf), iv (own_K b0 b1 b2 (own_k1 kf)), rv a18, iv ress1, own_lv cns1, .second, iv (own_val (own_aT (own_K b0 b1 b2) (fun _ => -1) (own_pO (own_K b0 b1 b2) (fun _ => -1) (fun _ => 0) (fun _ _ => -1) kf (own_k1 kf)) kf (own_bi bv)) (own_pR (own_K b0 b1 b2) (fun _ => -1) (fun _ _ => -1) kf (own_k1 kf) (own_bi bw)) kf (own_k1 kf)), .unset, .unset, .unset, .unset, .unset, .unset, .unset, .unset, .unset, .unset, .unset] [(.ref a18)] _
      refine XS.iload X66.here hx rfl (hb hby at_216) rfl ?_
      show own_S p e below T66 m 218 #[iv xk, iv xa, iv xs, iv xv, iv xw, rv a2, iv ff, iv fr, iv t1, iv t2, iv (1 : Int32), iv (own_bi bv), iv (own_bi bw), iv (own_K b0 b1 b2 kf), iv (own_K b0 b1 b2 (own_k1 kf)), rv a18, iv ress1, own_lv cns1, .second, iv (own_val (own_aT (own_K b0 b1 b2) (fun _ => -1) (own_pO (own_K b0 b1 b2) (fun _ => -1) (fun _ => 0) (fun _ _ => -1) kf (own_k1 kf)) kf (own_bi bv)) (own_pR (own_K b0 b1 b2) (fun _ => -1) (fun _ _ => -1) kf (own_k1 kf) (own_bi bw)) kf (own_k1 kf)), .unset, .unset, .unset, .unset, .unset, .unset, .unset, .unset, .unset, .unset, .unset] [(.int fr), (.ref a18)] _
      refine XS.iload X66.here hx rfl (hb hby at_218) rfl ?_
      show own_S p e below T66 m 220 #[iv xk, iv xa, iv xs, iv xv, iv xw, rv a2, iv ff, iv fr, iv t1, iv t2, iv (1 : Int32), iv (own_bi bv), iv (own_bi bw), iv (own_K b0 b1 b2 kf), iv (own_K b0 b1 b2 (own_k1 kf)), rv a18, iv ress1, own_lv cns1, .second, iv (own_val (own_aT (own_K b0 b1 b2) (fun _ => -1) (own_pO (own_K b0 b1 b2) (fun _ => -1) (fun _ => 0) (fun _ _ => -1) kf (own_k1 kf)) kf (own_bi bv)) (own_pR (own_K b0 b1 b2) (fun _ => -1) (fun _ _ => -1) kf (own_k1 kf) (own_bi bw)) kf (own_k1 kf)), .unset, .unset, .unset, .unset, .unset, .unset, .unset, .unset, .unset, .unset, .unset] [(.int t2), (.int fr), (.ref a18)] _
      rw [hvas1] at kt
      exact kt
    refine own_st sg67 ?_
    obtain ⟨_, T68, L68, X68, hQ68, st68⟩ := own_callV (y := (⟨"com/example/kingsround/kingsround/engine/Deliveries", "value", "(II)I"⟩ : MethodName)) (y0 := (⟨"com/example/kingsround/kingsround/engine/Deliveries", "value", "(II)I"⟩ : MethodName)) (a := a18) (C := "com/example/kingsround/kingsround/engine/Deliveries") X66 hx hZ hown HD62.1 (hw _ (List.mem_of_getElem? (i := 89) rfl)) (hw _ (List.mem_of_getElem? (i := 90) rfl)) (hw _ (List.mem_of_getElem? (i := 92) rfl)) (notFace_of_selects (args := #[]) (mvT hZ (hw _ (List.mem_of_getElem? (i := 92) rfl)))) (hw _ (List.mem_of_getElem? (i := 91) rfl)) (hw _ (List.mem_of_getElem? (i := 4) rfl)) (hw _ (List.mem_of_getElem? (i := 93) rfl)) (by decide) (own_rmval l Z a0 hw a18 fr t2 ib kp ta ob q r (own_K b0 b1 b2) (own_aT (own_K b0 b1 b2) (fun _ => -1) (own_pO (own_K b0 b1 b2) (fun _ => -1) (fun _ => 0) (fun _ _ => -1) kf (own_k1 kf)) kf (own_bi bv)) (own_pO (own_K b0 b1 b2) (fun _ => -1) (fun _ => 0) (fun _ _ => -1) kf (own_k1 kf)) (own_pR (own_K b0 b1 b2) (fun _ => -1) (fun _ _ => -1) kf (own_k1 kf) (own_bi bw)) (own_ac (own_K b0 b1 b2) (fun _ => -1) (own_pO (own_K b0 b1 b2) (fun _ => -1) (fun _ => 0) (fun _ _ => -1) kf (own_k1 kf)) kf (own_pc (own_K b0 b1 b2) (fun _ => -1) (fun _ _ => -1) kf (own_k1 kf) 0)) kf (own_k2 kf) T62.heap n0 Z62 HA HD62 hkf hk2.1 hf3 hk2.2) e66 (g := (mkF m 220 #[iv xk, iv xa, iv xs, iv xv, iv xw, rv a2, iv ff, iv fr, iv t1, iv t2, iv (1 : Int32), iv (own_bi bv), iv (own_bi bw), iv (own_K b0 b1 b2 kf), iv (own_K b0 b1 b2 (own_k1 kf)), rv a18, iv ress1, own_lv cns1, .second, iv vas1, .unset, .unset, .unset, .unset, .unset, .unset, .unset, .unset, .unset, .unset, .unset] [(.int t2), (.int fr), (.ref a18)])) rfl (by rw [hml]; rfl) (argsL := [(.int fr), (.int t2)]) (rest := []) (lenOf own_pd9 rfl) rfl (W := 0) (by show 2 * 0 + _ ≤ _; exact Nat.le_of_eq rfl) (hb hby at_220) (by decide) (by decide) (by decide) (by decide)
    obtain ⟨rfl, Nq68, e68⟩ := hQ68
    refine own_st st68 ?_
    have N68 := Fr.app N66 Nq68
    show own_Go p e below _ T68 (mkF m 223 #[iv xk, iv xa, iv xs, iv xv, iv xw, rv a2, iv ff, iv fr, iv t1, iv t2, iv (1 : Int32), iv (own_bi bv), iv (own_bi bw), iv (own_K b0 b1 b2 kf), iv (own_K b0 b1 b2 (own_k1 kf)), rv a18, iv ress1, own_lv cns1, .second, iv vas1, .unset, .unset, .unset, .unset, .unset, .unset, .unset, .unset, .unset, .unset, .unset] [(.int (own_val (own_aT (own_K b0 b1 b2) (fun _ => -1) (own_pO (own_K b0 b1 b2) (fun _ => -1) (fun _ => 0) (fun _ _ => -1) kf (own_k1 kf)) kf (own_bi bv)) (own_pR (own_K b0 b1 b2) (fun _ => -1) (fun _ _ => -1) kf (own_k1 kf) (own_bi bw)) kf (own_k2 kf)))])
    obtain ⟨vbs1, hvbs1⟩ : ∃ z : Int32, z = (own_val (own_aT (own_K b0 b1 b2) (fun _ => -1) (own_pO (own_K b0 b1 b2) (fun _ => -1) (fun _ => 0) (fun _ _ => -1) kf (own_k1 kf)) kf (own_bi bv)) (own_pR (own_K b0 b1 b2) (fun _ => -1) (fun _ _ => -1) kf (own_k1 kf) (own_bi bw)) kf (own_k2 kf)) := ⟨_, rfl⟩
    have sg69 : own_V p e below T68 (mkF m 231 #[iv xk, iv xa, iv xs, iv xv, iv xw, rv a2, iv ff, iv fr, iv t1, iv t2, iv (1 : Int32), iv (own_bi bv), iv (own_bi bw), iv (own_K b0 b1 b2 kf), iv (own_K b0 b1 b2 (own_k1 kf)), rv a18, iv ress1, own_lv cns1, .second, iv vas1, iv vbs1, .unset, .unset, .unset, .unset, .unset, .unset, .unset, .unset, .unset, .unset] [(.int fr), (.int fr), (.ref a18)]) (mkF m 223 #[iv xk, iv xa, iv xs, iv xv, iv xw, rv a2, iv ff, iv fr, iv t1, iv t2, iv (1 : Int32), iv (own_bi bv), iv (own_bi bw), iv (own_K b0 b1 b2 kf), iv (own_K b0 b1 b2 (own_k1 kf)), rv a18, iv ress1, own_lv cns1, .second, iv vas1, .unset, .unset, .unset, .unset, .unset, .unset, .unset, .unset, .unset, .unset, .unset] [(.int (own_val (own_aT (own_K b0 b1 b2) (fun _ => -1) (own_pO (own_K b0 b1 b2) (fun _ => -1) (fun _ => 0) (fun _ _ => -1) kf (own_k1 kf)) kf (own_bi bv)) (own_pR (own_K b0 b1 b2) (fun _ => -1) (fun _ _ => -1) kf (own_k1 kf) (own_bi bw)) kf (own_k2 kf)))]) := by
      intro t kt
      refine XS.istore X68.here hx rfl (hb hby at_223) rfl (l' := #[iv xk, iv xa, iv xs, iv xv, iv xw, rv a2, iv ff, iv fr, iv t1, iv t2, iv (1 : Int32), iv (own_bi bv), iv (own_bi bw), iv (own_K b0 b1 b2 kf), iv (own_K b0 b1 b2 (own_k1 kf)), rv a18, iv ress1, own_lv cns1, .second, iv vas1, iv (own_val (own_aT (own_K b0 b1 b2) (fun _ => -1) (own_pO (own_K b0 b1 b2) (fun _ => -1) (fun _ => 0) (fun _ _ => -1) kf (own_k1 kf)) kf (own_bi bv)) (own_pR (own_K b0 b1 b2) (fun _ => -1) (fun _ _ => -1) kf (own_k1 kf) (own_bi bw)) kf (own_k2 kf)), .unset, .unset, .unset, .unset, .unset, .unset, .unset, .unset, .unset, .unset]) rfl ?_
      show own_S p e below T68 m 225 #[iv xk, iv xa, iv xs, iv xv, iv xw, rv a2, iv ff, iv fr, iv t1, iv t2, iv (1 : Int32), iv (own_bi bv), iv (own_bi bw), iv (own_K b0 b1 b2 kf), iv (own_K b0 b1 b2 (own_k1 kf)), rv a18, iv ress1, own_lv cns1, .second, iv vas1, iv (own_val (own_aT (own_K b0 b1 b2) (fun _ => -1) (own_pO (own_K b0 b1 b2) (fun _ => -1) (fun _ => 0) (fun _ _ => -1) kf (own_k1 kf)) kf (own_bi bv)) (own_pR (own_K b0 b1 b2) (fun _ => -1) (fun _ _ => -1) kf (own_k1 kf) (own_bi bw)) kf (own_k2 kf)), .unset, .unset, .unset, .unset, .unset, .unset, .unset, .unset, .unset, .unset] [] _
      refine XS.aload X68.here hx rfl (hb hby at_225) rfl rfl ?_
      show own_S p e below T68 m 227 #[iv xk, iv xa, iv xs, iv xv, iv xw, rv a2, iv ff, iv fr, iv t1, iv t2, iv (1 : Int32), iv (own_bi bv), iv (own_bi bw), iv (own_K b0 b1 b2 kf), iv (own_K b0 b1 b2 (own_k1 kf)), rv a18, iv ress1, own_lv cns1, .second, iv vas1, iv (own_val (own_aT (own_K b0 b1 b2) (fun _ => -1) (own_pO (own_K b0 b1 b2) (fun _ => -1) (fun _ => 0) (fun _ _ => -1) kf (own_k1 kf)) kf (own_bi bv)) (own_pR (own_K b0 b1 b2) (fun _ => -1) (fun _ _ => -1) kf (own_k1 kf) (own_bi bw)) kf (own_k2 kf)), .unset, .unset, .unset, .unset, .unset, .unset, .unset, .unset, .unset, .unset] [(.ref a18)] _
      refine XS.iload X68.here hx rfl (hb hby at_227) rfl ?_
      show own_S p e below T68 m 229 #[iv xk, iv xa, iv xs, iv xv, iv xw, rv a2, iv ff, iv fr, iv t1, iv t2, iv (1 : Int32), iv (own_bi bv), iv (own_bi bw), iv (own_K b0 b1 b2 kf), iv (own_K b0 b1 b2 (own_k1 kf)), rv a18, iv ress1, own_lv cns1, .second, iv vas1, iv (own_val (own_aT (own_K b0 b1 b2) (fun _ => -1) (own_pO (own_K b0 b1 b2) (fun _ => -1) (fun _ => 0) (fun _ _ => -1) kf (own_k1 kf)) kf (own_bi bv)) (own_pR (own_K b0 b1 b2) (fun _ => -1) (fun _ _ => -1) kf (own_k1 kf) (own_bi bw)) kf (own_k2 kf)), .unset, .unset, .unset, .unset, .unset, .unset, .unset, .unset, .unset, .unset] [(.int fr), (.ref a18)] _
      refine XS.iload X68.here hx rfl (hb hby at_229) rfl ?_
      show own_S p e below T68 m 231 #[iv xk, iv xa, iv xs, iv xv, iv xw, rv a2, iv ff, iv fr, iv t1, iv t2, iv (1 : Int32), iv (own_bi bv), iv (own_bi bw), iv (own_K b0 b1 b2 kf), iv (own_K b0 b1 b2 (own_k1 kf)), rv a18, iv ress1, own_lv cns1, .second, iv vas1, iv (own_val (own_aT (own_K b0 b1 b2) (fun _ => -1) (own_pO (own_K b0 b1 b2) (fun _ => -1) (fun _ => 0) (fun _ _ => -1) kf (own_k1 kf)) kf (own_bi bv)) (own_pR (own_K b0 b1 b2) (fun _ => -1) (fun _ _ => -1) kf (own_k1 kf) (own_bi bw)) kf (own_k2 kf)), .unset, .unset, .unset, .unset, .unset, .unset, .unset, .unset, .unset, .unset] [(.int fr), (.int fr), (.ref a18)] _
      rw [hvbs1] at kt
      exact kt
    refine own_st sg69 ?_
    obtain ⟨_, T70, L70, X70, hQ70, st70⟩ := own_callV (y := (⟨"com/example/kingsround/kingsround/engine/Deliveries", "value", "(II)I"⟩ : MethodName)) (y0 := (⟨"com/example/kingsround/kingsround/engine/Deliveries", "value", "(II)I"⟩ : MethodName)) (a := a18) (C := "com/example/kingsround/kingsround/engine/Deliveries") X68 hx hZ hown HD62.1 (hw _ (List.mem_of_getElem? (i := 89) rfl)) (hw _ (List.mem_of_getElem? (i := 90) rfl)) (hw _ (List.mem_of_getElem? (i := 92) rfl)) (notFace_of_selects (args := #[]) (mvT hZ (hw _ (List.mem_of_getElem? (i := 92) rfl)))) (hw _ (List.mem_of_getElem? (i := 91) rfl)) (hw _ (List.mem_of_getElem? (i := 4) rfl)) (hw _ (List.mem_of_getElem? (i := 93) rfl)) (by decide) (own_rmval l Z a0 hw a18 fr fr ib kp ta ob q r (own_K b0 b1 b2) (own_aT (own_K b0 b1 b2) (fun _ => -1) (own_pO (own_K b0 b1 b2) (fun _ => -1) (fun _ => 0) (fun _ _ => -1) kf (own_k1 kf)) kf (own_bi bv)) (own_pO (own_K b0 b1 b2) (fun _ => -1) (fun _ => 0) (fun _ _ => -1) kf (own_k1 kf)) (own_pR (own_K b0 b1 b2) (fun _ => -1) (fun _ _ => -1) kf (own_k1 kf) (own_bi bw)) (own_ac (own_K b0 b1 b2) (fun _ => -1) (own_pO (own_K b0 b1 b2) (fun _ => -1) (fun _ => 0) (fun _ _ => -1) kf (own_k1 kf)) kf (own_pc (own_K b0 b1 b2) (fun _ => -1) (fun _ _ => -1) kf (own_k1 kf) 0)) kf kf T62.heap n0 Z62 HA HD62 hkf hkf hf3 hf3) e68 (g := (mkF m 231 #[iv xk, iv xa, iv xs, iv xv, iv xw, rv a2, iv ff, iv fr, iv t1, iv t2, iv (1 : Int32), iv (own_bi bv), iv (own_bi bw), iv (own_K b0 b1 b2 kf), iv (own_K b0 b1 b2 (own_k1 kf)), rv a18, iv ress1, own_lv cns1, .second, iv vas1, iv vbs1, .unset, .unset, .unset, .unset, .unset, .unset, .unset, .unset, .unset, .unset] [(.int fr), (.int fr), (.ref a18)])) rfl (by rw [hml]; rfl) (argsL := [(.int fr), (.int fr)]) (rest := []) (lenOf own_pd9 rfl) rfl (W := 0) (by show 2 * 0 + _ ≤ _; exact Nat.le_of_eq rfl) (hb hby at_231) (by decide) (by decide) (by decide) (by decide)
    obtain ⟨rfl, Nq70, e70⟩ := hQ70
    refine own_st st70 ?_
    have N70 := Fr.app N68 Nq70
    show own_Go p e below _ T70 (mkF m 234 #[iv xk, iv xa, iv xs, iv xv, iv xw, rv a2, iv ff, iv fr, iv t1, iv t2, iv (1 : Int32), iv (own_bi bv), iv (own_bi bw), iv (own_K b0 b1 b2 kf), iv (own_K b0 b1 b2 (own_k1 kf)), rv a18, iv ress1, own_lv cns1, .second, iv vas1, iv vbs1, .unset, .unset, .unset, .unset, .unset, .unset, .unset, .unset, .unset, .unset] [(.int (own_val (own_aT (own_K b0 b1 b2) (fun _ => -1) (own_pO (own_K b0 b1 b2) (fun _ => -1) (fun _ => 0) (fun _ _ => -1) kf (own_k1 kf)) kf (own_bi bv)) (own_pR (own_K b0 b1 b2) (fun _ => -1) (fun _ _ => -1) kf (own_k1 kf) (own_bi bw)) kf kf))])
    obtain ⟨vcs1, hvcs1⟩ : ∃ z : Int32, z = (own_val (own_aT (own_K b0 b1 b2) (fun _ => -1) (own_pO (own_K b0 b1 b2) (fun _ => -1) (fun _ => 0) (fun _ _ => -1) kf (own_k1 kf)) kf (own_bi bv)) (own_pR (own_K b0 b1 b2) (fun _ => -1) (fun _ _ => -1) kf (own_k1 kf) (own_bi bw)) kf kf) := ⟨_, rfl⟩
    have sg71 : own_V p e below T70 (mkF m 242 #[iv xk, iv xa, iv xs, iv xv, iv xw, rv a2, iv ff, iv fr, iv t1, iv t2, iv (1 : Int32), iv (own_bi bv), iv (own_bi bw), iv (own_K b0 b1 b2 kf), iv (own_K b0 b1 b2 (own_k1 kf)), rv a18, iv ress1, own_lv cns1, .second, iv vas1, iv vbs1, iv vcs1, .unset, .unset, .unset, .unset, .unset, .unset, .unset, .unset, .unset] [(.int fr), (.int t1), (.ref a18)]) (mkF m 234 #[iv xk, iv xa, iv xs, iv xv, iv xw, rv a2, iv ff, iv fr, iv t1, iv t2, iv (1 : Int32), iv (own_bi bv), iv (own_bi bw), iv (own_K b0 b1 b2 kf), iv (own_K b0 b1 b2 (own_k1 kf)), rv a18, iv ress1, own_lv cns1, .second, iv vas1, iv vbs1, .unset, .unset, .unset, .unset, .unset, .unset, .unset, .unset, .unset, .unset] [(.int (own_val (own_aT (own_K b0 b1 b2) (fun _ => -1) (own_pO (own_K b0 b1 b2) (fun _ => -1) (fun _ => 0) (fun _ _ => -1) kf (own_k1 kf)) kf (own_bi bv)) (own_pR (own_K b0 b1 b2) (fun _ => -1) (fun _ _ => -1) kf (own_k1 kf) (own_bi bw)) kf kf))]) := by
      intro t kt
      refine XS.istore X70.here hx rfl (hb hby at_234) rfl (l' := #[iv xk, iv xa, iv xs, iv xv, iv xw, rv a2, iv ff, iv fr, iv t1, iv t2, iv (1 : Int32), iv (own_bi bv), iv (own_bi bw), iv (own_K b0 b1 b2 kf), iv (own_K b0 b1 b2 (own_k1 kf)), rv a18, iv ress1, own_lv cns1, .second, iv vas1, iv vbs1, iv (own_val (own_aT (own_K b0 b1 b2) (fun _ => -1) (own_pO (own_K b0 b1 b2) (fun _ => -1) (fun _ => 0) (fun _ _ => -1) kf (own_k1 kf)) kf (own_bi bv)) (own_pR (own_K b0 b1 b2) (fun _ => -1) (fun _ _ => -1) kf (own_k1 kf) (own_bi bw)) kf kf), .unset, .unset, .unset, .unset, .unset, .unset, .unset, .unset, .unset]) rfl ?_
      show own_S p e below T70 m 236 #[iv xk, iv xa, iv xs, iv xv, iv xw, rv a2, iv ff, iv fr, iv t1, iv t2, iv (1 : Int32), iv (own_bi bv), iv (own_bi bw), iv (own_K b0 b1 b2 kf), iv (own_K b0 b1 b2 (own_k1 kf)), rv a18, iv ress1, own_lv cns1, .second, iv vas1, iv vbs1, iv (own_val (own_aT (own_K b0 b1 b2) (fun _ => -1) (own_pO (own_K b0 b1 b2) (fun _ => -1) (fun _ => 0) (fun _ _ => -1) kf (own_k1 kf)) kf (own_bi bv)) (own_pR (own_K b0 b1 b2) (fun _ => -1) (fun _ _ => -1) kf (own_k1 kf) (own_bi bw)) kf kf), .unset, .unset, .unset, .unset, .unset, .unset, .unset, .unset, .unset] [] _
      refine XS.aload X70.here hx rfl (hb hby at_236) rfl rfl ?_
      show own_S p e below T70 m 238 #[iv xk, iv xa, iv xs, iv xv, iv xw, rv a2, iv ff, iv fr, iv t1, iv t2, iv (1 : Int32), iv (own_bi bv), iv (own_bi bw), iv (own_K b0 b1 b2 kf), iv (own_K b0 b1 b2 (own_k1 kf)), rv a18, iv ress1, own_lv cns1, .second, iv vas1, iv vbs1, iv (own_val (own_aT (own_K b0 b1 b2) (fun _ => -1) (own_pO (own_K b0 b1 b2) (fun _ => -1) (fun _ => 0) (fun _ _ => -1) kf (own_k1 kf)) kf (own_bi bv)) (own_pR (own_K b0 b1 b2) (fun _ => -1) (fun _ _ => -1) kf (own_k1 kf) (own_bi bw)) kf kf), .unset, .unset, .unset, .unset, .unset, .unset, .unset, .unset, .unset] [(.ref a18)] _
      refine XS.iload X70.here hx rfl (hb hby at_238) rfl ?_
      show own_S p e below T70 m 240 #[iv xk, iv xa, iv xs, iv xv, iv xw, rv a2, iv ff, iv fr, iv t1, iv t2, iv (1 : Int32), iv (own_bi bv), iv (own_bi bw), iv (own_K b0 b1 b2 kf), iv (own_K b0 b1 b2 (own_k1 kf)), rv a18, iv ress1, own_lv cns1, .second, iv vas1, iv vbs1, iv (own_val (own_aT (own_K b0 b1 b2) (fun _ => -1) (own_pO (own_K b0 b1 b2) (fun _ => -1) (fun _ => 0) (fun _ _ => -1) kf (own_k1 kf)) kf (own_bi bv)) (own_pR (own_K b0 b1 b2) (fun _ => -1) (fun _ _ => -1) kf (own_k1 kf) (own_bi bw)) kf kf), .unset, .unset, .unset, .unset, .unset, .unset, .unset, .unset, .unset] [(.int t1), (.ref a18)] _
      refine XS.iload X70.here hx rfl (hb hby at_240) rfl ?_
      show own_S p e below T70 m 242 #[iv xk, iv xa, iv xs, iv xv, iv xw, rv a2, iv ff, iv fr, iv t1, iv t2, iv (1 : Int32), iv (own_bi bv), iv (own_bi bw), iv (own_K b0 b1 b2 kf), iv (own_K b0 b1 b2 (own_k1 kf)), rv a18, iv ress1, own_lv cns1, .second, iv vas1, iv vbs1, iv (own_val (own_aT (own_K b0 b1 b2) (fun _ => -1) (own_pO (own_K b0 b1 b2) (fun _ => -1) (fun _ => 0) (fun _ _ => -1) kf (own_k1 kf)) kf (own_bi bv)) (own_pR (own_K b0 b1 b2) (fun _ => -1) (fun _ _ => -1) kf (own_k1 kf) (own_bi bw)) kf kf), .unset, .unset, .unset, .unset, .unset, .unset, .unset, .unset, .unset] [(.int fr), (.int t1), (.ref a18)] _
      rw [hvcs1] at kt
      exact kt
    refine own_st sg71 ?_
    obtain ⟨_, T72, L72, X72, hQ72, st72⟩ := own_callV (y := (⟨"com/example/kingsround/kingsround/engine/Deliveries", "value", "(II)I"⟩ : MethodName)) (y0 := (⟨"com/example/kingsround/kingsround/engine/Deliveries", "value", "(II)I"⟩ : MethodName)) (a := a18) (C := "com/example/kingsround/kingsround/engine/Deliveries") X70 hx hZ hown HD62.1 (hw _ (List.mem_of_getElem? (i := 89) rfl)) (hw _ (List.mem_of_getElem? (i := 90) rfl)) (hw _ (List.mem_of_getElem? (i := 92) rfl)) (notFace_of_selects (args := #[]) (mvT hZ (hw _ (List.mem_of_getElem? (i := 92) rfl)))) (hw _ (List.mem_of_getElem? (i := 91) rfl)) (hw _ (List.mem_of_getElem? (i := 4) rfl)) (hw _ (List.mem_of_getElem? (i := 93) rfl)) (by decide) (own_rmval l Z a0 hw a18 t1 fr ib kp ta ob q r (own_K b0 b1 b2) (own_aT (own_K b0 b1 b2) (fun _ => -1) (own_pO (own_K b0 b1 b2) (fun _ => -1) (fun _ => 0) (fun _ _ => -1) kf (own_k1 kf)) kf (own_bi bv)) (own_pO (own_K b0 b1 b2) (fun _ => -1) (fun _ => 0) (fun _ _ => -1) kf (own_k1 kf)) (own_pR (own_K b0 b1 b2) (fun _ => -1) (fun _ _ => -1) kf (own_k1 kf) (own_bi bw)) (own_ac (own_K b0 b1 b2) (fun _ => -1) (own_pO (own_K b0 b1 b2) (fun _ => -1) (fun _ => 0) (fun _ _ => -1) kf (own_k1 kf)) kf (own_pc (own_K b0 b1 b2) (fun _ => -1) (fun _ _ => -1) kf (own_k1 kf) 0)) (own_k1 kf) kf T62.heap n0 Z62 HA HD62 hk1.1 hkf hk1.2 hf3) e70 (g := (mkF m 242 #[iv xk, iv xa, iv xs, iv xv, iv xw, rv a2, iv ff, iv fr, iv t1, iv t2, iv (1 : Int32), iv (own_bi bv), iv (own_bi bw), iv (own_K b0 b1 b2 kf), iv (own_K b0 b1 b2 (own_k1 kf)), rv a18, iv ress1, own_lv cns1, .second, iv vas1, iv vbs1, iv vcs1, .unset, .unset, .unset, .unset, .unset, .unset, .unset, .unset, .unset] [(.int fr), (.int t1), (.ref a18)])) rfl (by rw [hml]; rfl) (argsL := [(.int t1), (.int fr)]) (rest := []) (lenOf own_pd9 rfl) rfl (W := 0) (by show 2 * 0 + _ ≤ _; exact Nat.le_of_eq rfl) (hb hby at_242) (by decide) (by decide) (by decide) (by decide)
    obtain ⟨rfl, Nq72, e72⟩ := hQ72
    refine own_st st72 ?_
    have N72 := Fr.app N70 Nq72
    show own_Go p e below _ T72 (mkF m 245 #[iv xk, iv xa, iv xs, iv xv, iv xw, rv a2, iv ff, iv fr, iv t1, iv t2, iv (1 : Int32), iv (own_bi bv), iv (own_bi bw), iv (own_K b0 b1 b2 kf), iv (own_K b0 b1 b2 (own_k1 kf)), rv a18, iv ress1, own_lv cns1, .second, iv vas1, iv vbs1, iv vcs1, .unset, .unset, .unset, .unset, .unset, .unset, .unset, .unset, .unset] [(.int (own_val (own_aT (own_K b0 b1 b2) (fun _ => -1) (own_pO (own_K b0 b1 b2) (fun _ => -1) (fun _ => 0) (fun _ _ => -1) kf (own_k1 kf)) kf (own_bi bv)) (own_pR (own_K b0 b1 b2) (fun _ => -1) (fun _ _ => -1) kf (own_k1 kf) (own_bi bw)) (own_k1 kf) kf))])
    obtain ⟨vds1, hvds1⟩ : ∃ z : Int32, z = (own_val (own_aT (own_K b0 b1 b2) (fun _ => -1) (own_pO (own_K b0 b1 b2) (fun _ => -1) (fun _ => 0) (fun _ _ => -1) kf (own_k1 kf)) kf (own_bi bv)) (own_pR (own_K b0 b1 b2) (fun _ => -1) (fun _ _ => -1) kf (own_k1 kf) (own_bi bw)) (own_k1 kf) kf) := ⟨_, rfl⟩
    have sg73 : own_V p e below T72 (mkF m 247 #[iv xk, iv xa, iv xs, iv xv, iv xw, rv a2, iv ff, iv fr, iv t1, iv t2, iv (1 : Int32), iv (own_bi bv), iv (own_bi bw), iv (own_K b0 b1 b2 kf), iv (own_K b0 b1 b2 (own_k1 kf)), rv a18, iv ress1, own_lv cns1, .second, iv vas1, iv vbs1, iv vcs1, iv vds1, .unset, .unset, .unset, .unset, .unset, .unset, .unset, .unset] []) (mkF m 245 #[iv xk, iv xa, iv xs, iv xv, iv xw, rv a2, iv ff, iv fr, iv t1, iv t2, iv (1 : Int32), iv (own_bi bv), iv (own_bi bw), iv (own_K b0 b1 b2 kf), iv (own_K b0 b1 b2 (own_k1 kf)), rv a18, iv ress1, own_lv cns1, .second, iv vas1, iv vbs1, iv vcs1, .unset, .unset, .unset, .unset, .unset, .unset, .unset, .unset, .unset] [(.int (own_val (own_aT (own_K b0 b1 b2) (fun _ => -1) (own_pO (own_K b0 b1 b2) (fun _ => -1) (fun _ => 0) (fun _ _ => -1) kf (own_k1 kf)) kf (own_bi bv)) (own_pR (own_K b0 b1 b2) (fun _ => -1) (fun _ _ => -1) kf (own_k1 kf) (own_bi bw)) (own_k1 kf) kf))]) := by
      intro t kt
      refine XS.istore X72.here hx rfl (hb hby at_245) rfl (l' := #[iv xk, iv xa, iv xs, iv xv, iv xw, rv a2, iv ff, iv fr, iv t1, iv t2, iv (1 : Int32), iv (own_bi bv), iv (own_bi bw), iv (own_K b0 b1 b2 kf), iv (own_K b0 b1 b2 (own_k1 kf)), rv a18, iv ress1, own_lv cns1, .second, iv vas1, iv vbs1, iv vcs1, iv (own_val (own_aT (own_K b0 b1 b2) (fun _ => -1) (own_pO (own_K b0 b1 b2) (fun _ => -1) (fun _ => 0) (fun _ _ => -1) kf (own_k1 kf)) kf (own_bi bv)) (own_pR (own_K b0 b1 b2) (fun _ => -1) (fun _ _ => -1) kf (own_k1 kf) (own_bi bw)) (own_k1 kf) kf), .unset, .unset, .unset, .unset, .unset, .unset, .unset, .unset]) rfl ?_
      show own_S p e below T72 m 247 #[iv xk, iv xa, iv xs, iv xv, iv xw, rv a2, iv ff, iv fr, iv t1, iv t2, iv (1 : Int32), iv (own_bi bv), iv (own_bi bw), iv (own_K b0 b1 b2 kf), iv (own_K b0 b1 b2 (own_k1 kf)), rv a18, iv ress1, own_lv cns1, .second, iv vas1, iv vbs1, iv vcs1, iv (own_val (own_aT (own_K b0 b1 b2) (fun _ => -1) (own_pO (own_K b0 b1 b2) (fun _ => -1) (fun _ => 0) (fun _ _ => -1) kf (own_k1 kf)) kf (own_bi bv)) (own_pR (own_K b0 b1 b2) (fun _ => -1) (fun _ _ => -1) kf (own_k1 kf) (own_bi bw)) (own_k1 kf) kf), .unset, .unset, .unset, .unset, .unset, .unset, .unset, .unset] [] _
      rw [hvds1] at kt
      exact kt
    refine own_st sg73 ?_
    obtain ⟨pos1, hpos1⟩ : ∃ z : Int32, z = (if (own_K b0 b1 b2 kf) = (0 : Int32) then (if (own_K b0 b1 b2 (own_k1 kf)) = (0 : Int32) then (0 : Int32) else (1 : Int32)) else (1 : Int32)) := ⟨_, rfl⟩
    have sg76 : own_V p e below T72 (mkF m 274 #[iv xk, iv xa, iv xs, iv xv, iv xw, rv a2, iv ff, iv fr, iv t1, iv t2, iv (1 : Int32), iv (own_bi bv), iv (own_bi bw), iv (own_K b0 b1 b2 kf), iv (own_K b0 b1 b2 (own_k1 kf)), rv a18, iv ress1, own_lv cns1, .second, iv vas1, iv vbs1, iv vcs1, iv vds1, .unset, .unset, .unset, .unset, .unset, .unset, .unset, .unset] [(.int pos1)]) (mkF m 247 #[iv xk, iv xa, iv xs, iv xv, iv xw, rv a2, iv ff, iv fr, iv t1, iv t2, iv (1 : Int32), iv (own_bi bv), iv (own_bi bw), iv (own_K b0 b1 b2 kf), iv (own_K b0 b1 b2 (own_k1 kf)), rv a18, iv ress1, own_lv cns1, .second, iv vas1, iv vbs1, iv vcs1, iv vds1, .unset, .unset, .unset, .unset, .unset, .unset, .unset, .unset] []) := by
      intro t kt
      refine XS.iload X72.here hx rfl (hb hby at_247) rfl ?_
      show own_S p e below T72 m 249 #[iv xk, iv xa, iv xs, iv xv, iv xw, rv a2, iv ff, iv fr, iv t1, iv t2, iv (1 : Int32), iv (own_bi bv), iv (own_bi bw), iv (own_K b0 b1 b2 kf), iv (own_K b0 b1 b2 (own_k1 kf)), rv a18, iv ress1, own_lv cns1, .second, iv vas1, iv vbs1, iv vcs1, iv vds1, .unset, .unset, .unset, .unset, .unset, .unset, .unset, .unset] [(.int (1 : Int32))] _
      refine XS.iconst X72.here hx rfl (hb hby at_249) ?_
      show own_S p e below T72 m 250 #[iv xk, iv xa, iv xs, iv xv, iv xw, rv a2, iv ff, iv fr, iv t1, iv t2, iv (1 : Int32), iv (own_bi bv), iv (own_bi bw), iv (own_K b0 b1 b2 kf), iv (own_K b0 b1 b2 (own_k1 kf)), rv a18, iv ress1, own_lv cns1, .second, iv vas1, iv vbs1, iv vcs1, iv vds1, .unset, .unset, .unset, .unset, .unset, .unset, .unset, .unset] [(.int (1 : Int32)), (.int (1 : Int32))] _
      refine XS.icmpYes X72.here hx rfl (pc0 := 250) (pc' := 259) rfl (hb hby at_250) rfl (teq (by decide : (1 : Int32) = (1 : Int32))).1 (by decide) (by decide) ?_
      show own_S p e below T72 m 259 #[iv xk, iv xa, iv xs, iv xv, iv xw, rv a2, iv ff, iv fr, iv t1, iv t2, iv (1 : Int32), iv (own_bi bv), iv (own_bi bw), iv (own_K b0 b1 b2 kf), iv (own_K b0 b1 b2 (own_k1 kf)), rv a18, iv ress1, own_lv cns1, .second, iv vas1, iv vbs1, iv vcs1, iv vds1, .unset, .unset, .unset, .unset, .unset, .unset, .unset, .unset] [] _
      refine XS.iload X72.here hx rfl (hb hby at_259) rfl ?_
      show own_S p e below T72 m 261 #[iv xk, iv xa, iv xs, iv xv, iv xw, rv a2, iv ff, iv fr, iv t1, iv t2, iv (1 : Int32), iv (own_bi bv), iv (own_bi bw), iv (own_K b0 b1 b2 kf), iv (own_K b0 b1 b2 (own_k1 kf)), rv a18, iv ress1, own_lv cns1, .second, iv vas1, iv vbs1, iv vcs1, iv vds1, .unset, .unset, .unset, .unset, .unset, .unset, .unset, .unset] [(.int (own_K b0 b1 b2 kf))] _
      by_cases hc74 : (own_K b0 b1 b2 kf) = (0 : Int32)
      · refine XS.ifNo X72.here hx rfl (hb hby at_261) rfl ((if0 _ _).trans (teq hc74).2) ?_
        show own_S p e below T72 m 264 #[iv xk, iv xa, iv xs, iv xv, iv xw, rv a2, iv ff, iv fr, iv t1, iv t2, iv (1 : Int32), iv (own_bi bv), iv (own_bi bw), iv (own_K b0 b1 b2 kf), iv (own_K b0 b1 b2 (own_k1 kf)), rv a18, iv ress1, own_lv cns1, .second, iv vas1, iv vbs1, iv vcs1, iv vds1, .unset, .unset, .unset, .unset, .unset, .unset, .unset, .unset] [] _
        refine XS.iload X72.here hx rfl (hb hby at_264) rfl ?_
        show own_S p e below T72 m 266 #[iv xk, iv xa, iv xs, iv xv, iv xw, rv a2, iv ff, iv fr, iv t1, iv t2, iv (1 : Int32), iv (own_bi bv), iv (own_bi bw), iv (own_K b0 b1 b2 kf), iv (own_K b0 b1 b2 (own_k1 kf)), rv a18, iv ress1, own_lv cns1, .second, iv vas1, iv vbs1, iv vcs1, iv vds1, .unset, .unset, .unset, .unset, .unset, .unset, .unset, .unset] [(.int (own_K b0 b1 b2 (own_k1 kf)))] _
        by_cases hc75 : (own_K b0 b1 b2 (own_k1 kf)) = (0 : Int32)
        · refine XS.ifYes X72.here hx rfl (pc0 := 266) (pc' := 273) rfl (hb hby at_266) rfl ((if0 _ _).trans (teq hc75).1) (by decide) (by decide) ?_
          show own_S p e below T72 m 273 #[iv xk, iv xa, iv xs, iv xv, iv xw, rv a2, iv ff, iv fr, iv t1, iv t2, iv (1 : Int32), iv (own_bi bv), iv (own_bi bw), iv (own_K b0 b1 b2 kf), iv (own_K b0 b1 b2 (own_k1 kf)), rv a18, iv ress1, own_lv cns1, .second, iv vas1, iv vbs1, iv vcs1, iv vds1, .unset, .unset, .unset, .unset, .unset, .unset, .unset, .unset] [] _
          refine XS.iconst X72.here hx rfl (hb hby at_273) ?_
          show own_S p e below T72 m 274 #[iv xk, iv xa, iv xs, iv xv, iv xw, rv a2, iv ff, iv fr, iv t1, iv t2, iv (1 : Int32), iv (own_bi bv), iv (own_bi bw), iv (own_K b0 b1 b2 kf), iv (own_K b0 b1 b2 (own_k1 kf)), rv a18, iv ress1, own_lv cns1, .second, iv vas1, iv vbs1, iv vcs1, iv vds1, .unset, .unset, .unset, .unset, .unset, .unset, .unset, .unset] [(.int (0 : Int32))] _
          rw [show pos1 = (0 : Int32) from by rw [hpos1, if_pos hc74, if_pos hc75]] at kt
          exact kt
        · refine XS.ifNo X72.here hx rfl (hb hby at_266) rfl ((if0 _ _).trans (feq hc75).1) ?_
          show own_S p e below T72 m 269 #[iv xk, iv xa, iv xs, iv xv, iv xw, rv a2, iv ff, iv fr, iv t1, iv t2, iv (1 : Int32), iv (own_bi bv), iv (own_bi bw), iv (own_K b0 b1 b2 kf), iv (own_K b0 b1 b2 (own_k1 kf)), rv a18, iv ress1, own_lv cns1, .second, iv vas1, iv vbs1, iv vcs1, iv vds1, .unset, .unset, .unset, .unset, .unset, .unset, .unset, .unset] [] _
          refine XS.iconst X72.here hx rfl (hb hby at_269) ?_
          show own_S p e below T72 m 270 #[iv xk, iv xa, iv xs, iv xv, iv xw, rv a2, iv ff, iv fr, iv t1, iv t2, iv (1 : Int32), iv (own_bi bv), iv (own_bi bw), iv (own_K b0 b1 b2 kf), iv (own_K b0 b1 b2 (own_k1 kf)), rv a18, iv ress1, own_lv cns1, .second, iv vas1, iv vbs1, iv vcs1, iv vds1, .unset, .unset, .unset, .unset, .unset, .unset, .unset, .unset] [(.int (1 : Int32))] _
          refine XS.goto X72.here hx rfl (pc0 := 270) (pc' := 274) rfl (hb hby at_270) (by decide) (by decide) ?_
          show own_S p e below T72 m 274 #[iv xk, iv xa, iv xs, iv xv, iv xw, rv a2, iv ff, iv fr, iv t1, iv t2, iv (1 : Int32), iv (own_bi bv), iv (own_bi bw), iv (own_K b0 b1 b2 kf), iv (own_K b0 b1 b2 (own_k1 kf)), rv a18, iv ress1, own_lv cns1, .second, iv vas1, iv vbs1, iv vcs1, iv vds1, .unset, .unset, .unset, .unset, .unset, .unset, .unset, .unset] [(.int (1 : Int32))] _
          rw [show pos1 = (1 : Int32) from by rw [hpos1, if_pos hc74, if_neg hc75]] at kt
          exact kt
      · refine XS.ifYes X72.here hx rfl (pc0 := 261) (pc' := 269) rfl (hb hby at_261) rfl ((if0 _ _).trans (feq hc74).2) (by decide) (by decide) ?_
        show own_S p e below T72 m 269 #[iv xk, iv xa, iv xs, iv xv, iv xw, rv a2, iv ff, iv fr, iv t1, iv t2, iv (1 : Int32), iv (own_bi bv), iv (own_bi bw), iv (own_K b0 b1 b2 kf), iv (own_K b0 b1 b2 (own_k1 kf)), rv a18, iv ress1, own_lv cns1, .second, iv vas1, iv vbs1, iv vcs1, iv vds1, .unset, .unset, .unset, .unset, .unset, .unset, .unset, .unset] [] _
        refine XS.iconst X72.here hx rfl (hb hby at_269) ?_
        show own_S p e below T72 m 270 #[iv xk, iv xa, iv xs, iv xv, iv xw, rv a2, iv ff, iv fr, iv t1, iv t2, iv (1 : Int32), iv (own_bi bv), iv (own_bi bw), iv (own_K b0 b1 b2 kf), iv (own_K b0 b1 b2 (own_k1 kf)), rv a18, iv ress1, own_lv cns1, .second, iv vas1, iv vbs1, iv vcs1, iv vds1, .unset, .unset, .unset, .unset, .unset, .unset, .unset, .unset] [(.int (1 : Int32))] _
        refine XS.goto X72.here hx rfl (pc0 := 270) (pc' := 274) rfl (hb hby at_270) (by decide) (by decide) ?_
        show own_S p e below T72 m 274 #[iv xk, iv xa, iv xs, iv xv, iv xw, rv a2, iv ff, iv fr, iv t1, iv t2, iv (1 : Int32), iv (own_bi bv), iv (own_bi bw), iv (own_K b0 b1 b2 kf), iv (own_K b0 b1 b2 (own_k1 kf)), rv a18, iv ress1, own_lv cns1, .second, iv vas1, iv vbs1, iv vcs1, iv vds1, .unset, .unset, .unset, .unset, .unset, .unset, .unset, .unset] [(.int (1 : Int32))] _
        rw [show pos1 = (1 : Int32) from by rw [hpos1, if_neg hc74]] at kt
        exact kt
    refine own_st sg76 ?_
    obtain ⟨pas1, hpas1⟩ : ∃ z : Int32, z = (0 : Int32) := ⟨_, rfl⟩
    have sg77 : own_V p e below T72 (mkF m 292 #[iv xk, iv xa, iv xs, iv xv, iv xw, rv a2, iv ff, iv fr, iv t1, iv t2, iv (1 : Int32), iv (own_bi bv), iv (own_bi bw), iv (own_K b0 b1 b2 kf), iv (own_K b0 b1 b2 (own_k1 kf)), rv a18, iv ress1, own_lv cns1, .second, iv vas1, iv vbs1, iv vcs1, iv vds1, iv pos1, .unset, .unset, .unset, .unset, .unset, .unset, .unset] [(.int pas1)]) (mkF m 274 #[iv xk, iv xa, iv xs, iv xv, iv xw, rv a2, iv ff, iv fr, iv t1, iv t2, iv (1 : Int32), iv (own_bi bv), iv (own_bi bw), iv (own_K b0 b1 b2 kf), iv (own_K b0 b1 b2 (own_k1 kf)), rv a18, iv ress1, own_lv cns1, .second, iv vas1, iv vbs1, iv vcs1, iv vds1, .unset, .unset, .unset, .unset, .unset, .unset, .unset, .unset] [(.int pos1)]) := by
      intro t kt
      refine XS.istore X72.here hx rfl (hb hby at_274) rfl (l' := #[iv xk, iv xa, iv xs, iv xv, iv xw, rv a2, iv ff, iv fr, iv t1, iv t2, iv (1 : Int32), iv (own_bi bv), iv (own_bi bw), iv (own_K b0 b1 b2 kf), iv (own_K b0 b1 b2 (own_k1 kf)), rv a18, iv ress1, own_lv cns1, .second, iv vas1, iv vbs1, iv vcs1, iv vds1, iv pos1, .unset, .unset, .unset, .unset, .unset, .unset, .unset]) rfl ?_
      show own_S p e below T72 m 276 #[iv xk, iv xa, iv xs, iv xv, iv xw, rv a2, iv ff, iv fr, iv t1, iv t2, iv (1 : Int32), iv (own_bi bv), iv (own_bi bw), iv (own_K b0 b1 b2 kf), iv (own_K b0 b1 b2 (own_k1 kf)), rv a18, iv ress1, own_lv cns1, .second, iv vas1, iv vbs1, iv vcs1, iv vds1, iv pos1, .unset, .unset, .unset, .unset, .unset, .unset, .unset] [] _
      refine XS.iload X72.here hx rfl (hb hby at_276) rfl ?_
      show own_S p e below T72 m 278 #[iv xk, iv xa, iv xs, iv xv, iv xw, rv a2, iv ff, iv fr, iv t1, iv t2, iv (1 : Int32), iv (own_bi bv), iv (own_bi bw), iv (own_K b0 b1 b2 kf), iv (own_K b0 b1 b2 (own_k1 kf)), rv a18, iv ress1, own_lv cns1, .second, iv vas1, iv vbs1, iv vcs1, iv vds1, iv pos1, .unset, .unset, .unset, .unset, .unset, .unset, .unset] [(.int (1 : Int32))] _
      refine XS.iconst X72.here hx rfl (hb hby at_278) ?_
      show own_S p e below T72 m 279 #[iv xk, iv xa, iv xs, iv xv, iv xw, rv a2, iv ff, iv fr, iv t1, iv t2, iv (1 : Int32), iv (own_bi bv), iv (own_bi bw), iv (own_K b0 b1 b2 kf), iv (own_K b0 b1 b2 (own_k1 kf)), rv a18, iv ress1, own_lv cns1, .second, iv vas1, iv vbs1, iv vcs1, iv vds1, iv pos1, .unset, .unset, .unset, .unset, .unset, .unset, .unset] [(.int (2 : Int32)), (.int (1 : Int32))] _
      refine XS.icmpYes X72.here hx rfl (pc0 := 279) (pc' := 291) rfl (hb hby at_279) rfl (feq (by decide : ¬ (1 : Int32) = (2 : Int32))).2 (by decide) (by decide) ?_
      show own_S p e below T72 m 291 #[iv xk, iv xa, iv xs, iv xv, iv xw, rv a2, iv ff, iv fr, iv t1, iv t2, iv (1 : Int32), iv (own_bi bv), iv (own_bi bw), iv (own_K b0 b1 b2 kf), iv (own_K b0 b1 b2 (own_k1 kf)), rv a18, iv ress1, own_lv cns1, .second, iv vas1, iv vbs1, iv vcs1, iv vds1, iv pos1, .unset, .unset, .unset, .unset, .unset, .unset, .unset] [] _
      refine XS.iconst X72.here hx rfl (hb hby at_291) ?_
      show own_S p e below T72 m 292 #[iv xk, iv xa, iv xs, iv xv, iv xw, rv a2, iv ff, iv fr, iv t1, iv t2, iv (1 : Int32), iv (own_bi bv), iv (own_bi bw), iv (own_K b0 b1 b2 kf), iv (own_K b0 b1 b2 (own_k1 kf)), rv a18, iv ress1, own_lv cns1, .second, iv vas1, iv vbs1, iv vcs1, iv vds1, iv pos1, .unset, .unset, .unset, .unset, .unset, .unset, .unset] [(.int (0 : Int32))] _
      rw [hpas1] at kt
      exact kt
    refine own_st sg77 ?_
    obtain ⟨ers1, hers1⟩ : ∃ z : Int32, z = (0 : Int32) := ⟨_, rfl⟩
    have sg79 : own_V p e below T72 (mkF m 315 #[iv xk, iv xa, iv xs, iv xv, iv xw, rv a2, iv ff, iv fr, iv t1, iv t2, iv (1 : Int32), iv (own_bi bv), iv (own_bi bw), iv (own_K b0 b1 b2 kf), iv (own_K b0 b1 b2 (own_k1 kf)), rv a18, iv ress1, own_lv cns1, .second, iv vas1, iv vbs1, iv vcs1, iv vds1, iv pos1, iv pas1, .unset, .unset, .unset, .unset, .unset, .unset] [(.int ers1)]) (mkF m 292 #[iv xk, iv xa, iv xs, iv xv, iv xw, rv a2, iv ff, iv fr, iv t1, iv t2, iv (1 : Int32), iv (own_bi bv), iv (own_bi bw), iv (own_K b0 b1 b2 kf), iv (own_K b0 b1 b2 (own_k1 kf)), rv a18, iv ress1, own_lv cns1, .second, iv vas1, iv vbs1, iv vcs1, iv vds1, iv pos1, .unset, .unset, .unset, .unset, .unset, .unset, .unset] [(.int pas1)]) := by
      intro t kt
      refine XS.istore X72.here hx rfl (hb hby at_292) rfl (l' := #[iv xk, iv xa, iv xs, iv xv, iv xw, rv a2, iv ff, iv fr, iv t1, iv t2, iv (1 : Int32), iv (own_bi bv), iv (own_bi bw), iv (own_K b0 b1 b2 kf), iv (own_K b0 b1 b2 (own_k1 kf)), rv a18, iv ress1, own_lv cns1, .second, iv vas1, iv vbs1, iv vcs1, iv vds1, iv pos1, iv pas1, .unset, .unset, .unset, .unset, .unset, .unset]) rfl ?_
      show own_S p e below T72 m 294 #[iv xk, iv xa, iv xs, iv xv, iv xw, rv a2, iv ff, iv fr, iv t1, iv t2, iv (1 : Int32), iv (own_bi bv), iv (own_bi bw), iv (own_K b0 b1 b2 kf), iv (own_K b0 b1 b2 (own_k1 kf)), rv a18, iv ress1, own_lv cns1, .second, iv vas1, iv vbs1, iv vcs1, iv vds1, iv pos1, iv pas1, .unset, .unset, .unset, .unset, .unset, .unset] [] _
      refine XS.iload X72.here hx rfl (hb hby at_294) rfl ?_
      show own_S p e below T72 m 296 #[iv xk, iv xa, iv xs, iv xv, iv xw, rv a2, iv ff, iv fr, iv t1, iv t2, iv (1 : Int32), iv (own_bi bv), iv (own_bi bw), iv (own_K b0 b1 b2 kf), iv (own_K b0 b1 b2 (own_k1 kf)), rv a18, iv ress1, own_lv cns1, .second, iv vas1, iv vbs1, iv vcs1, iv vds1, iv pos1, iv pas1, .unset, .unset, .unset, .unset, .unset, .unset] [(.int (own_K b0 b1 b2 kf))] _
      by_cases hc78 : (own_K b0 b1 b2 kf) = (0 : Int32)
      · refine XS.ifYes X72.here hx rfl (pc0 := 296) (pc' := 314) rfl (hb hby at_296) rfl ((if0 _ _).trans (teq hc78).1) (by decide) (by decide) ?_
        show own_S p e below T72 m 314 #[iv xk, iv xa, iv xs, iv xv, iv xw, rv a2, iv ff, iv fr, iv t1, iv t2, iv (1 : Int32), iv (own_bi bv), iv (own_bi bw), iv (own_K b0 b1 b2 kf), iv (own_K b0 b1 b2 (own_k1 kf)), rv a18, iv ress1, own_lv cns1, .second, iv vas1, iv vbs1, iv vcs1, iv vds1, iv pos1, iv pas1, .unset, .unset, .unset, .unset, .unset, .unset] [] _
        refine XS.iconst X72.here hx rfl (hb hby at_314) ?_
        show own_S p e below T72 m 315 #[iv xk, iv xa, iv xs, iv xv, iv xw, rv a2, iv ff, iv fr, iv t1, iv t2, iv (1 : Int32), iv (own_bi bv), iv (own_bi bw), iv (own_K b0 b1 b2 kf), iv (own_K b0 b1 b2 (own_k1 kf)), rv a18, iv ress1, own_lv cns1, .second, iv vas1, iv vbs1, iv vcs1, iv vds1, iv pos1, iv pas1, .unset, .unset, .unset, .unset, .unset, .unset] [(.int (0 : Int32))] _
        rw [hers1] at kt
        exact kt
      · refine XS.ifNo X72.here hx rfl (hb hby at_296) rfl ((if0 _ _).trans (feq hc78).1) ?_
        show own_S p e below T72 m 299 #[iv xk, iv xa, iv xs, iv xv, iv xw, rv a2, iv ff, iv fr, iv t1, iv t2, iv (1 : Int32), iv (own_bi bv), iv (own_bi bw), iv (own_K b0 b1 b2 kf), iv (own_K b0 b1 b2 (own_k1 kf)), rv a18, iv ress1, own_lv cns1, .second, iv vas1, iv vbs1, iv vcs1, iv vds1, iv pos1, iv pas1, .unset, .unset, .unset, .unset, .unset, .unset] [] _
        refine XS.iload X72.here hx rfl (hb hby at_299) rfl ?_
        show own_S p e below T72 m 301 #[iv xk, iv xa, iv xs, iv xv, iv xw, rv a2, iv ff, iv fr, iv t1, iv t2, iv (1 : Int32), iv (own_bi bv), iv (own_bi bw), iv (own_K b0 b1 b2 kf), iv (own_K b0 b1 b2 (own_k1 kf)), rv a18, iv ress1, own_lv cns1, .second, iv vas1, iv vbs1, iv vcs1, iv vds1, iv pos1, iv pas1, .unset, .unset, .unset, .unset, .unset, .unset] [(.int (1 : Int32))] _
        refine XS.ifNo X72.here hx rfl (hb hby at_301) rfl ((if0 _ _).trans (feq (by decide : ¬ (1 : Int32) = (0 : Int32))).1) ?_
        show own_S p e below T72 m 304 #[iv xk, iv xa, iv xs, iv xv, iv xw, rv a2, iv ff, iv fr, iv t1, iv t2, iv (1 : Int32), iv (own_bi bv), iv (own_bi bw), iv (own_K b0 b1 b2 kf), iv (own_K b0 b1 b2 (own_k1 kf)), rv a18, iv ress1, own_lv cns1, .second, iv vas1, iv vbs1, iv vcs1, iv vds1, iv pos1, iv pas1, .unset, .unset, .unset, .unset, .unset, .unset] [] _
        refine XS.iload X72.here hx rfl (hb hby at_304) rfl ?_
        show own_S p e below T72 m 306 #[iv xk, iv xa, iv xs, iv xv, iv xw, rv a2, iv ff, iv fr, iv t1, iv t2, iv (1 : Int32), iv (own_bi bv), iv (own_bi bw), iv (own_K b0 b1 b2 kf), iv (own_K b0 b1 b2 (own_k1 kf)), rv a18, iv ress1, own_lv cns1, .second, iv vas1, iv vbs1, iv vcs1, iv vds1, iv pos1, iv pas1, .unset, .unset, .unset, .unset, .unset, .unset] [(.int (1 : Int32))] _
        refine XS.iconst X72.here hx rfl (hb hby at_306) ?_
        show own_S p e below T72 m 307 #[iv xk, iv xa, iv xs, iv xv, iv xw, rv a2, iv ff, iv fr, iv t1, iv t2, iv (1 : Int32), iv (own_bi bv), iv (own_bi bw), iv (own_K b0 b1 b2 kf), iv (own_K b0 b1 b2 (own_k1 kf)), rv a18, iv ress1, own_lv cns1, .second, iv vas1, iv vbs1, iv vcs1, iv vds1, iv pos1, iv pas1, .unset, .unset, .unset, .unset, .unset, .unset] [(.int (3 : Int32)), (.int (1 : Int32))] _
        refine XS.icmpYes X72.here hx rfl (pc0 := 307) (pc' := 314) rfl (hb hby at_307) rfl (feq (by decide : ¬ (1 : Int32) = (3 : Int32))).2 (by decide) (by decide) ?_
        show own_S p e below T72 m 314 #[iv xk, iv xa, iv xs, iv xv, iv xw, rv a2, iv ff, iv fr, iv t1, iv t2, iv (1 : Int32), iv (own_bi bv), iv (own_bi bw), iv (own_K b0 b1 b2 kf), iv (own_K b0 b1 b2 (own_k1 kf)), rv a18, iv ress1, own_lv cns1, .second, iv vas1, iv vbs1, iv vcs1, iv vds1, iv pos1, iv pas1, .unset, .unset, .unset, .unset, .unset, .unset] [] _
        refine XS.iconst X72.here hx rfl (hb hby at_314) ?_
        show own_S p e below T72 m 315 #[iv xk, iv xa, iv xs, iv xv, iv xw, rv a2, iv ff, iv fr, iv t1, iv t2, iv (1 : Int32), iv (own_bi bv), iv (own_bi bw), iv (own_K b0 b1 b2 kf), iv (own_K b0 b1 b2 (own_k1 kf)), rv a18, iv ress1, own_lv cns1, .second, iv vas1, iv vbs1, iv vcs1, iv vds1, iv pos1, iv pas1, .unset, .unset, .unset, .unset, .unset, .unset] [(.int (0 : Int32))] _
        rw [hers1] at kt
        exact kt
    refine own_st sg79 ?_
    obtain ⟨e1s1, he1s1⟩ : ∃ z : Int64, z = (if pos1 = (0 : Int32) then (0 : Int64) else (1 : Int64)) := ⟨_, rfl⟩
    have sg81 : own_V p e below T72 (mkF m 327 #[iv xk, iv xa, iv xs, iv xv, iv xw, rv a2, iv ff, iv fr, iv t1, iv t2, iv (1 : Int32), iv (own_bi bv), iv (own_bi bw), iv (own_K b0 b1 b2 kf), iv (own_K b0 b1 b2 (own_k1 kf)), rv a18, iv ress1, own_lv cns1, .second, iv vas1, iv vbs1, iv vcs1, iv vds1, iv pos1, iv pas1, iv ers1, .unset, .unset, .unset, .unset, .unset] [(.long e1s1)]) (mkF m 315 #[iv xk, iv xa, iv xs, iv xv, iv xw, rv a2, iv ff, iv fr, iv t1, iv t2, iv (1 : Int32), iv (own_bi bv), iv (own_bi bw), iv (own_K b0 b1 b2 kf), iv (own_K b0 b1 b2 (own_k1 kf)), rv a18, iv ress1, own_lv cns1, .second, iv vas1, iv vbs1, iv vcs1, iv vds1, iv pos1, iv pas1, .unset, .unset, .unset, .unset, .unset, .unset] [(.int ers1)]) := by
      intro t kt
      refine XS.istore X72.here hx rfl (hb hby at_315) rfl (l' := #[iv xk, iv xa, iv xs, iv xv, iv xw, rv a2, iv ff, iv fr, iv t1, iv t2, iv (1 : Int32), iv (own_bi bv), iv (own_bi bw), iv (own_K b0 b1 b2 kf), iv (own_K b0 b1 b2 (own_k1 kf)), rv a18, iv ress1, own_lv cns1, .second, iv vas1, iv vbs1, iv vcs1, iv vds1, iv pos1, iv pas1, iv ers1, .unset, .unset, .unset, .unset, .unset]) rfl ?_
      show own_S p e below T72 m 317 #[iv xk, iv xa, iv xs, iv xv, iv xw, rv a2, iv ff, iv fr, iv t1, iv t2, iv (1 : Int32), iv (own_bi bv), iv (own_bi bw), iv (own_K b0 b1 b2 kf), iv (own_K b0 b1 b2 (own_k1 kf)), rv a18, iv ress1, own_lv cns1, .second, iv vas1, iv vbs1, iv vcs1, iv vds1, iv pos1, iv pas1, iv ers1, .unset, .unset, .unset, .unset, .unset] [] _
      refine XS.iload X72.here hx rfl (hb hby at_317) rfl ?_
      show own_S p e below T72 m 319 #[iv xk, iv xa, iv xs, iv xv, iv xw, rv a2, iv ff, iv fr, iv t1, iv t2, iv (1 : Int32), iv (own_bi bv), iv (own_bi bw), iv (own_K b0 b1 b2 kf), iv (own_K b0 b1 b2 (own_k1 kf)), rv a18, iv ress1, own_lv cns1, .second, iv vas1, iv vbs1, iv vcs1, iv vds1, iv pos1, iv pas1, iv ers1, .unset, .unset, .unset, .unset, .unset] [(.int pos1)] _
      by_cases hc80 : pos1 = (0 : Int32)
      · refine XS.ifYes X72.here hx rfl (pc0 := 319) (pc' := 326) rfl (hb hby at_319) rfl ((if0 _ _).trans (teq hc80).1) (by decide) (by decide) ?_
        show own_S p e below T72 m 326 #[iv xk, iv xa, iv xs, iv xv, iv xw, rv a2, iv ff, iv fr, iv t1, iv t2, iv (1 : Int32), iv (own_bi bv), iv (own_bi bw), iv (own_K b0 b1 b2 kf), iv (own_K b0 b1 b2 (own_k1 kf)), rv a18, iv ress1, own_lv cns1, .second, iv vas1, iv vbs1, iv vcs1, iv vds1, iv pos1, iv pas1, iv ers1, .unset, .unset, .unset, .unset, .unset] [] _
        refine XS.lconst X72.here hx rfl (hb hby at_326) ?_
        show own_S p e below T72 m 327 #[iv xk, iv xa, iv xs, iv xv, iv xw, rv a2, iv ff, iv fr, iv t1, iv t2, iv (1 : Int32), iv (own_bi bv), iv (own_bi bw), iv (own_K b0 b1 b2 kf), iv (own_K b0 b1 b2 (own_k1 kf)), rv a18, iv ress1, own_lv cns1, .second, iv vas1, iv vbs1, iv vcs1, iv vds1, iv pos1, iv pas1, iv ers1, .unset, .unset, .unset, .unset, .unset] [(.long (0 : Int64))] _
        rw [show e1s1 = (0 : Int64) from by rw [he1s1, if_pos hc80]] at kt
        exact kt
      · refine XS.ifNo X72.here hx rfl (hb hby at_319) rfl ((if0 _ _).trans (feq hc80).1) ?_
        show own_S p e below T72 m 322 #[iv xk, iv xa, iv xs, iv xv, iv xw, rv a2, iv ff, iv fr, iv t1, iv t2, iv (1 : Int32), iv (own_bi bv), iv (own_bi bw), iv (own_K b0 b1 b2 kf), iv (own_K b0 b1 b2 (own_k1 kf)), rv a18, iv ress1, own_lv cns1, .second, iv vas1, iv vbs1, iv vcs1, iv vds1, iv pos1, iv pas1, iv ers1, .unset, .unset, .unset, .unset, .unset] [] _
        refine XS.lconst X72.here hx rfl (hb hby at_322) ?_
        show own_S p e below T72 m 323 #[iv xk, iv xa, iv xs, iv xv, iv xw, rv a2, iv ff, iv fr, iv t1, iv t2, iv (1 : Int32), iv (own_bi bv), iv (own_bi bw), iv (own_K b0 b1 b2 kf), iv (own_K b0 b1 b2 (own_k1 kf)), rv a18, iv ress1, own_lv cns1, .second, iv vas1, iv vbs1, iv vcs1, iv vds1, iv pos1, iv pas1, iv ers1, .unset, .unset, .unset, .unset, .unset] [(.long (1 : Int64))] _
        refine XS.goto X72.here hx rfl (pc0 := 323) (pc' := 327) rfl (hb hby at_323) (by decide) (by decide) ?_
        show own_S p e below T72 m 327 #[iv xk, iv xa, iv xs, iv xv, iv xw, rv a2, iv ff, iv fr, iv t1, iv t2, iv (1 : Int32), iv (own_bi bv), iv (own_bi bw), iv (own_K b0 b1 b2 kf), iv (own_K b0 b1 b2 (own_k1 kf)), rv a18, iv ress1, own_lv cns1, .second, iv vas1, iv vbs1, iv vcs1, iv vds1, iv pos1, iv pas1, iv ers1, .unset, .unset, .unset, .unset, .unset] [(.long (1 : Int64))] _
        rw [show e1s1 = (1 : Int64) from by rw [he1s1, if_neg hc80]] at kt
        exact kt
    refine own_st sg81 ?_
    obtain ⟨e2s1, he2s1⟩ : ∃ z : Int64, z = (if pas1 = (0 : Int32) then (0 : Int64) else (2 : Int64)) := ⟨_, rfl⟩
    have sg83 : own_V p e below T72 (mkF m 339 #[iv xk, iv xa, iv xs, iv xv, iv xw, rv a2, iv ff, iv fr, iv t1, iv t2, iv (1 : Int32), iv (own_bi bv), iv (own_bi bw), iv (own_K b0 b1 b2 kf), iv (own_K b0 b1 b2 (own_k1 kf)), rv a18, iv ress1, own_lv cns1, .second, iv vas1, iv vbs1, iv vcs1, iv vds1, iv pos1, iv pas1, iv ers1, .unset, .unset, .unset, .unset, .unset] [(.long e2s1), (.long e1s1)]) (mkF m 327 #[iv xk, iv xa, iv xs, iv xv, iv xw, rv a2, iv ff, iv fr, iv t1, iv t2, iv (1 : Int32), iv (own_bi bv), iv (own_bi bw), iv (own_K b0 b1 b2 kf), iv (own_K b0 b1 b2 (own_k1 kf)), rv a18, iv ress1, own_lv cns1, .second, iv vas1, iv vbs1, iv vcs1, iv vds1, iv pos1, iv pas1, iv ers1, .unset, .unset, .unset, .unset, .unset] [(.long e1s1)]) := by
      intro t kt
      refine XS.iload X72.here hx rfl (hb hby at_327) rfl ?_
      show own_S p e below T72 m 329 #[iv xk, iv xa, iv xs, iv xv, iv xw, rv a2, iv ff, iv fr, iv t1, iv t2, iv (1 : Int32), iv (own_bi bv), iv (own_bi bw), iv (own_K b0 b1 b2 kf), iv (own_K b0 b1 b2 (own_k1 kf)), rv a18, iv ress1, own_lv cns1, .second, iv vas1, iv vbs1, iv vcs1, iv vds1, iv pos1, iv pas1, iv ers1, .unset, .unset, .unset, .unset, .unset] [(.int pas1), (.long e1s1)] _
      by_cases hc82 : pas1 = (0 : Int32)
      · refine XS.ifYes X72.here hx rfl (pc0 := 329) (pc' := 338) rfl (hb hby at_329) rfl ((if0 _ _).trans (teq hc82).1) (by decide) (by decide) ?_
        show own_S p e below T72 m 338 #[iv xk, iv xa, iv xs, iv xv, iv xw, rv a2, iv ff, iv fr, iv t1, iv t2, iv (1 : Int32), iv (own_bi bv), iv (own_bi bw), iv (own_K b0 b1 b2 kf), iv (own_K b0 b1 b2 (own_k1 kf)), rv a18, iv ress1, own_lv cns1, .second, iv vas1, iv vbs1, iv vcs1, iv vds1, iv pos1, iv pas1, iv ers1, .unset, .unset, .unset, .unset, .unset] [(.long e1s1)] _
        refine XS.lconst X72.here hx rfl (hb hby at_338) ?_
        show own_S p e below T72 m 339 #[iv xk, iv xa, iv xs, iv xv, iv xw, rv a2, iv ff, iv fr, iv t1, iv t2, iv (1 : Int32), iv (own_bi bv), iv (own_bi bw), iv (own_K b0 b1 b2 kf), iv (own_K b0 b1 b2 (own_k1 kf)), rv a18, iv ress1, own_lv cns1, .second, iv vas1, iv vbs1, iv vcs1, iv vds1, iv pos1, iv pas1, iv ers1, .unset, .unset, .unset, .unset, .unset] [(.long (0 : Int64)), (.long e1s1)] _
        rw [show e2s1 = (0 : Int64) from by rw [he2s1, if_pos hc82]] at kt
        exact kt
      · refine XS.ifNo X72.here hx rfl (hb hby at_329) rfl ((if0 _ _).trans (feq hc82).1) ?_
        show own_S p e below T72 m 332 #[iv xk, iv xa, iv xs, iv xv, iv xw, rv a2, iv ff, iv fr, iv t1, iv t2, iv (1 : Int32), iv (own_bi bv), iv (own_bi bw), iv (own_K b0 b1 b2 kf), iv (own_K b0 b1 b2 (own_k1 kf)), rv a18, iv ress1, own_lv cns1, .second, iv vas1, iv vbs1, iv vcs1, iv vds1, iv pos1, iv pas1, iv ers1, .unset, .unset, .unset, .unset, .unset] [(.long e1s1)] _
        refine X72.ldc2Long hx hown (mvT hZ (hw _ (List.mem_of_getElem? (i := 100) rfl))) (g := (mkF m 332 #[iv xk, iv xa, iv xs, iv xv, iv xw, rv a2, iv ff, iv fr, iv t1, iv t2, iv (1 : Int32), iv (own_bi bv), iv (own_bi bw), iv (own_K b0 b1 b2 kf), iv (own_K b0 b1 b2 (own_k1 kf)), rv a18, iv ress1, own_lv cns1, .second, iv vas1, iv vbs1, iv vcs1, iv vds1, iv pos1, iv pas1, iv ers1, .unset, .unset, .unset, .unset, .unset] [(.long e1s1)])) rfl (hb hby at_332) _ ?_
        show own_S p e below T72 m 335 #[iv xk, iv xa, iv xs, iv xv, iv xw, rv a2, iv ff, iv fr, iv t1, iv t2, iv (1 : Int32), iv (own_bi bv), iv (own_bi bw), iv (own_K b0 b1 b2 kf), iv (own_K b0 b1 b2 (own_k1 kf)), rv a18, iv ress1, own_lv cns1, .second, iv vas1, iv vbs1, iv vcs1, iv vds1, iv pos1, iv pas1, iv ers1, .unset, .unset, .unset, .unset, .unset] [(.long (2 : Int64)), (.long e1s1)] _
        refine XS.goto X72.here hx rfl (pc0 := 335) (pc' := 339) rfl (hb hby at_335) (by decide) (by decide) ?_
        show own_S p e below T72 m 339 #[iv xk, iv xa, iv xs, iv xv, iv xw, rv a2, iv ff, iv fr, iv t1, iv t2, iv (1 : Int32), iv (own_bi bv), iv (own_bi bw), iv (own_K b0 b1 b2 kf), iv (own_K b0 b1 b2 (own_k1 kf)), rv a18, iv ress1, own_lv cns1, .second, iv vas1, iv vbs1, iv vcs1, iv vds1, iv pos1, iv pas1, iv ers1, .unset, .unset, .unset, .unset, .unset] [(.long (2 : Int64)), (.long e1s1)] _
        rw [show e2s1 = (2 : Int64) from by rw [he2s1, if_neg hc82]] at kt
        exact kt
    refine own_st sg83 ?_
    obtain ⟨e3s1, he3s1⟩ : ∃ z : Int64, z = (if ers1 = (0 : Int32) then (0 : Int64) else (2 : Int64)) := ⟨_, rfl⟩
    have sg85 : own_V p e below T72 (mkF m 352 #[iv xk, iv xa, iv xs, iv xv, iv xw, rv a2, iv ff, iv fr, iv t1, iv t2, iv (1 : Int32), iv (own_bi bv), iv (own_bi bw), iv (own_K b0 b1 b2 kf), iv (own_K b0 b1 b2 (own_k1 kf)), rv a18, iv ress1, own_lv cns1, .second, iv vas1, iv vbs1, iv vcs1, iv vds1, iv pos1, iv pas1, iv ers1, .unset, .unset, .unset, .unset, .unset] [(.long e3s1), (.long (e1s1 + e2s1))]) (mkF m 339 #[iv xk, iv xa, iv xs, iv xv, iv xw, rv a2, iv ff, iv fr, iv t1, iv t2, iv (1 : Int32), iv (own_bi bv), iv (own_bi bw), iv (own_K b0 b1 b2 kf), iv (own_K b0 b1 b2 (own_k1 kf)), rv a18, iv ress1, own_lv cns1, .second, iv vas1, iv vbs1, iv vcs1, iv vds1, iv pos1, iv pas1, iv ers1, .unset, .unset, .unset, .unset, .unset] [(.long e2s1), (.long e1s1)]) := by
      intro t kt
      refine XS.ladd X72.here hx rfl (hb hby at_339) rfl ?_
      show own_S p e below T72 m 340 #[iv xk, iv xa, iv xs, iv xv, iv xw, rv a2, iv ff, iv fr, iv t1, iv t2, iv (1 : Int32), iv (own_bi bv), iv (own_bi bw), iv (own_K b0 b1 b2 kf), iv (own_K b0 b1 b2 (own_k1 kf)), rv a18, iv ress1, own_lv cns1, .second, iv vas1, iv vbs1, iv vcs1, iv vds1, iv pos1, iv pas1, iv ers1, .unset, .unset, .unset, .unset, .unset] [(.long (e1s1 + e2s1))] _
      refine XS.iload X72.here hx rfl (hb hby at_340) rfl ?_
      show own_S p e below T72 m 342 #[iv xk, iv xa, iv xs, iv xv, iv xw, rv a2, iv ff, iv fr, iv t1, iv t2, iv (1 : Int32), iv (own_bi bv), iv (own_bi bw), iv (own_K b0 b1 b2 kf), iv (own_K b0 b1 b2 (own_k1 kf)), rv a18, iv ress1, own_lv cns1, .second, iv vas1, iv vbs1, iv vcs1, iv vds1, iv pos1, iv pas1, iv ers1, .unset, .unset, .unset, .unset, .unset] [(.int ers1), (.long (e1s1 + e2s1))] _
      by_cases hc84 : ers1 = (0 : Int32)
      · refine XS.ifYes X72.here hx rfl (pc0 := 342) (pc' := 351) rfl (hb hby at_342) rfl ((if0 _ _).trans (teq hc84).1) (by decide) (by decide) ?_
        show own_S p e below T72 m 351 #[iv xk, iv xa, iv xs, iv xv, iv xw, rv a2, iv ff, iv fr, iv t1, iv t2, iv (1 : Int32), iv (own_bi bv), iv (own_bi bw), iv (own_K b0 b1 b2 kf), iv (own_K b0 b1 b2 (own_k1 kf)), rv a18, iv ress1, own_lv cns1, .second, iv vas1, iv vbs1, iv vcs1, iv vds1, iv pos1, iv pas1, iv ers1, .unset, .unset, .unset, .unset, .unset] [(.long (e1s1 + e2s1))] _
        refine XS.lconst X72.here hx rfl (hb hby at_351) ?_
        show own_S p e below T72 m 352 #[iv xk, iv xa, iv xs, iv xv, iv xw, rv a2, iv ff, iv fr, iv t1, iv t2, iv (1 : Int32), iv (own_bi bv), iv (own_bi bw), iv (own_K b0 b1 b2 kf), iv (own_K b0 b1 b2 (own_k1 kf)), rv a18, iv ress1, own_lv cns1, .second, iv vas1, iv vbs1, iv vcs1, iv vds1, iv pos1, iv pas1, iv ers1, .unset, .unset, .unset, .unset, .unset] [(.long (0 : Int64)), (.long (e1s1 + e2s1))] _
        rw [show e3s1 = (0 : Int64) from by rw [he3s1, if_pos hc84]] at kt
        exact kt
      · refine XS.ifNo X72.here hx rfl (hb hby at_342) rfl ((if0 _ _).trans (feq hc84).1) ?_
        show own_S p e below T72 m 345 #[iv xk, iv xa, iv xs, iv xv, iv xw, rv a2, iv ff, iv fr, iv t1, iv t2, iv (1 : Int32), iv (own_bi bv), iv (own_bi bw), iv (own_K b0 b1 b2 kf), iv (own_K b0 b1 b2 (own_k1 kf)), rv a18, iv ress1, own_lv cns1, .second, iv vas1, iv vbs1, iv vcs1, iv vds1, iv pos1, iv pas1, iv ers1, .unset, .unset, .unset, .unset, .unset] [(.long (e1s1 + e2s1))] _
        refine X72.ldc2Long hx hown (mvT hZ (hw _ (List.mem_of_getElem? (i := 100) rfl))) (g := (mkF m 345 #[iv xk, iv xa, iv xs, iv xv, iv xw, rv a2, iv ff, iv fr, iv t1, iv t2, iv (1 : Int32), iv (own_bi bv), iv (own_bi bw), iv (own_K b0 b1 b2 kf), iv (own_K b0 b1 b2 (own_k1 kf)), rv a18, iv ress1, own_lv cns1, .second, iv vas1, iv vbs1, iv vcs1, iv vds1, iv pos1, iv pas1, iv ers1, .unset, .unset, .unset, .unset, .unset] [(.long (e1s1 + e2s1))])) rfl (hb hby at_345) _ ?_
        show own_S p e below T72 m 348 #[iv xk, iv xa, iv xs, iv xv, iv xw, rv a2, iv ff, iv fr, iv t1, iv t2, iv (1 : Int32), iv (own_bi bv), iv (own_bi bw), iv (own_K b0 b1 b2 kf), iv (own_K b0 b1 b2 (own_k1 kf)), rv a18, iv ress1, own_lv cns1, .second, iv vas1, iv vbs1, iv vcs1, iv vds1, iv pos1, iv pas1, iv ers1, .unset, .unset, .unset, .unset, .unset] [(.long (2 : Int64)), (.long (e1s1 + e2s1))] _
        refine XS.goto X72.here hx rfl (pc0 := 348) (pc' := 352) rfl (hb hby at_348) (by decide) (by decide) ?_
        show own_S p e below T72 m 352 #[iv xk, iv xa, iv xs, iv xv, iv xw, rv a2, iv ff, iv fr, iv t1, iv t2, iv (1 : Int32), iv (own_bi bv), iv (own_bi bw), iv (own_K b0 b1 b2 kf), iv (own_K b0 b1 b2 (own_k1 kf)), rv a18, iv ress1, own_lv cns1, .second, iv vas1, iv vbs1, iv vcs1, iv vds1, iv pos1, iv pas1, iv ers1, .unset, .unset, .unset, .unset, .unset] [(.long (2 : Int64)), (.long (e1s1 + e2s1))] _
        rw [show e3s1 = (2 : Int64) from by rw [he3s1, if_neg hc84]] at kt
        exact kt
    refine own_st sg85 ?_
    obtain ⟨ecs1, hecs1⟩ : ∃ z : Int64, z = ((e1s1 + e2s1) + e3s1) := ⟨_, rfl⟩
    obtain ⟨x1s1, hx1s1⟩ : ∃ z : Int32, z = (if pas1 = (0 : Int32) then (if ers1 = (0 : Int32) then (if pos1 = (0 : Int32) then (-1 : Int32) else (own_bi bw)) else (own_bi bv)) else (own_bi bw)) := ⟨_, rfl⟩
    have sg89 : own_V p e below T72 (mkF m 400 #[iv xk, iv xa, iv xs, iv xv, iv xw, rv a2, iv ff, iv fr, iv t1, iv t2, iv (1 : Int32), iv (own_bi bv), iv (own_bi bw), iv (own_K b0 b1 b2 kf), iv (own_K b0 b1 b2 (own_k1 kf)), rv a18, iv ress1, own_lv cns1, .second, iv vas1, iv vbs1, iv vcs1, iv vds1, iv pos1, iv pas1, iv ers1, own_lv ecs1, .second, iv x1s1, .unset, .unset] []) (mkF m 352 #[iv xk, iv xa, iv xs, iv xv, iv xw, rv a2, iv ff, iv fr, iv t1, iv t2, iv (1 : Int32), iv (own_bi bv), iv (own_bi bw), iv (own_K b0 b1 b2 kf), iv (own_K b0 b1 b2 (own_k1 kf)), rv a18, iv ress1, own_lv cns1, .second, iv vas1, iv vbs1, iv vcs1, iv vds1, iv pos1, iv pas1, iv ers1, .unset, .unset, .unset, .unset, .unset] [(.long e3s1), (.long (e1s1 + e2s1))]) := by
      intro t kt
      refine XS.ladd X72.here hx rfl (hb hby at_352) rfl ?_
      show own_S p e below T72 m 353 #[iv xk, iv xa, iv xs, iv xv, iv xw, rv a2, iv ff, iv fr, iv t1, iv t2, iv (1 : Int32), iv (own_bi bv), iv (own_bi bw), iv (own_K b0 b1 b2 kf), iv (own_K b0 b1 b2 (own_k1 kf)), rv a18, iv ress1, own_lv cns1, .second, iv vas1, iv vbs1, iv vcs1, iv vds1, iv pos1, iv pas1, iv ers1, .unset, .unset, .unset, .unset, .unset] [(.long ((e1s1 + e2s1) + e3s1))] _
      refine XS.lstore X72.here hx rfl (hb hby at_353) rfl (l' := #[iv xk, iv xa, iv xs, iv xv, iv xw, rv a2, iv ff, iv fr, iv t1, iv t2, iv (1 : Int32), iv (own_bi bv), iv (own_bi bw), iv (own_K b0 b1 b2 kf), iv (own_K b0 b1 b2 (own_k1 kf)), rv a18, iv ress1, own_lv cns1, .second, iv vas1, iv vbs1, iv vcs1, iv vds1, iv pos1, iv pas1, iv ers1, own_lv ((e1s1 + e2s1) + e3s1), .second, .unset, .unset, .unset]) rfl ?_
      show own_S p e below T72 m 355 #[iv xk, iv xa, iv xs, iv xv, iv xw, rv a2, iv ff, iv fr, iv t1, iv t2, iv (1 : Int32), iv (own_bi bv), iv (own_bi bw), iv (own_K b0 b1 b2 kf), iv (own_K b0 b1 b2 (own_k1 kf)), rv a18, iv ress1, own_lv cns1, .second, iv vas1, iv vbs1, iv vcs1, iv vds1, iv pos1, iv pas1, iv ers1, own_lv ((e1s1 + e2s1) + e3s1), .second, .unset, .unset, .unset] [] _
      refine XS.iload X72.here hx rfl (hb hby at_355) rfl ?_
      show own_S p e below T72 m 357 #[iv xk, iv xa, iv xs, iv xv, iv xw, rv a2, iv ff, iv fr, iv t1, iv t2, iv (1 : Int32), iv (own_bi bv), iv (own_bi bw), iv (own_K b0 b1 b2 kf), iv (own_K b0 b1 b2 (own_k1 kf)), rv a18, iv ress1, own_lv cns1, .second, iv vas1, iv vbs1, iv vcs1, iv vds1, iv pos1, iv pas1, iv ers1, own_lv ((e1s1 + e2s1) + e3s1), .second, .unset, .unset, .unset] [(.int pas1)] _
      by_cases hc86 : pas1 = (0 : Int32)
      · refine XS.ifYes X72.here hx rfl (pc0 := 357) (pc' := 367) rfl (hb hby at_357) rfl ((if0 _ _).trans (teq hc86).1) (by decide) (by decide) ?_
        show own_S p e below T72 m 367 #[iv xk, iv xa, iv xs, iv xv, iv xw, rv a2, iv ff, iv fr, iv t1, iv t2, iv (1 : Int32), iv (own_bi bv), iv (own_bi bw), iv (own_K b0 b1 b2 kf), iv (own_K b0 b1 b2 (own_k1 kf)), rv a18, iv ress1, own_lv cns1, .second, iv vas1, iv vbs1, iv vcs1, iv vds1, iv pos1, iv pas1, iv ers1, own_lv ((e1s1 + e2s1) + e3s1), .second, .unset, .unset, .unset] [] _
        refine XS.iload X72.here hx rfl (hb hby at_367) rfl ?_
        show own_S p e below T72 m 369 #[iv xk, iv xa, iv xs, iv xv, iv xw, rv a2, iv ff, iv fr, iv t1, iv t2, iv (1 : Int32), iv (own_bi bv), iv (own_bi bw), iv (own_K b0 b1 b2 kf), iv (own_K b0 b1 b2 (own_k1 kf)), rv a18, iv ress1, own_lv cns1, .second, iv vas1, iv vbs1, iv vcs1, iv vds1, iv pos1, iv pas1, iv ers1, own_lv ((e1s1 + e2s1) + e3s1), .second, .unset, .unset, .unset] [(.int ers1)] _
        by_cases hc87 : ers1 = (0 : Int32)
        · refine XS.ifYes X72.here hx rfl (pc0 := 369) (pc' := 379) rfl (hb hby at_369) rfl ((if0 _ _).trans (teq hc87).1) (by decide) (by decide) ?_
          show own_S p e below T72 m 379 #[iv xk, iv xa, iv xs, iv xv, iv xw, rv a2, iv ff, iv fr, iv t1, iv t2, iv (1 : Int32), iv (own_bi bv), iv (own_bi bw), iv (own_K b0 b1 b2 kf), iv (own_K b0 b1 b2 (own_k1 kf)), rv a18, iv ress1, own_lv cns1, .second, iv vas1, iv vbs1, iv vcs1, iv vds1, iv pos1, iv pas1, iv ers1, own_lv ((e1s1 + e2s1) + e3s1), .second, .unset, .unset, .unset] [] _
          refine XS.iload X72.here hx rfl (hb hby at_379) rfl ?_
          show own_S p e below T72 m 381 #[iv xk, iv xa, iv xs, iv xv, iv xw, rv a2, iv ff, iv fr, iv t1, iv t2, iv (1 : Int32), iv (own_bi bv), iv (own_bi bw), iv (own_K b0 b1 b2 kf), iv (own_K b0 b1 b2 (own_k1 kf)), rv a18, iv ress1, own_lv cns1, .second, iv vas1, iv vbs1, iv vcs1, iv vds1, iv pos1, iv pas1, iv ers1, own_lv ((e1s1 + e2s1) + e3s1), .second, .unset, .unset, .unset] [(.int (1 : Int32))] _
          refine XS.iconst X72.here hx rfl (hb hby at_381) ?_
          show own_S p e below T72 m 382 #[iv xk, iv xa, iv xs, iv xv, iv xw, rv a2, iv ff, iv fr, iv t1, iv t2, iv (1 : Int32), iv (own_bi bv), iv (own_bi bw), iv (own_K b0 b1 b2 kf), iv (own_K b0 b1 b2 (own_k1 kf)), rv a18, iv ress1, own_lv cns1, .second, iv vas1, iv vbs1, iv vcs1, iv vds1, iv pos1, iv pas1, iv ers1, own_lv ((e1s1 + e2s1) + e3s1), .second, .unset, .unset, .unset] [(.int (1 : Int32)), (.int (1 : Int32))] _
          refine XS.icmpNo X72.here hx rfl (hb hby at_382) rfl (teq (by decide : (1 : Int32) = (1 : Int32))).2 ?_
          show own_S p e below T72 m 385 #[iv xk, iv xa, iv xs, iv xv, iv xw, rv a2, iv ff, iv fr, iv t1, iv t2, iv (1 : Int32), iv (own_bi bv), iv (own_bi bw), iv (own_K b0 b1 b2 kf), iv (own_K b0 b1 b2 (own_k1 kf)), rv a18, iv ress1, own_lv cns1, .second, iv vas1, iv vbs1, iv vcs1, iv vds1, iv pos1, iv pas1, iv ers1, own_lv ((e1s1 + e2s1) + e3s1), .second, .unset, .unset, .unset] [] _
          refine XS.iload X72.here hx rfl (hb hby at_385) rfl ?_
          show own_S p e below T72 m 387 #[iv xk, iv xa, iv xs, iv xv, iv xw, rv a2, iv ff, iv fr, iv t1, iv t2, iv (1 : Int32), iv (own_bi bv), iv (own_bi bw), iv (own_K b0 b1 b2 kf), iv (own_K b0 b1 b2 (own_k1 kf)), rv a18, iv ress1, own_lv cns1, .second, iv vas1, iv vbs1, iv vcs1, iv vds1, iv pos1, iv pas1, iv ers1, own_lv ((e1s1 + e2s1) + e3s1), .second, .unset, .unset, .unset] [(.int pos1)] _
          by_cases hc88 : pos1 = (0 : Int32)
          · refine XS.ifYes X72.here hx rfl (pc0 := 387) (pc' := 397) rfl (hb hby at_387) rfl ((if0 _ _).trans (teq hc88).1) (by decide) (by decide) ?_
            show own_S p e below T72 m 397 #[iv xk, iv xa, iv xs, iv xv, iv xw, rv a2, iv ff, iv fr, iv t1, iv t2, iv (1 : Int32), iv (own_bi bv), iv (own_bi bw), iv (own_K b0 b1 b2 kf), iv (own_K b0 b1 b2 (own_k1 kf)), rv a18, iv ress1, own_lv cns1, .second, iv vas1, iv vbs1, iv vcs1, iv vds1, iv pos1, iv pas1, iv ers1, own_lv ((e1s1 + e2s1) + e3s1), .second, .unset, .unset, .unset] [] _
            refine XS.iconst X72.here hx rfl (hb hby at_397) ?_
            show own_S p e below T72 m 398 #[iv xk, iv xa, iv xs, iv xv, iv xw, rv a2, iv ff, iv fr, iv t1, iv t2, iv (1 : Int32), iv (own_bi bv), iv (own_bi bw), iv (own_K b0 b1 b2 kf), iv (own_K b0 b1 b2 (own_k1 kf)), rv a18, iv ress1, own_lv cns1, .second, iv vas1, iv vbs1, iv vcs1, iv vds1, iv pos1, iv pas1, iv ers1, own_lv ((e1s1 + e2s1) + e3s1), .second, .unset, .unset, .unset] [(.int (-1 : Int32))] _
            refine XS.istore X72.here hx rfl (hb hby at_398) rfl (l' := #[iv xk, iv xa, iv xs, iv xv, iv xw, rv a2, iv ff, iv fr, iv t1, iv t2, iv (1 : Int32), iv (own_bi bv), iv (own_bi bw), iv (own_K b0 b1 b2 kf), iv (own_K b0 b1 b2 (own_k1 kf)), rv a18, iv ress1, own_lv cns1, .second, iv vas1, iv vbs1, iv vcs1, iv vds1, iv pos1, iv pas1, iv ers1, own_lv ((e1s1 + e2s1) + e3s1), .second, iv (-1 : Int32), .unset, .unset]) rfl ?_
            show own_S p e below T72 m 400 #[iv xk, iv xa, iv xs, iv xv, iv xw, rv a2, iv ff, iv fr, iv t1, iv t2, iv (1 : Int32), iv (own_bi bv), iv (own_bi bw), iv (own_K b0 b1 b2 kf), iv (own_K b0 b1 b2 (own_k1 kf)), rv a18, iv ress1, own_lv cns1, .second, iv vas1, iv vbs1, iv vcs1, iv vds1, iv pos1, iv pas1, iv ers1, own_lv ((e1s1 + e2s1) + e3s1), .second, iv (-1 : Int32), .unset, .unset] [] _
            rw [hecs1] at kt
            rw [show x1s1 = (-1 : Int32) from by rw [hx1s1, if_pos hc86, if_pos hc87, if_pos hc88]] at kt
            exact kt
          · refine XS.ifNo X72.here hx rfl (hb hby at_387) rfl ((if0 _ _).trans (feq hc88).1) ?_
            show own_S p e below T72 m 390 #[iv xk, iv xa, iv xs, iv xv, iv xw, rv a2, iv ff, iv fr, iv t1, iv t2, iv (1 : Int32), iv (own_bi bv), iv (own_bi bw), iv (own_K b0 b1 b2 kf), iv (own_K b0 b1 b2 (own_k1 kf)), rv a18, iv ress1, own_lv cns1, .second, iv vas1, iv vbs1, iv vcs1, iv vds1, iv pos1, iv pas1, iv ers1, own_lv ((e1s1 + e2s1) + e3s1), .second, .unset, .unset, .unset] [] _
            refine XS.iload X72.here hx rfl (hb hby at_390) rfl ?_
            show own_S p e below T72 m 392 #[iv xk, iv xa, iv xs, iv xv, iv xw, rv a2, iv ff, iv fr, iv t1, iv t2, iv (1 : Int32), iv (own_bi bv), iv (own_bi bw), iv (own_K b0 b1 b2 kf), iv (own_K b0 b1 b2 (own_k1 kf)), rv a18, iv ress1, own_lv cns1, .second, iv vas1, iv vbs1, iv vcs1, iv vds1, iv pos1, iv pas1, iv ers1, own_lv ((e1s1 + e2s1) + e3s1), .second, .unset, .unset, .unset] [(.int (own_bi bw))] _
            refine XS.istore X72.here hx rfl (hb hby at_392) rfl (l' := #[iv xk, iv xa, iv xs, iv xv, iv xw, rv a2, iv ff, iv fr, iv t1, iv t2, iv (1 : Int32), iv (own_bi bv), iv (own_bi bw), iv (own_K b0 b1 b2 kf), iv (own_K b0 b1 b2 (own_k1 kf)), rv a18, iv ress1, own_lv cns1, .second, iv vas1, iv vbs1, iv vcs1, iv vds1, iv pos1, iv pas1, iv ers1, own_lv ((e1s1 + e2s1) + e3s1), .second, iv (own_bi bw), .unset, .unset]) rfl ?_
            show own_S p e below T72 m 394 #[iv xk, iv xa, iv xs, iv xv, iv xw, rv a2, iv ff, iv fr, iv t1, iv t2, iv (1 : Int32), iv (own_bi bv), iv (own_bi bw), iv (own_K b0 b1 b2 kf), iv (own_K b0 b1 b2 (own_k1 kf)), rv a18, iv ress1, own_lv cns1, .second, iv vas1, iv vbs1, iv vcs1, iv vds1, iv pos1, iv pas1, iv ers1, own_lv ((e1s1 + e2s1) + e3s1), .second, iv (own_bi bw), .unset, .unset] [] _
            refine XS.goto X72.here hx rfl (pc0 := 394) (pc' := 400) rfl (hb hby at_394) (by decide) (by decide) ?_
            show own_S p e below T72 m 400 #[iv xk, iv xa, iv xs, iv xv, iv xw, rv a2, iv ff, iv fr, iv t1, iv t2, iv (1 : Int32), iv (own_bi bv), iv (own_bi bw), iv (own_K b0 b1 b2 kf), iv (own_K b0 b1 b2 (own_k1 kf)), rv a18, iv ress1, own_lv cns1, .second, iv vas1, iv vbs1, iv vcs1, iv vds1, iv pos1, iv pas1, iv ers1, own_lv ((e1s1 + e2s1) + e3s1), .second, iv (own_bi bw), .unset, .unset] [] _
            rw [hecs1] at kt
            rw [show x1s1 = (own_bi bw) from by rw [hx1s1, if_pos hc86, if_pos hc87, if_neg hc88]] at kt
            exact kt
        · refine XS.ifNo X72.here hx rfl (hb hby at_369) rfl ((if0 _ _).trans (feq hc87).1) ?_
          show own_S p e below T72 m 372 #[iv xk, iv xa, iv xs, iv xv, iv xw, rv a2, iv ff, iv fr, iv t1, iv t2, iv (1 : Int32), iv (own_bi bv), iv (own_bi bw), iv (own_K b0 b1 b2 kf), iv (own_K b0 b1 b2 (own_k1 kf)), rv a18, iv ress1, own_lv cns1, .second, iv vas1, iv vbs1, iv vcs1, iv vds1, iv pos1, iv pas1, iv ers1, own_lv ((e1s1 + e2s1) + e3s1), .second, .unset, .unset, .unset] [] _
          refine XS.iload X72.here hx rfl (hb hby at_372) rfl ?_
          show own_S p e below T72 m 374 #[iv xk, iv xa, iv xs, iv xv, iv xw, rv a2, iv ff, iv fr, iv t1, iv t2, iv (1 : Int32), iv (own_bi bv), iv (own_bi bw), iv (own_K b0 b1 b2 kf), iv (own_K b0 b1 b2 (own_k1 kf)), rv a18, iv ress1, own_lv cns1, .second, iv vas1, iv vbs1, iv vcs1, iv vds1, iv pos1, iv pas1, iv ers1, own_lv ((e1s1 + e2s1) + e3s1), .second, .unset, .unset, .unset] [(.int (own_bi bv))] _
          refine XS.istore X72.here hx rfl (hb hby at_374) rfl (l' := #[iv xk, iv xa, iv xs, iv xv, iv xw, rv a2, iv ff, iv fr, iv t1, iv t2, iv (1 : Int32), iv (own_bi bv), iv (own_bi bw), iv (own_K b0 b1 b2 kf), iv (own_K b0 b1 b2 (own_k1 kf)), rv a18, iv ress1, own_lv cns1, .second, iv vas1, iv vbs1, iv vcs1, iv vds1, iv pos1, iv pas1, iv ers1, own_lv ((e1s1 + e2s1) + e3s1), .second, iv (own_bi bv), .unset, .unset]) rfl ?_
          show own_S p e below T72 m 376 #[iv xk, iv xa, iv xs, iv xv, iv xw, rv a2, iv ff, iv fr, iv t1, iv t2, iv (1 : Int32), iv (own_bi bv), iv (own_bi bw), iv (own_K b0 b1 b2 kf), iv (own_K b0 b1 b2 (own_k1 kf)), rv a18, iv ress1, own_lv cns1, .second, iv vas1, iv vbs1, iv vcs1, iv vds1, iv pos1, iv pas1, iv ers1, own_lv ((e1s1 + e2s1) + e3s1), .second, iv (own_bi bv), .unset, .unset] [] _
          refine XS.goto X72.here hx rfl (pc0 := 376) (pc' := 400) rfl (hb hby at_376) (by decide) (by decide) ?_
          show own_S p e below T72 m 400 #[iv xk, iv xa, iv xs, iv xv, iv xw, rv a2, iv ff, iv fr, iv t1, iv t2, iv (1 : Int32), iv (own_bi bv), iv (own_bi bw), iv (own_K b0 b1 b2 kf), iv (own_K b0 b1 b2 (own_k1 kf)), rv a18, iv ress1, own_lv cns1, .second, iv vas1, iv vbs1, iv vcs1, iv vds1, iv pos1, iv pas1, iv ers1, own_lv ((e1s1 + e2s1) + e3s1), .second, iv (own_bi bv), .unset, .unset] [] _
          rw [hecs1] at kt
          rw [show x1s1 = (own_bi bv) from by rw [hx1s1, if_pos hc86, if_neg hc87]] at kt
          exact kt
      · refine XS.ifNo X72.here hx rfl (hb hby at_357) rfl ((if0 _ _).trans (feq hc86).1) ?_
        show own_S p e below T72 m 360 #[iv xk, iv xa, iv xs, iv xv, iv xw, rv a2, iv ff, iv fr, iv t1, iv t2, iv (1 : Int32), iv (own_bi bv), iv (own_bi bw), iv (own_K b0 b1 b2 kf), iv (own_K b0 b1 b2 (own_k1 kf)), rv a18, iv ress1, own_lv cns1, .second, iv vas1, iv vbs1, iv vcs1, iv vds1, iv pos1, iv pas1, iv ers1, own_lv ((e1s1 + e2s1) + e3s1), .second, .unset, .unset, .unset] [] _
        refine XS.iload X72.here hx rfl (hb hby at_360) rfl ?_
        show own_S p e below T72 m 362 #[iv xk, iv xa, iv xs, iv xv, iv xw, rv a2, iv ff, iv fr, iv t1, iv t2, iv (1 : Int32), iv (own_bi bv), iv (own_bi bw), iv (own_K b0 b1 b2 kf), iv (own_K b0 b1 b2 (own_k1 kf)), rv a18, iv ress1, own_lv cns1, .second, iv vas1, iv vbs1, iv vcs1, iv vds1, iv pos1, iv pas1, iv ers1, own_lv ((e1s1 + e2s1) + e3s1), .second, .unset, .unset, .unset] [(.int (own_bi bw))] _
        refine XS.istore X72.here hx rfl (hb hby at_362) rfl (l' := #[iv xk, iv xa, iv xs, iv xv, iv xw, rv a2, iv ff, iv fr, iv t1, iv t2, iv (1 : Int32), iv (own_bi bv), iv (own_bi bw), iv (own_K b0 b1 b2 kf), iv (own_K b0 b1 b2 (own_k1 kf)), rv a18, iv ress1, own_lv cns1, .second, iv vas1, iv vbs1, iv vcs1, iv vds1, iv pos1, iv pas1, iv ers1, own_lv ((e1s1 + e2s1) + e3s1), .second, iv (own_bi bw), .unset, .unset]) rfl ?_
        show own_S p e below T72 m 364 #[iv xk, iv xa, iv xs, iv xv, iv xw, rv a2, iv ff, iv fr, iv t1, iv t2, iv (1 : Int32), iv (own_bi bv), iv (own_bi bw), iv (own_K b0 b1 b2 kf), iv (own_K b0 b1 b2 (own_k1 kf)), rv a18, iv ress1, own_lv cns1, .second, iv vas1, iv vbs1, iv vcs1, iv vds1, iv pos1, iv pas1, iv ers1, own_lv ((e1s1 + e2s1) + e3s1), .second, iv (own_bi bw), .unset, .unset] [] _
        refine XS.goto X72.here hx rfl (pc0 := 364) (pc' := 400) rfl (hb hby at_364) (by decide) (by decide) ?_
        show own_S p e below T72 m 400 #[iv xk, iv xa, iv xs, iv xv, iv xw, rv a2, iv ff, iv fr, iv t1, iv t2, iv (1 : Int32), iv (own_bi bv), iv (own_bi bw), iv (own_K b0 b1 b2 kf), iv (own_K b0 b1 b2 (own_k1 kf)), rv a18, iv ress1, own_lv cns1, .second, iv vas1, iv vbs1, iv vcs1, iv vds1, iv pos1, iv pas1, iv ers1, own_lv ((e1s1 + e2s1) + e3s1), .second, iv (own_bi bw), .unset, .unset] [] _
        rw [hecs1] at kt
        rw [show x1s1 = (own_bi bw) from by rw [hx1s1, if_neg hc86]] at kt
        exact kt
    refine own_st sg89 ?_
    obtain ⟨x2s1, hx2s1⟩ : ∃ z : Int32, z = (if pas1 = (0 : Int32) then (if ers1 = (0 : Int32) then (-1 : Int32) else (own_bi bv)) else (own_bi bw)) := ⟨_, rfl⟩
    have sg92 : own_V p e below T72 (mkF m 427 #[iv xk, iv xa, iv xs, iv xv, iv xw, rv a2, iv ff, iv fr, iv t1, iv t2, iv (1 : Int32), iv (own_bi bv), iv (own_bi bw), iv (own_K b0 b1 b2 kf), iv (own_K b0 b1 b2 (own_k1 kf)), rv a18, iv ress1, own_lv cns1, .second, iv vas1, iv vbs1, iv vcs1, iv vds1, iv pos1, iv pas1, iv ers1, own_lv ecs1, .second, iv x1s1, iv x2s1, .unset] []) (mkF m 400 #[iv xk, iv xa, iv xs, iv xv, iv xw, rv a2, iv ff, iv fr, iv t1, iv t2, iv (1 : Int32), iv (own_bi bv), iv (own_bi bw), iv (own_K b0 b1 b2 kf), iv (own_K b0 b1 b2 (own_k1 kf)), rv a18, iv ress1, own_lv cns1, .second, iv vas1, iv vbs1, iv vcs1, iv vds1, iv pos1, iv pas1, iv ers1, own_lv ecs1, .second, iv x1s1, .unset, .unset] []) := by
      intro t kt
      refine XS.iload X72.here hx rfl (hb hby at_400) rfl ?_
      show own_S p e below T72 m 402 #[iv xk, iv xa, iv xs, iv xv, iv xw, rv a2, iv ff, iv fr, iv t1, iv t2, iv (1 : Int32), iv (own_bi bv), iv (own_bi bw), iv (own_K b0 b1 b2 kf), iv (own_K b0 b1 b2 (own_k1 kf)), rv a18, iv ress1, own_lv cns1, .second, iv vas1, iv vbs1, iv vcs1, iv vds1, iv pos1, iv pas1, iv ers1, own_lv ecs1, .second, iv x1s1, .unset, .unset] [(.int pas1)] _
      by_cases hc90 : pas1 = (0 : Int32)
      · refine XS.ifYes X72.here hx rfl (pc0 := 402) (pc' := 412) rfl (hb hby at_402) rfl ((if0 _ _).trans (teq hc90).1) (by decide) (by decide) ?_
        show own_S p e below T72 m 412 #[iv xk, iv xa, iv xs, iv xv, iv xw, rv a2, iv ff, iv fr, iv t1, iv t2, iv (1 : Int32), iv (own_bi bv), iv (own_bi bw), iv (own_K b0 b1 b2 kf), iv (own_K b0 b1 b2 (own_k1 kf)), rv a18, iv ress1, own_lv cns1, .second, iv vas1, iv vbs1, iv vcs1, iv vds1, iv pos1, iv pas1, iv ers1, own_lv ecs1, .second, iv x1s1, .unset, .unset] [] _
        refine XS.iload X72.here hx rfl (hb hby at_412) rfl ?_
        show own_S p e below T72 m 414 #[iv xk, iv xa, iv xs, iv xv, iv xw, rv a2, iv ff, iv fr, iv t1, iv t2, iv (1 : Int32), iv (own_bi bv), iv (own_bi bw), iv (own_K b0 b1 b2 kf), iv (own_K b0 b1 b2 (own_k1 kf)), rv a18, iv ress1, own_lv cns1, .second, iv vas1, iv vbs1, iv vcs1, iv vds1, iv pos1, iv pas1, iv ers1, own_lv ecs1, .second, iv x1s1, .unset, .unset] [(.int ers1)] _
        by_cases hc91 : ers1 = (0 : Int32)
        · refine XS.ifYes X72.here hx rfl (pc0 := 414) (pc' := 424) rfl (hb hby at_414) rfl ((if0 _ _).trans (teq hc91).1) (by decide) (by decide) ?_
          show own_S p e below T72 m 424 #[iv xk, iv xa, iv xs, iv xv, iv xw, rv a2, iv ff, iv fr, iv t1, iv t2, iv (1 : Int32), iv (own_bi bv), iv (own_bi bw), iv (own_K b0 b1 b2 kf), iv (own_K b0 b1 b2 (own_k1 kf)), rv a18, iv ress1, own_lv cns1, .second, iv vas1, iv vbs1, iv vcs1, iv vds1, iv pos1, iv pas1, iv ers1, own_lv ecs1, .second, iv x1s1, .unset, .unset] [] _
          refine XS.iconst X72.here hx rfl (hb hby at_424) ?_
          show own_S p e below T72 m 425 #[iv xk, iv xa, iv xs, iv xv, iv xw, rv a2, iv ff, iv fr, iv t1, iv t2, iv (1 : Int32), iv (own_bi bv), iv (own_bi bw), iv (own_K b0 b1 b2 kf), iv (own_K b0 b1 b2 (own_k1 kf)), rv a18, iv ress1, own_lv cns1, .second, iv vas1, iv vbs1, iv vcs1, iv vds1, iv pos1, iv pas1, iv ers1, own_lv ecs1, .second, iv x1s1, .unset, .unset] [(.int (-1 : Int32))] _
          refine XS.istore X72.here hx rfl (hb hby at_425) rfl (l' := #[iv xk, iv xa, iv xs, iv xv, iv xw, rv a2, iv ff, iv fr, iv t1, iv t2, iv (1 : Int32), iv (own_bi bv), iv (own_bi bw), iv (own_K b0 b1 b2 kf), iv (own_K b0 b1 b2 (own_k1 kf)), rv a18, iv ress1, own_lv cns1, .second, iv vas1, iv vbs1, iv vcs1, iv vds1, iv pos1, iv pas1, iv ers1, own_lv ecs1, .second, iv x1s1, iv (-1 : Int32), .unset]) rfl ?_
          show own_S p e below T72 m 427 #[iv xk, iv xa, iv xs, iv xv, iv xw, rv a2, iv ff, iv fr, iv t1, iv t2, iv (1 : Int32), iv (own_bi bv), iv (own_bi bw), iv (own_K b0 b1 b2 kf), iv (own_K b0 b1 b2 (own_k1 kf)), rv a18, iv ress1, own_lv cns1, .second, iv vas1, iv vbs1, iv vcs1, iv vds1, iv pos1, iv pas1, iv ers1, own_lv ecs1, .second, iv x1s1, iv (-1 : Int32), .unset] [] _
          rw [show x2s1 = (-1 : Int32) from by rw [hx2s1, if_pos hc90, if_pos hc91]] at kt
          exact kt
        · refine XS.ifNo X72.here hx rfl (hb hby at_414) rfl ((if0 _ _).trans (feq hc91).1) ?_
          show own_S p e below T72 m 417 #[iv xk, iv xa, iv xs, iv xv, iv xw, rv a2, iv ff, iv fr, iv t1, iv t2, iv (1 : Int32), iv (own_bi bv), iv (own_bi bw), iv (own_K b0 b1 b2 kf), iv (own_K b0 b1 b2 (own_k1 kf)), rv a18, iv ress1, own_lv cns1, .second, iv vas1, iv vbs1, iv vcs1, iv vds1, iv pos1, iv pas1, iv ers1, own_lv ecs1, .second, iv x1s1, .unset, .unset] [] _
          refine XS.iload X72.here hx rfl (hb hby at_417) rfl ?_
          show own_S p e below T72 m 419 #[iv xk, iv xa, iv xs, iv xv, iv xw, rv a2, iv ff, iv fr, iv t1, iv t2, iv (1 : Int32), iv (own_bi bv), iv (own_bi bw), iv (own_K b0 b1 b2 kf), iv (own_K b0 b1 b2 (own_k1 kf)), rv a18, iv ress1, own_lv cns1, .second, iv vas1, iv vbs1, iv vcs1, iv vds1, iv pos1, iv pas1, iv ers1, own_lv ecs1, .second, iv x1s1, .unset, .unset] [(.int (own_bi bv))] _
          refine XS.istore X72.here hx rfl (hb hby at_419) rfl (l' := #[iv xk, iv xa, iv xs, iv xv, iv xw, rv a2, iv ff, iv fr, iv t1, iv t2, iv (1 : Int32), iv (own_bi bv), iv (own_bi bw), iv (own_K b0 b1 b2 kf), iv (own_K b0 b1 b2 (own_k1 kf)), rv a18, iv ress1, own_lv cns1, .second, iv vas1, iv vbs1, iv vcs1, iv vds1, iv pos1, iv pas1, iv ers1, own_lv ecs1, .second, iv x1s1, iv (own_bi bv), .unset]) rfl ?_
          show own_S p e below T72 m 421 #[iv xk, iv xa, iv xs, iv xv, iv xw, rv a2, iv ff, iv fr, iv t1, iv t2, iv (1 : Int32), iv (own_bi bv), iv (own_bi bw), iv (own_K b0 b1 b2 kf), iv (own_K b0 b1 b2 (own_k1 kf)), rv a18, iv ress1, own_lv cns1, .second, iv vas1, iv vbs1, iv vcs1, iv vds1, iv pos1, iv pas1, iv ers1, own_lv ecs1, .second, iv x1s1, iv (own_bi bv), .unset] [] _
          refine XS.goto X72.here hx rfl (pc0 := 421) (pc' := 427) rfl (hb hby at_421) (by decide) (by decide) ?_
          show own_S p e below T72 m 427 #[iv xk, iv xa, iv xs, iv xv, iv xw, rv a2, iv ff, iv fr, iv t1, iv t2, iv (1 : Int32), iv (own_bi bv), iv (own_bi bw), iv (own_K b0 b1 b2 kf), iv (own_K b0 b1 b2 (own_k1 kf)), rv a18, iv ress1, own_lv cns1, .second, iv vas1, iv vbs1, iv vcs1, iv vds1, iv pos1, iv pas1, iv ers1, own_lv ecs1, .second, iv x1s1, iv (own_bi bv), .unset] [] _
          rw [show x2s1 = (own_bi bv) from by rw [hx2s1, if_pos hc90, if_neg hc91]] at kt
          exact kt
      · refine XS.ifNo X72.here hx rfl (hb hby at_402) rfl ((if0 _ _).trans (feq hc90).1) ?_
        show own_S p e below T72 m 405 #[iv xk, iv xa, iv xs, iv xv, iv xw, rv a2, iv ff, iv fr, iv t1, iv t2, iv (1 : Int32), iv (own_bi bv), iv (own_bi bw), iv (own_K b0 b1 b2 kf), iv (own_K b0 b1 b2 (own_k1 kf)), rv a18, iv ress1, own_lv cns1, .second, iv vas1, iv vbs1, iv vcs1, iv vds1, iv pos1, iv pas1, iv ers1, own_lv ecs1, .second, iv x1s1, .unset, .unset] [] _
        refine XS.iload X72.here hx rfl (hb hby at_405) rfl ?_
        show own_S p e below T72 m 407 #[iv xk, iv xa, iv xs, iv xv, iv xw, rv a2, iv ff, iv fr, iv t1, iv t2, iv (1 : Int32), iv (own_bi bv), iv (own_bi bw), iv (own_K b0 b1 b2 kf), iv (own_K b0 b1 b2 (own_k1 kf)), rv a18, iv ress1, own_lv cns1, .second, iv vas1, iv vbs1, iv vcs1, iv vds1, iv pos1, iv pas1, iv ers1, own_lv ecs1, .second, iv x1s1, .unset, .unset] [(.int (own_bi bw))] _
        refine XS.istore X72.here hx rfl (hb hby at_407) rfl (l' := #[iv xk, iv xa, iv xs, iv xv, iv xw, rv a2, iv ff, iv fr, iv t1, iv t2, iv (1 : Int32), iv (own_bi bv), iv (own_bi bw), iv (own_K b0 b1 b2 kf), iv (own_K b0 b1 b2 (own_k1 kf)), rv a18, iv ress1, own_lv cns1, .second, iv vas1, iv vbs1, iv vcs1, iv vds1, iv pos1, iv pas1, iv ers1, own_lv ecs1, .second, iv x1s1, iv (own_bi bw), .unset]) rfl ?_
        show own_S p e below T72 m 409 #[iv xk, iv xa, iv xs, iv xv, iv xw, rv a2, iv ff, iv fr, iv t1, iv t2, iv (1 : Int32), iv (own_bi bv), iv (own_bi bw), iv (own_K b0 b1 b2 kf), iv (own_K b0 b1 b2 (own_k1 kf)), rv a18, iv ress1, own_lv cns1, .second, iv vas1, iv vbs1, iv vcs1, iv vds1, iv pos1, iv pas1, iv ers1, own_lv ecs1, .second, iv x1s1, iv (own_bi bw), .unset] [] _
        refine XS.goto X72.here hx rfl (pc0 := 409) (pc' := 427) rfl (hb hby at_409) (by decide) (by decide) ?_
        show own_S p e below T72 m 427 #[iv xk, iv xa, iv xs, iv xv, iv xw, rv a2, iv ff, iv fr, iv t1, iv t2, iv (1 : Int32), iv (own_bi bv), iv (own_bi bw), iv (own_K b0 b1 b2 kf), iv (own_K b0 b1 b2 (own_k1 kf)), rv a18, iv ress1, own_lv cns1, .second, iv vas1, iv vbs1, iv vcs1, iv vds1, iv pos1, iv pas1, iv ers1, own_lv ecs1, .second, iv x1s1, iv (own_bi bw), .unset] [] _
        rw [show x2s1 = (own_bi bw) from by rw [hx2s1, if_neg hc90]] at kt
        exact kt
    refine own_st sg92 ?_
    obtain ⟨xbs1, hxbs1⟩ : ∃ z : Int32, z = (-1 : Int32) := ⟨_, rfl⟩
    have sg93 : own_V p e below T72 (mkF m 444 #[iv xk, iv xa, iv xs, iv xv, iv xw, rv a2, iv ff, iv fr, iv t1, iv t2, iv (1 : Int32), iv (own_bi bv), iv (own_bi bw), iv (own_K b0 b1 b2 kf), iv (own_K b0 b1 b2 (own_k1 kf)), rv a18, iv ress1, own_lv cns1, .second, iv vas1, iv vbs1, iv vcs1, iv vds1, iv pos1, iv pas1, iv ers1, own_lv ecs1, .second, iv x1s1, iv x2s1, .unset] [(.int xbs1)]) (mkF m 427 #[iv xk, iv xa, iv xs, iv xv, iv xw, rv a2, iv ff, iv fr, iv t1, iv t2, iv (1 : Int32), iv (own_bi bv), iv (own_bi bw), iv (own_K b0 b1 b2 kf), iv (own_K b0 b1 b2 (own_k1 kf)), rv a18, iv ress1, own_lv cns1, .second, iv vas1, iv vbs1, iv vcs1, iv vds1, iv pos1, iv pas1, iv ers1, own_lv ecs1, .second, iv x1s1, iv x2s1, .unset] []) := by
      intro t kt
      refine XS.iload X72.here hx rfl (hb hby at_427) rfl ?_
      show own_S p e below T72 m 429 #[iv xk, iv xa, iv xs, iv xv, iv xw, rv a2, iv ff, iv fr, iv t1, iv t2, iv (1 : Int32), iv (own_bi bv), iv (own_bi bw), iv (own_K b0 b1 b2 kf), iv (own_K b0 b1 b2 (own_k1 kf)), rv a18, iv ress1, own_lv cns1, .second, iv vas1, iv vbs1, iv vcs1, iv vds1, iv pos1, iv pas1, iv ers1, own_lv ecs1, .second, iv x1s1, iv x2s1, .unset] [(.int (1 : Int32))] _
      refine XS.iconst X72.here hx rfl (hb hby at_429) ?_
      show own_S p e below T72 m 430 #[iv xk, iv xa, iv xs, iv xv, iv xw, rv a2, iv ff, iv fr, iv t1, iv t2, iv (1 : Int32), iv (own_bi bv), iv (own_bi bw), iv (own_K b0 b1 b2 kf), iv (own_K b0 b1 b2 (own_k1 kf)), rv a18, iv ress1, own_lv cns1, .second, iv vas1, iv vbs1, iv vcs1, iv vds1, iv pos1, iv pas1, iv ers1, own_lv ecs1, .second, iv x1s1, iv x2s1, .unset] [(.int (3 : Int32)), (.int (1 : Int32))] _
      refine XS.icmpYes X72.here hx rfl (pc0 := 430) (pc' := 443) rfl (hb hby at_430) rfl (feq (by decide : ¬ (1 : Int32) = (3 : Int32))).2 (by decide) (by decide) ?_
      show own_S p e below T72 m 443 #[iv xk, iv xa, iv xs, iv xv, iv xw, rv a2, iv ff, iv fr, iv t1, iv t2, iv (1 : Int32), iv (own_bi bv), iv (own_bi bw), iv (own_K b0 b1 b2 kf), iv (own_K b0 b1 b2 (own_k1 kf)), rv a18, iv ress1, own_lv cns1, .second, iv vas1, iv vbs1, iv vcs1, iv vds1, iv pos1, iv pas1, iv ers1, own_lv ecs1, .second, iv x1s1, iv x2s1, .unset] [] _
      refine XS.iconst X72.here hx rfl (hb hby at_443) ?_
      show own_S p e below T72 m 444 #[iv xk, iv xa, iv xs, iv xv, iv xw, rv a2, iv ff, iv fr, iv t1, iv t2, iv (1 : Int32), iv (own_bi bv), iv (own_bi bw), iv (own_K b0 b1 b2 kf), iv (own_K b0 b1 b2 (own_k1 kf)), rv a18, iv ress1, own_lv cns1, .second, iv vas1, iv vbs1, iv vcs1, iv vds1, iv pos1, iv pas1, iv ers1, own_lv ecs1, .second, iv x1s1, iv x2s1, .unset] [(.int (-1 : Int32))] _
      rw [hxbs1] at kt
      exact kt
    refine own_st sg93 ?_
    obtain ⟨rrs1, hrrs1⟩ : ∃ z : Int32, z = (if ress1 = ers1 then (if cns1 = ecs1 then (if vas1 = x1s1 then (if vbs1 = x2s1 then (if vcs1 = (-1 : Int32) then (if vds1 = xbs1 then (1 : Int32) else (0 : Int32)) else (0 : Int32)) else (0 : Int32)) else (0 : Int32)) else (0 : Int32)) else (0 : Int32)) := ⟨_, rfl⟩
    have sg100 : own_V p e below T72 (mkF m 493 #[iv xk, iv xa, iv xs, iv xv, iv xw, rv a2, iv ff, iv fr, iv t1, iv t2, iv (1 : Int32), iv (own_bi bv), iv (own_bi bw), iv (own_K b0 b1 b2 kf), iv (own_K b0 b1 b2 (own_k1 kf)), rv a18, iv ress1, own_lv cns1, .second, iv vas1, iv vbs1, iv vcs1, iv vds1, iv pos1, iv pas1, iv ers1, own_lv ecs1, .second, iv x1s1, iv x2s1, iv xbs1] [(.int rrs1)]) (mkF m 444 #[iv xk, iv xa, iv xs, iv xv, iv xw, rv a2, iv ff, iv fr, iv t1, iv t2, iv (1 : Int32), iv (own_bi bv), iv (own_bi bw), iv (own_K b0 b1 b2 kf), iv (own_K b0 b1 b2 (own_k1 kf)), rv a18, iv ress1, own_lv cns1, .second, iv vas1, iv vbs1, iv vcs1, iv vds1, iv pos1, iv pas1, iv ers1, own_lv ecs1, .second, iv x1s1, iv x2s1, .unset] [(.int xbs1)]) := by
      intro t kt
      refine XS.istore X72.here hx rfl (hb hby at_444) rfl (l' := #[iv xk, iv xa, iv xs, iv xv, iv xw, rv a2, iv ff, iv fr, iv t1, iv t2, iv (1 : Int32), iv (own_bi bv), iv (own_bi bw), iv (own_K b0 b1 b2 kf), iv (own_K b0 b1 b2 (own_k1 kf)), rv a18, iv ress1, own_lv cns1, .second, iv vas1, iv vbs1, iv vcs1, iv vds1, iv pos1, iv pas1, iv ers1, own_lv ecs1, .second, iv x1s1, iv x2s1, iv xbs1]) rfl ?_
      show own_S p e below T72 m 446 #[iv xk, iv xa, iv xs, iv xv, iv xw, rv a2, iv ff, iv fr, iv t1, iv t2, iv (1 : Int32), iv (own_bi bv), iv (own_bi bw), iv (own_K b0 b1 b2 kf), iv (own_K b0 b1 b2 (own_k1 kf)), rv a18, iv ress1, own_lv cns1, .second, iv vas1, iv vbs1, iv vcs1, iv vds1, iv pos1, iv pas1, iv ers1, own_lv ecs1, .second, iv x1s1, iv x2s1, iv xbs1] [] _
      refine XS.iload X72.here hx rfl (hb hby at_446) rfl ?_
      show own_S p e below T72 m 448 #[iv xk, iv xa, iv xs, iv xv, iv xw, rv a2, iv ff, iv fr, iv t1, iv t2, iv (1 : Int32), iv (own_bi bv), iv (own_bi bw), iv (own_K b0 b1 b2 kf), iv (own_K b0 b1 b2 (own_k1 kf)), rv a18, iv ress1, own_lv cns1, .second, iv vas1, iv vbs1, iv vcs1, iv vds1, iv pos1, iv pas1, iv ers1, own_lv ecs1, .second, iv x1s1, iv x2s1, iv xbs1] [(.int ress1)] _
      refine XS.iload X72.here hx rfl (hb hby at_448) rfl ?_
      show own_S p e below T72 m 450 #[iv xk, iv xa, iv xs, iv xv, iv xw, rv a2, iv ff, iv fr, iv t1, iv t2, iv (1 : Int32), iv (own_bi bv), iv (own_bi bw), iv (own_K b0 b1 b2 kf), iv (own_K b0 b1 b2 (own_k1 kf)), rv a18, iv ress1, own_lv cns1, .second, iv vas1, iv vbs1, iv vcs1, iv vds1, iv pos1, iv pas1, iv ers1, own_lv ecs1, .second, iv x1s1, iv x2s1, iv xbs1] [(.int ers1), (.int ress1)] _
      by_cases hc94 : ress1 = ers1
      · refine XS.icmpNo X72.here hx rfl (hb hby at_450) rfl (teq hc94).2 ?_
        show own_S p e below T72 m 453 #[iv xk, iv xa, iv xs, iv xv, iv xw, rv a2, iv ff, iv fr, iv t1, iv t2, iv (1 : Int32), iv (own_bi bv), iv (own_bi bw), iv (own_K b0 b1 b2 kf), iv (own_K b0 b1 b2 (own_k1 kf)), rv a18, iv ress1, own_lv cns1, .second, iv vas1, iv vbs1, iv vcs1, iv vds1, iv pos1, iv pas1, iv ers1, own_lv ecs1, .second, iv x1s1, iv x2s1, iv xbs1] [] _
        refine XS.lload X72.here hx rfl (hb hby at_453) rfl ?_
        show own_S p e below T72 m 455 #[iv xk, iv xa, iv xs, iv xv, iv xw, rv a2, iv ff, iv fr, iv t1, iv t2, iv (1 : Int32), iv (own_bi bv), iv (own_bi bw), iv (own_K b0 b1 b2 kf), iv (own_K b0 b1 b2 (own_k1 kf)), rv a18, iv ress1, own_lv cns1, .second, iv vas1, iv vbs1, iv vcs1, iv vds1, iv pos1, iv pas1, iv ers1, own_lv ecs1, .second, iv x1s1, iv x2s1, iv xbs1] [(.long cns1)] _
        refine XS.lload X72.here hx rfl (hb hby at_455) rfl ?_
        show own_S p e below T72 m 457 #[iv xk, iv xa, iv xs, iv xv, iv xw, rv a2, iv ff, iv fr, iv t1, iv t2, iv (1 : Int32), iv (own_bi bv), iv (own_bi bw), iv (own_K b0 b1 b2 kf), iv (own_K b0 b1 b2 (own_k1 kf)), rv a18, iv ress1, own_lv cns1, .second, iv vas1, iv vbs1, iv vcs1, iv vds1, iv pos1, iv pas1, iv ers1, own_lv ecs1, .second, iv x1s1, iv x2s1, iv xbs1] [(.long ecs1), (.long cns1)] _
        refine XS.lcmp X72.here hx rfl (hb hby at_457) rfl ?_
        show own_S p e below T72 m 458 #[iv xk, iv xa, iv xs, iv xv, iv xw, rv a2, iv ff, iv fr, iv t1, iv t2, iv (1 : Int32), iv (own_bi bv), iv (own_bi bw), iv (own_K b0 b1 b2 kf), iv (own_K b0 b1 b2 (own_k1 kf)), rv a18, iv ress1, own_lv cns1, .second, iv vas1, iv vbs1, iv vcs1, iv vds1, iv pos1, iv pas1, iv ers1, own_lv ecs1, .second, iv x1s1, iv x2s1, iv xbs1] [(.int (lcmpW cns1 ecs1))] _
        by_cases hc95 : cns1 = ecs1
        · refine XS.ifNo X72.here hx rfl (hb hby at_458) rfl (own_teqL hc95).2 ?_
          show own_S p e below T72 m 461 #[iv xk, iv xa, iv xs, iv xv, iv xw, rv a2, iv ff, iv fr, iv t1, iv t2, iv (1 : Int32), iv (own_bi bv), iv (own_bi bw), iv (own_K b0 b1 b2 kf), iv (own_K b0 b1 b2 (own_k1 kf)), rv a18, iv ress1, own_lv cns1, .second, iv vas1, iv vbs1, iv vcs1, iv vds1, iv pos1, iv pas1, iv ers1, own_lv ecs1, .second, iv x1s1, iv x2s1, iv xbs1] [] _
          refine XS.iload X72.here hx rfl (hb hby at_461) rfl ?_
          show own_S p e below T72 m 463 #[iv xk, iv xa, iv xs, iv xv, iv xw, rv a2, iv ff, iv fr, iv t1, iv t2, iv (1 : Int32), iv (own_bi bv), iv (own_bi bw), iv (own_K b0 b1 b2 kf), iv (own_K b0 b1 b2 (own_k1 kf)), rv a18, iv ress1, own_lv cns1, .second, iv vas1, iv vbs1, iv vcs1, iv vds1, iv pos1, iv pas1, iv ers1, own_lv ecs1, .second, iv x1s1, iv x2s1, iv xbs1] [(.int vas1)] _
          refine XS.iload X72.here hx rfl (hb hby at_463) rfl ?_
          show own_S p e below T72 m 465 #[iv xk, iv xa, iv xs, iv xv, iv xw, rv a2, iv ff, iv fr, iv t1, iv t2, iv (1 : Int32), iv (own_bi bv), iv (own_bi bw), iv (own_K b0 b1 b2 kf), iv (own_K b0 b1 b2 (own_k1 kf)), rv a18, iv ress1, own_lv cns1, .second, iv vas1, iv vbs1, iv vcs1, iv vds1, iv pos1, iv pas1, iv ers1, own_lv ecs1, .second, iv x1s1, iv x2s1, iv xbs1] [(.int x1s1), (.int vas1)] _
          by_cases hc96 : vas1 = x1s1
          · refine XS.icmpNo X72.here hx rfl (hb hby at_465) rfl (teq hc96).2 ?_
            show own_S p e below T72 m 468 #[iv xk, iv xa, iv xs, iv xv, iv xw, rv a2, iv ff, iv fr, iv t1, iv t2, iv (1 : Int32), iv (own_bi bv), iv (own_bi bw), iv (own_K b0 b1 b2 kf), iv (own_K b0 b1 b2 (own_k1 kf)), rv a18, iv ress1, own_lv cns1, .second, iv vas1, iv vbs1, iv vcs1, iv vds1, iv pos1, iv pas1, iv ers1, own_lv ecs1, .second, iv x1s1, iv x2s1, iv xbs1] [] _
            refine XS.iload X72.here hx rfl (hb hby at_468) rfl ?_
            show own_S p e below T72 m 470 #[iv xk, iv xa, iv xs, iv xv, iv xw, rv a2, iv ff, iv fr, iv t1, iv t2, iv (1 : Int32), iv (own_bi bv), iv (own_bi bw), iv (own_K b0 b1 b2 kf), iv (own_K b0 b1 b2 (own_k1 kf)), rv a18, iv ress1, own_lv cns1, .second, iv vas1, iv vbs1, iv vcs1, iv vds1, iv pos1, iv pas1, iv ers1, own_lv ecs1, .second, iv x1s1, iv x2s1, iv xbs1] [(.int vbs1)] _
            refine XS.iload X72.here hx rfl (hb hby at_470) rfl ?_
            show own_S p e below T72 m 472 #[iv xk, iv xa, iv xs, iv xv, iv xw, rv a2, iv ff, iv fr, iv t1, iv t2, iv (1 : Int32), iv (own_bi bv), iv (own_bi bw), iv (own_K b0 b1 b2 kf), iv (own_K b0 b1 b2 (own_k1 kf)), rv a18, iv ress1, own_lv cns1, .second, iv vas1, iv vbs1, iv vcs1, iv vds1, iv pos1, iv pas1, iv ers1, own_lv ecs1, .second, iv x1s1, iv x2s1, iv xbs1] [(.int x2s1), (.int vbs1)] _
            by_cases hc97 : vbs1 = x2s1
            · refine XS.icmpNo X72.here hx rfl (hb hby at_472) rfl (teq hc97).2 ?_
              show own_S p e below T72 m 475 #[iv xk, iv xa, iv xs, iv xv, iv xw, rv a2, iv ff, iv fr, iv t1, iv t2, iv (1 : Int32), iv (own_bi bv), iv (own_bi bw), iv (own_K b0 b1 b2 kf), iv (own_K b0 b1 b2 (own_k1 kf)), rv a18, iv ress1, own_lv cns1, .second, iv vas1, iv vbs1, iv vcs1, iv vds1, iv pos1, iv pas1, iv ers1, own_lv ecs1, .second, iv x1s1, iv x2s1, iv xbs1] [] _
              refine XS.iload X72.here hx rfl (hb hby at_475) rfl ?_
              show own_S p e below T72 m 477 #[iv xk, iv xa, iv xs, iv xv, iv xw, rv a2, iv ff, iv fr, iv t1, iv t2, iv (1 : Int32), iv (own_bi bv), iv (own_bi bw), iv (own_K b0 b1 b2 kf), iv (own_K b0 b1 b2 (own_k1 kf)), rv a18, iv ress1, own_lv cns1, .second, iv vas1, iv vbs1, iv vcs1, iv vds1, iv pos1, iv pas1, iv ers1, own_lv ecs1, .second, iv x1s1, iv x2s1, iv xbs1] [(.int vcs1)] _
              refine XS.iconst X72.here hx rfl (hb hby at_477) ?_
              show own_S p e below T72 m 478 #[iv xk, iv xa, iv xs, iv xv, iv xw, rv a2, iv ff, iv fr, iv t1, iv t2, iv (1 : Int32), iv (own_bi bv), iv (own_bi bw), iv (own_K b0 b1 b2 kf), iv (own_K b0 b1 b2 (own_k1 kf)), rv a18, iv ress1, own_lv cns1, .second, iv vas1, iv vbs1, iv vcs1, iv vds1, iv pos1, iv pas1, iv ers1, own_lv ecs1, .second, iv x1s1, iv x2s1, iv xbs1] [(.int (-1 : Int32)), (.int vcs1)] _
              by_cases hc98 : vcs1 = (-1 : Int32)
              · refine XS.icmpNo X72.here hx rfl (hb hby at_478) rfl (teq hc98).2 ?_
                show own_S p e below T72 m 481 #[iv xk, iv xa, iv xs, iv xv, iv xw, rv a2, iv ff, iv fr, iv t1, iv t2, iv (1 : Int32), iv (own_bi bv), iv (own_bi bw), iv (own_K b0 b1 b2 kf), iv (own_K b0 b1 b2 (own_k1 kf)), rv a18, iv ress1, own_lv cns1, .second, iv vas1, iv vbs1, iv vcs1, iv vds1, iv pos1, iv pas1, iv ers1, own_lv ecs1, .second, iv x1s1, iv x2s1, iv xbs1] [] _
                refine XS.iload X72.here hx rfl (hb hby at_481) rfl ?_
                show own_S p e below T72 m 483 #[iv xk, iv xa, iv xs, iv xv, iv xw, rv a2, iv ff, iv fr, iv t1, iv t2, iv (1 : Int32), iv (own_bi bv), iv (own_bi bw), iv (own_K b0 b1 b2 kf), iv (own_K b0 b1 b2 (own_k1 kf)), rv a18, iv ress1, own_lv cns1, .second, iv vas1, iv vbs1, iv vcs1, iv vds1, iv pos1, iv pas1, iv ers1, own_lv ecs1, .second, iv x1s1, iv x2s1, iv xbs1] [(.int vds1)] _
                refine XS.iload X72.here hx rfl (hb hby at_483) rfl ?_
                show own_S p e below T72 m 485 #[iv xk, iv xa, iv xs, iv xv, iv xw, rv a2, iv ff, iv fr, iv t1, iv t2, iv (1 : Int32), iv (own_bi bv), iv (own_bi bw), iv (own_K b0 b1 b2 kf), iv (own_K b0 b1 b2 (own_k1 kf)), rv a18, iv ress1, own_lv cns1, .second, iv vas1, iv vbs1, iv vcs1, iv vds1, iv pos1, iv pas1, iv ers1, own_lv ecs1, .second, iv x1s1, iv x2s1, iv xbs1] [(.int xbs1), (.int vds1)] _
                by_cases hc99 : vds1 = xbs1
                · refine XS.icmpNo X72.here hx rfl (hb hby at_485) rfl (teq hc99).2 ?_
                  show own_S p e below T72 m 488 #[iv xk, iv xa, iv xs, iv xv, iv xw, rv a2, iv ff, iv fr, iv t1, iv t2, iv (1 : Int32), iv (own_bi bv), iv (own_bi bw), iv (own_K b0 b1 b2 kf), iv (own_K b0 b1 b2 (own_k1 kf)), rv a18, iv ress1, own_lv cns1, .second, iv vas1, iv vbs1, iv vcs1, iv vds1, iv pos1, iv pas1, iv ers1, own_lv ecs1, .second, iv x1s1, iv x2s1, iv xbs1] [] _
                  refine XS.iconst X72.here hx rfl (hb hby at_488) ?_
                  show own_S p e below T72 m 489 #[iv xk, iv xa, iv xs, iv xv, iv xw, rv a2, iv ff, iv fr, iv t1, iv t2, iv (1 : Int32), iv (own_bi bv), iv (own_bi bw), iv (own_K b0 b1 b2 kf), iv (own_K b0 b1 b2 (own_k1 kf)), rv a18, iv ress1, own_lv cns1, .second, iv vas1, iv vbs1, iv vcs1, iv vds1, iv pos1, iv pas1, iv ers1, own_lv ecs1, .second, iv x1s1, iv x2s1, iv xbs1] [(.int (1 : Int32))] _
                  refine XS.goto X72.here hx rfl (pc0 := 489) (pc' := 493) rfl (hb hby at_489) (by decide) (by decide) ?_
                  show own_S p e below T72 m 493 #[iv xk, iv xa, iv xs, iv xv, iv xw, rv a2, iv ff, iv fr, iv t1, iv t2, iv (1 : Int32), iv (own_bi bv), iv (own_bi bw), iv (own_K b0 b1 b2 kf), iv (own_K b0 b1 b2 (own_k1 kf)), rv a18, iv ress1, own_lv cns1, .second, iv vas1, iv vbs1, iv vcs1, iv vds1, iv pos1, iv pas1, iv ers1, own_lv ecs1, .second, iv x1s1, iv x2s1, iv xbs1] [(.int (1 : Int32))] _
                  rw [show rrs1 = (1 : Int32) from by rw [hrrs1, if_pos hc94, if_pos hc95, if_pos hc96, if_pos hc97, if_pos hc98, if_pos hc99]] at kt
                  exact kt
                · refine XS.icmpYes X72.here hx rfl (pc0 := 485) (pc' := 492) rfl (hb hby at_485) rfl (feq hc99).2 (by decide) (by decide) ?_
                  show own_S p e below T72 m 492 #[iv xk, iv xa, iv xs, iv xv, iv xw, rv a2, iv ff, iv fr, iv t1, iv t2, iv (1 : Int32), iv (own_bi bv), iv (own_bi bw), iv (own_K b0 b1 b2 kf), iv (own_K b0 b1 b2 (own_k1 kf)), rv a18, iv ress1, own_lv cns1, .second, iv vas1, iv vbs1, iv vcs1, iv vds1, iv pos1, iv pas1, iv ers1, own_lv ecs1, .second, iv x1s1, iv x2s1, iv xbs1] [] _
                  refine XS.iconst X72.here hx rfl (hb hby at_492) ?_
                  show own_S p e below T72 m 493 #[iv xk, iv xa, iv xs, iv xv, iv xw, rv a2, iv ff, iv fr, iv t1, iv t2, iv (1 : Int32), iv (own_bi bv), iv (own_bi bw), iv (own_K b0 b1 b2 kf), iv (own_K b0 b1 b2 (own_k1 kf)), rv a18, iv ress1, own_lv cns1, .second, iv vas1, iv vbs1, iv vcs1, iv vds1, iv pos1, iv pas1, iv ers1, own_lv ecs1, .second, iv x1s1, iv x2s1, iv xbs1] [(.int (0 : Int32))] _
                  rw [show rrs1 = (0 : Int32) from by rw [hrrs1, if_pos hc94, if_pos hc95, if_pos hc96, if_pos hc97, if_pos hc98, if_neg hc99]] at kt
                  exact kt
              · refine XS.icmpYes X72.here hx rfl (pc0 := 478) (pc' := 492) rfl (hb hby at_478) rfl (feq hc98).2 (by decide) (by decide) ?_
                show own_S p e below T72 m 492 #[iv xk, iv xa, iv xs, iv xv, iv xw, rv a2, iv ff, iv fr, iv t1, iv t2, iv (1 : Int32), iv (own_bi bv), iv (own_bi bw), iv (own_K b0 b1 b2 kf), iv (own_K b0 b1 b2 (own_k1 kf)), rv a18, iv ress1, own_lv cns1, .second, iv vas1, iv vbs1, iv vcs1, iv vds1, iv pos1, iv pas1, iv ers1, own_lv ecs1, .second, iv x1s1, iv x2s1, iv xbs1] [] _
                refine XS.iconst X72.here hx rfl (hb hby at_492) ?_
                show own_S p e below T72 m 493 #[iv xk, iv xa, iv xs, iv xv, iv xw, rv a2, iv ff, iv fr, iv t1, iv t2, iv (1 : Int32), iv (own_bi bv), iv (own_bi bw), iv (own_K b0 b1 b2 kf), iv (own_K b0 b1 b2 (own_k1 kf)), rv a18, iv ress1, own_lv cns1, .second, iv vas1, iv vbs1, iv vcs1, iv vds1, iv pos1, iv pas1, iv ers1, own_lv ecs1, .second, iv x1s1, iv x2s1, iv xbs1] [(.int (0 : Int32))] _
                rw [show rrs1 = (0 : Int32) from by rw [hrrs1, if_pos hc94, if_pos hc95, if_pos hc96, if_pos hc97, if_neg hc98]] at kt
                exact kt
            · refine XS.icmpYes X72.here hx rfl (pc0 := 472) (pc' := 492) rfl (hb hby at_472) rfl (feq hc97).2 (by decide) (by decide) ?_
              show own_S p e below T72 m 492 #[iv xk, iv xa, iv xs, iv xv, iv xw, rv a2, iv ff, iv fr, iv t1, iv t2, iv (1 : Int32), iv (own_bi bv), iv (own_bi bw), iv (own_K b0 b1 b2 kf), iv (own_K b0 b1 b2 (own_k1 kf)), rv a18, iv ress1, own_lv cns1, .second, iv vas1, iv vbs1, iv vcs1, iv vds1, iv pos1, iv pas1, iv ers1, own_lv ecs1, .second, iv x1s1, iv x2s1, iv xbs1] [] _
              refine XS.iconst X72.here hx rfl (hb hby at_492) ?_
              show own_S p e below T72 m 493 #[iv xk, iv xa, iv xs, iv xv, iv xw, rv a2, iv ff, iv fr, iv t1, iv t2, iv (1 : Int32), iv (own_bi bv), iv (own_bi bw), iv (own_K b0 b1 b2 kf), iv (own_K b0 b1 b2 (own_k1 kf)), rv a18, iv ress1, own_lv cns1, .second, iv vas1, iv vbs1, iv vcs1, iv vds1, iv pos1, iv pas1, iv ers1, own_lv ecs1, .second, iv x1s1, iv x2s1, iv xbs1] [(.int (0 : Int32))] _
              rw [show rrs1 = (0 : Int32) from by rw [hrrs1, if_pos hc94, if_pos hc95, if_pos hc96, if_neg hc97]] at kt
              exact kt
          · refine XS.icmpYes X72.here hx rfl (pc0 := 465) (pc' := 492) rfl (hb hby at_465) rfl (feq hc96).2 (by decide) (by decide) ?_
            show own_S p e below T72 m 492 #[iv xk, iv xa, iv xs, iv xv, iv xw, rv a2, iv ff, iv fr, iv t1, iv t2, iv (1 : Int32), iv (own_bi bv), iv (own_bi bw), iv (own_K b0 b1 b2 kf), iv (own_K b0 b1 b2 (own_k1 kf)), rv a18, iv ress1, own_lv cns1, .second, iv vas1, iv vbs1, iv vcs1, iv vds1, iv pos1, iv pas1, iv ers1, own_lv ecs1, .second, iv x1s1, iv x2s1, iv xbs1] [] _
            refine XS.iconst X72.here hx rfl (hb hby at_492) ?_
            show own_S p e below T72 m 493 #[iv xk, iv xa, iv xs, iv xv, iv xw, rv a2, iv ff, iv fr, iv t1, iv t2, iv (1 : Int32), iv (own_bi bv), iv (own_bi bw), iv (own_K b0 b1 b2 kf), iv (own_K b0 b1 b2 (own_k1 kf)), rv a18, iv ress1, own_lv cns1, .second, iv vas1, iv vbs1, iv vcs1, iv vds1, iv pos1, iv pas1, iv ers1, own_lv ecs1, .second, iv x1s1, iv x2s1, iv xbs1] [(.int (0 : Int32))] _
            rw [show rrs1 = (0 : Int32) from by rw [hrrs1, if_pos hc94, if_pos hc95, if_neg hc96]] at kt
            exact kt
        · refine XS.ifYes X72.here hx rfl (pc0 := 458) (pc' := 492) rfl (hb hby at_458) rfl (own_feqL hc95).2 (by decide) (by decide) ?_
          show own_S p e below T72 m 492 #[iv xk, iv xa, iv xs, iv xv, iv xw, rv a2, iv ff, iv fr, iv t1, iv t2, iv (1 : Int32), iv (own_bi bv), iv (own_bi bw), iv (own_K b0 b1 b2 kf), iv (own_K b0 b1 b2 (own_k1 kf)), rv a18, iv ress1, own_lv cns1, .second, iv vas1, iv vbs1, iv vcs1, iv vds1, iv pos1, iv pas1, iv ers1, own_lv ecs1, .second, iv x1s1, iv x2s1, iv xbs1] [] _
          refine XS.iconst X72.here hx rfl (hb hby at_492) ?_
          show own_S p e below T72 m 493 #[iv xk, iv xa, iv xs, iv xv, iv xw, rv a2, iv ff, iv fr, iv t1, iv t2, iv (1 : Int32), iv (own_bi bv), iv (own_bi bw), iv (own_K b0 b1 b2 kf), iv (own_K b0 b1 b2 (own_k1 kf)), rv a18, iv ress1, own_lv cns1, .second, iv vas1, iv vbs1, iv vcs1, iv vds1, iv pos1, iv pas1, iv ers1, own_lv ecs1, .second, iv x1s1, iv x2s1, iv xbs1] [(.int (0 : Int32))] _
          rw [show rrs1 = (0 : Int32) from by rw [hrrs1, if_pos hc94, if_neg hc95]] at kt
          exact kt
      · refine XS.icmpYes X72.here hx rfl (pc0 := 450) (pc' := 492) rfl (hb hby at_450) rfl (feq hc94).2 (by decide) (by decide) ?_
        show own_S p e below T72 m 492 #[iv xk, iv xa, iv xs, iv xv, iv xw, rv a2, iv ff, iv fr, iv t1, iv t2, iv (1 : Int32), iv (own_bi bv), iv (own_bi bw), iv (own_K b0 b1 b2 kf), iv (own_K b0 b1 b2 (own_k1 kf)), rv a18, iv ress1, own_lv cns1, .second, iv vas1, iv vbs1, iv vcs1, iv vds1, iv pos1, iv pas1, iv ers1, own_lv ecs1, .second, iv x1s1, iv x2s1, iv xbs1] [] _
        refine XS.iconst X72.here hx rfl (hb hby at_492) ?_
        show own_S p e below T72 m 493 #[iv xk, iv xa, iv xs, iv xv, iv xw, rv a2, iv ff, iv fr, iv t1, iv t2, iv (1 : Int32), iv (own_bi bv), iv (own_bi bw), iv (own_K b0 b1 b2 kf), iv (own_K b0 b1 b2 (own_k1 kf)), rv a18, iv ress1, own_lv cns1, .second, iv vas1, iv vbs1, iv vcs1, iv vds1, iv pos1, iv pas1, iv ers1, own_lv ecs1, .second, iv x1s1, iv x2s1, iv xbs1] [(.int (0 : Int32))] _
        rw [show rrs1 = (0 : Int32) from by rw [hrrs1, if_neg hc94]] at kt
        exact kt
    refine own_st sg100 ?_
    have hone : rrs1 = 1 := by
      have hd : rrs1 = own_f_rrs1 b0 b1 b2 kf bv bw := by subst hrrs1 hxbs1 hx2s1 hx1s1 hecs1 he3s1 he2s1 he1s1 hers1 hpas1 hpos1 hvds1 hvcs1 hvbs1 hvas1 hcns1 hress1; rfl
      rw [hd]; exact own_fins1 b0 b1 b2 ⟨kf, hf3⟩ bv bw
    rw [hone]
    show own_Go p e below _ T72 (mkF m 493 #[iv xk, iv xa, iv xs, iv xv, iv xw, rv a2, iv ff, iv fr, iv t1, iv t2, iv (1 : Int32), iv (own_bi bv), iv (own_bi bw), iv (own_K b0 b1 b2 kf), iv (own_K b0 b1 b2 (own_k1 kf)), rv a18, iv ress1, own_lv cns1, .second, iv vas1, iv vbs1, iv vcs1, iv vds1, iv pos1, iv pas1, iv ers1, own_lv ecs1, .second, iv x1s1, iv x2s1, iv xbs1] [(.int (1 : Int32))])
    exact own_retZ X72 hx Bd.notSynchronized Bd.returns (hb hby at_493) (by decide) (by decide) (by decide) e72 ⟨rfl, N72⟩
  · skip
    rw [hs4]
    show own_Go p e below _ T20 (mkF m 127 #[iv xk, iv xa, iv xs, iv xv, iv xw, rv a2, iv ff, iv fr, iv t1, iv t2, iv (2 : Int32), iv (own_bi bv), iv (own_bi bw), iv (own_K b0 b1 b2 kf), iv (own_K b0 b1 b2 (own_k1 kf)), rv a18, .unset, .unset, .unset, .unset, .unset, .unset, .unset, .unset, .unset, .unset, .unset, .unset, .unset, .unset, .unset] [])
    have sg101 : own_V p e below T20 (mkF m 160 #[iv xk, iv xa, iv xs, iv xv, iv xw, rv a2, iv ff, iv fr, iv t1, iv t2, iv (2 : Int32), iv (own_bi bv), iv (own_bi bw), iv (own_K b0 b1 b2 kf), iv (own_K b0 b1 b2 (own_k1 kf)), rv a18, .unset, .unset, .unset, .unset, .unset, .unset, .unset, .unset, .unset, .unset, .unset, .unset, .unset, .unset, .unset] [(.int (own_bi bw)), (.int fr), (.ref a18)]) (mkF m 127 #[iv xk, iv xa, iv xs, iv xv, iv xw, rv a2, iv ff, iv fr, iv t1, iv t2, iv (2 : Int32), iv (own_bi bv), iv (own_bi bw), iv (own_K b0 b1 b2 kf), iv (own_K b0 b1 b2 (own_k1 kf)), rv a18, .unset, .unset, .unset, .unset, .unset, .unset, .unset, .unset, .unset, .unset, .unset, .unset, .unset, .unset, .unset] []) := by
      intro t kt
      refine XS.iload X20.here hx rfl (hb hby at_127) rfl ?_
      show own_S p e below T20 m 129 #[iv xk, iv xa, iv xs, iv xv, iv xw, rv a2, iv ff, iv fr, iv t1, iv t2, iv (2 : Int32), iv (own_bi bv), iv (own_bi bw), iv (own_K b0 b1 b2 kf), iv (own_K b0 b1 b2 (own_k1 kf)), rv a18, .unset, .unset, .unset, .unset, .unset, .unset, .unset, .unset, .unset, .unset, .unset, .unset, .unset, .unset, .unset] [(.int (2 : Int32))] _
      refine XS.iconst X20.here hx rfl (hb hby at_129) ?_
      show own_S p e below T20 m 130 #[iv xk, iv xa, iv xs, iv xv, iv xw, rv a2, iv ff, iv fr, iv t1, iv t2, iv (2 : Int32), iv (own_bi bv), iv (own_bi bw), iv (own_K b0 b1 b2 kf), iv (own_K b0 b1 b2 (own_k1 kf)), rv a18, .unset, .unset, .unset, .unset, .unset, .unset, .unset, .unset, .unset, .unset, .unset, .unset, .unset, .unset, .unset] [(.int (1 : Int32)), (.int (2 : Int32))] _
      refine XS.icmpYes X20.here hx rfl (pc0 := 130) (pc' := 148) rfl (hb hby at_130) rfl (feq (by decide : ¬ (2 : Int32) = (1 : Int32))).2 (by decide) (by decide) ?_
      show own_S p e below T20 m 148 #[iv xk, iv xa, iv xs, iv xv, iv xw, rv a2, iv ff, iv fr, iv t1, iv t2, iv (2 : Int32), iv (own_bi bv), iv (own_bi bw), iv (own_K b0 b1 b2 kf), iv (own_K b0 b1 b2 (own_k1 kf)), rv a18, .unset, .unset, .unset, .unset, .unset, .unset, .unset, .unset, .unset, .unset, .unset, .unset, .unset, .unset, .unset] [] _
      refine XS.iload X20.here hx rfl (hb hby at_148) rfl ?_
      show own_S p e below T20 m 150 #[iv xk, iv xa, iv xs, iv xv, iv xw, rv a2, iv ff, iv fr, iv t1, iv t2, iv (2 : Int32), iv (own_bi bv), iv (own_bi bw), iv (own_K b0 b1 b2 kf), iv (own_K b0 b1 b2 (own_k1 kf)), rv a18, .unset, .unset, .unset, .unset, .unset, .unset, .unset, .unset, .unset, .unset, .unset, .unset, .unset, .unset, .unset] [(.int (2 : Int32))] _
      refine XS.iconst X20.here hx rfl (hb hby at_150) ?_
      show own_S p e below T20 m 151 #[iv xk, iv xa, iv xs, iv xv, iv xw, rv a2, iv ff, iv fr, iv t1, iv t2, iv (2 : Int32), iv (own_bi bv), iv (own_bi bw), iv (own_K b0 b1 b2 kf), iv (own_K b0 b1 b2 (own_k1 kf)), rv a18, .unset, .unset, .unset, .unset, .unset, .unset, .unset, .unset, .unset, .unset, .unset, .unset, .unset, .unset, .unset] [(.int (2 : Int32)), (.int (2 : Int32))] _
      refine XS.icmpNo X20.here hx rfl (hb hby at_151) rfl (teq (by decide : (2 : Int32) = (2 : Int32))).2 ?_
      show own_S p e below T20 m 154 #[iv xk, iv xa, iv xs, iv xv, iv xw, rv a2, iv ff, iv fr, iv t1, iv t2, iv (2 : Int32), iv (own_bi bv), iv (own_bi bw), iv (own_K b0 b1 b2 kf), iv (own_K b0 b1 b2 (own_k1 kf)), rv a18, .unset, .unset, .unset, .unset, .unset, .unset, .unset, .unset, .unset, .unset, .unset, .unset, .unset, .unset, .unset] [] _
      refine XS.aload X20.here hx rfl (hb hby at_154) rfl rfl ?_
      show own_S p e below T20 m 156 #[iv xk, iv xa, iv xs, iv xv, iv xw, rv a2, iv ff, iv fr, iv t1, iv t2, iv (2 : Int32), iv (own_bi bv), iv (own_bi bw), iv (own_K b0 b1 b2 kf), iv (own_K b0 b1 b2 (own_k1 kf)), rv a18, .unset, .unset, .unset, .unset, .unset, .unset, .unset, .unset, .unset, .unset, .unset, .unset, .unset, .unset, .unset] [(.ref a18)] _
      refine XS.iload X20.here hx rfl (hb hby at_156) rfl ?_
      show own_S p e below T20 m 158 #[iv xk, iv xa, iv xs, iv xv, iv xw, rv a2, iv ff, iv fr, iv t1, iv t2, iv (2 : Int32), iv (own_bi bv), iv (own_bi bw), iv (own_K b0 b1 b2 kf), iv (own_K b0 b1 b2 (own_k1 kf)), rv a18, .unset, .unset, .unset, .unset, .unset, .unset, .unset, .unset, .unset, .unset, .unset, .unset, .unset, .unset, .unset] [(.int fr), (.ref a18)] _
      refine XS.iload X20.here hx rfl (hb hby at_158) rfl ?_
      show own_S p e below T20 m 160 #[iv xk, iv xa, iv xs, iv xv, iv xw, rv a2, iv ff, iv fr, iv t1, iv t2, iv (2 : Int32), iv (own_bi bv), iv (own_bi bw), iv (own_K b0 b1 b2 kf), iv (own_K b0 b1 b2 (own_k1 kf)), rv a18, .unset, .unset, .unset, .unset, .unset, .unset, .unset, .unset, .unset, .unset, .unset, .unset, .unset, .unset, .unset] [(.int (own_bi bw)), (.int fr), (.ref a18)] _
      exact kt
    refine own_st sg101 ?_
    obtain ⟨_, T102, L102, X102, hQ102, st102⟩ := own_callV (y := (⟨"com/example/kingsround/kingsround/engine/Deliveries", "putToAll", "(II)Z"⟩ : MethodName)) (y0 := (⟨"com/example/kingsround/kingsround/engine/Deliveries", "putToAll", "(II)Z"⟩ : MethodName)) (a := a18) (C := "com/example/kingsround/kingsround/engine/Deliveries") X20 hx hZ hown HD.1 (hw _ (List.mem_of_getElem? (i := 77) rfl)) (hw _ (List.mem_of_getElem? (i := 78) rfl)) (hw _ (List.mem_of_getElem? (i := 80) rfl)) (notFace_of_selects (args := #[]) (mvT hZ (hw _ (List.mem_of_getElem? (i := 80) rfl)))) (hw _ (List.mem_of_getElem? (i := 79) rfl)) (hw _ (List.mem_of_getElem? (i := 4) rfl)) (hw _ (List.mem_of_getElem? (i := 81) rfl)) (by decide) (own_rmpta l Z a0 hw a18 fr (own_bi bw) ib kp ta ob q r (own_K b0 b1 b2) (fun _ => -1) (fun _ => 0) (fun _ _ => -1) 0 kf T20.heap n0 Z20 HA HD hkf hf3) rfl (g := (mkF m 160 #[iv xk, iv xa, iv xs, iv xv, iv xw, rv a2, iv ff, iv fr, iv t1, iv t2, iv (2 : Int32), iv (own_bi bv), iv (own_bi bw), iv (own_K b0 b1 b2 kf), iv (own_K b0 b1 b2 (own_k1 kf)), rv a18, .unset, .unset, .unset, .unset, .unset, .unset, .unset, .unset, .unset, .unset, .unset, .unset, .unset, .unset, .unset] [(.int (own_bi bw)), (.int fr), (.ref a18)])) rfl (by rw [hml]; rfl) (argsL := [(.int fr), (.int (own_bi bw))]) (rest := []) (lenOf own_pd7 rfl) rfl (W := 0) (by show 2 * 0 + _ ≤ _; exact Nat.le_of_eq rfl) (hb hby at_160) (by decide) (by decide) (by decide) (by decide)
    obtain ⟨rfl, Nq102, Sz102, HD102⟩ := hQ102
    refine own_st st102 ?_
    have Z102 : n0 ≤ T102.heap.size := Nat.le_trans Z20 Sz102
    have N102 := Fr.app N20 Nq102
    show own_Go p e below _ T102 (mkF m 163 #[iv xk, iv xa, iv xs, iv xv, iv xw, rv a2, iv ff, iv fr, iv t1, iv t2, iv (2 : Int32), iv (own_bi bv), iv (own_bi bw), iv (own_K b0 b1 b2 kf), iv (own_K b0 b1 b2 (own_k1 kf)), rv a18, .unset, .unset, .unset, .unset, .unset, .unset, .unset, .unset, .unset, .unset, .unset, .unset, .unset, .unset, .unset] [(.int (own_ar (own_K b0 b1 b2) (fun _ => -1) (fun _ => 0) kf))])
    have sg103 : own_V p e below T102 (mkF m 191 #[iv xk, iv xa, iv xs, iv xv, iv xw, rv a2, iv ff, iv fr, iv t1, iv t2, iv (2 : Int32), iv (own_bi bv), iv (own_bi bw), iv (own_K b0 b1 b2 kf), iv (own_K b0 b1 b2 (own_k1 kf)), rv a18, .unset, .unset, .unset, .unset, .unset, .unset, .unset, .unset, .unset, .unset, .unset, .unset, .unset, .unset, .unset] [(.int (own_bi bv)), (.int fr), (.ref a18)]) (mkF m 163 #[iv xk, iv xa, iv xs, iv xv, iv xw, rv a2, iv ff, iv fr, iv t1, iv t2, iv (2 : Int32), iv (own_bi bv), iv (own_bi bw), iv (own_K b0 b1 b2 kf), iv (own_K b0 b1 b2 (own_k1 kf)), rv a18, .unset, .unset, .unset, .unset, .unset, .unset, .unset, .unset, .unset, .unset, .unset, .unset, .unset, .unset, .unset] [(.int (own_ar (own_K b0 b1 b2) (fun _ => -1) (fun _ => 0) kf))]) := by
      intro t kt
      refine XS.pop X102.here hx rfl (hb hby at_163) rfl rfl ?_
      show own_S p e below T102 m 164 #[iv xk, iv xa, iv xs, iv xv, iv xw, rv a2, iv ff, iv fr, iv t1, iv t2, iv (2 : Int32), iv (own_bi bv), iv (own_bi bw), iv (own_K b0 b1 b2 kf), iv (own_K b0 b1 b2 (own_k1 kf)), rv a18, .unset, .unset, .unset, .unset, .unset, .unset, .unset, .unset, .unset, .unset, .unset, .unset, .unset, .unset, .unset] [] _
      refine XS.goto X102.here hx rfl (pc0 := 164) (pc' := 185) rfl (hb hby at_164) (by decide) (by decide) ?_
      show own_S p e below T102 m 185 #[iv xk, iv xa, iv xs, iv xv, iv xw, rv a2, iv ff, iv fr, iv t1, iv t2, iv (2 : Int32), iv (own_bi bv), iv (own_bi bw), iv (own_K b0 b1 b2 kf), iv (own_K b0 b1 b2 (own_k1 kf)), rv a18, .unset, .unset, .unset, .unset, .unset, .unset, .unset, .unset, .unset, .unset, .unset, .unset, .unset, .unset, .unset] [] _
      refine XS.aload X102.here hx rfl (hb hby at_185) rfl rfl ?_
      show own_S p e below T102 m 187 #[iv xk, iv xa, iv xs, iv xv, iv xw, rv a2, iv ff, iv fr, iv t1, iv t2, iv (2 : Int32), iv (own_bi bv), iv (own_bi bw), iv (own_K b0 b1 b2 kf), iv (own_K b0 b1 b2 (own_k1 kf)), rv a18, .unset, .unset, .unset, .unset, .unset, .unset, .unset, .unset, .unset, .unset, .unset, .unset, .unset, .unset, .unset] [(.ref a18)] _
      refine XS.iload X102.here hx rfl (hb hby at_187) rfl ?_
      show own_S p e below T102 m 189 #[iv xk, iv xa, iv xs, iv xv, iv xw, rv a2, iv ff, iv fr, iv t1, iv t2, iv (2 : Int32), iv (own_bi bv), iv (own_bi bw), iv (own_K b0 b1 b2 kf), iv (own_K b0 b1 b2 (own_k1 kf)), rv a18, .unset, .unset, .unset, .unset, .unset, .unset, .unset, .unset, .unset, .unset, .unset, .unset, .unset, .unset, .unset] [(.int fr), (.ref a18)] _
      refine XS.iload X102.here hx rfl (hb hby at_189) rfl ?_
      show own_S p e below T102 m 191 #[iv xk, iv xa, iv xs, iv xv, iv xw, rv a2, iv ff, iv fr, iv t1, iv t2, iv (2 : Int32), iv (own_bi bv), iv (own_bi bw), iv (own_K b0 b1 b2 kf), iv (own_K b0 b1 b2 (own_k1 kf)), rv a18, .unset, .unset, .unset, .unset, .unset, .unset, .unset, .unset, .unset, .unset, .unset, .unset, .unset, .unset, .unset] [(.int (own_bi bv)), (.int fr), (.ref a18)] _
      exact kt
    refine own_st sg103 ?_
    obtain ⟨_, T104, L104, X104, hQ104, st104⟩ := own_callV (y := (⟨"com/example/kingsround/kingsround/engine/Deliveries", "putToAll", "(II)Z"⟩ : MethodName)) (y0 := (⟨"com/example/kingsround/kingsround/engine/Deliveries", "putToAll", "(II)Z"⟩ : MethodName)) (a := a18) (C := "com/example/kingsround/kingsround/engine/Deliveries") X102 hx hZ hown HD102.1 (hw _ (List.mem_of_getElem? (i := 77) rfl)) (hw _ (List.mem_of_getElem? (i := 78) rfl)) (hw _ (List.mem_of_getElem? (i := 80) rfl)) (notFace_of_selects (args := #[]) (mvT hZ (hw _ (List.mem_of_getElem? (i := 80) rfl)))) (hw _ (List.mem_of_getElem? (i := 79) rfl)) (hw _ (List.mem_of_getElem? (i := 4) rfl)) (hw _ (List.mem_of_getElem? (i := 81) rfl)) (by decide) (own_rmpta l Z a0 hw a18 fr (own_bi bv) ib kp ta ob q r (own_K b0 b1 b2) (own_aT (own_K b0 b1 b2) (fun _ => -1) (fun _ => 0) kf (own_bi bw)) (fun _ => 0) (fun _ _ => -1) (own_ac (own_K b0 b1 b2) (fun _ => -1) (fun _ => 0) kf 0) kf T102.heap n0 Z102 HA HD102 hkf hf3) rfl (g := (mkF m 191 #[iv xk, iv xa, iv xs, iv xv, iv xw, rv a2, iv ff, iv fr, iv t1, iv t2, iv (2 : Int32), iv (own_bi bv), iv (own_bi bw), iv (own_K b0 b1 b2 kf), iv (own_K b0 b1 b2 (own_k1 kf)), rv a18, .unset, .unset, .unset, .unset, .unset, .unset, .unset, .unset, .unset, .unset, .unset, .unset, .unset, .unset, .unset] [(.int (own_bi bv)), (.int fr), (.ref a18)])) rfl (by rw [hml]; rfl) (argsL := [(.int fr), (.int (own_bi bv))]) (rest := []) (lenOf own_pd7 rfl) rfl (W := 0) (by show 2 * 0 + _ ≤ _; exact Nat.le_of_eq rfl) (hb hby at_191) (by decide) (by decide) (by decide) (by decide)
    obtain ⟨rfl, Nq104, Sz104, HD104⟩ := hQ104
    refine own_st st104 ?_
    have Z104 : n0 ≤ T104.heap.size := Nat.le_trans Z102 Sz104
    have N104 := Fr.app N102 Nq104
    show own_Go p e below _ T104 (mkF m 194 #[iv xk, iv xa, iv xs, iv xv, iv xw, rv a2, iv ff, iv fr, iv t1, iv t2, iv (2 : Int32), iv (own_bi bv), iv (own_bi bw), iv (own_K b0 b1 b2 kf), iv (own_K b0 b1 b2 (own_k1 kf)), rv a18, .unset, .unset, .unset, .unset, .unset, .unset, .unset, .unset, .unset, .unset, .unset, .unset, .unset, .unset, .unset] [(.int (own_ar (own_K b0 b1 b2) (own_aT (own_K b0 b1 b2) (fun _ => -1) (fun _ => 0) kf (own_bi bw)) (fun _ => 0) kf))])
    obtain ⟨ress2, hress2⟩ : ∃ z : Int32, z = (own_ar (own_K b0 b1 b2) (own_aT (own_K b0 b1 b2) (fun _ => -1) (fun _ => 0) kf (own_bi bw)) (fun _ => 0) kf) := ⟨_, rfl⟩
    have sg105 : own_V p e below T104 (mkF m 198 #[iv xk, iv xa, iv xs, iv xv, iv xw, rv a2, iv ff, iv fr, iv t1, iv t2, iv (2 : Int32), iv (own_bi bv), iv (own_bi bw), iv (own_K b0 b1 b2 kf), iv (own_K b0 b1 b2 (own_k1 kf)), rv a18, iv ress2, .unset, .unset, .unset, .unset, .unset, .unset, .unset, .unset, .unset, .unset, .unset, .unset, .unset, .unset] [(.ref a18)]) (mkF m 194 #[iv xk, iv xa, iv xs, iv xv, iv xw, rv a2, iv ff, iv fr, iv t1, iv t2, iv (2 : Int32), iv (own_bi bv), iv (own_bi bw), iv (own_K b0 b1 b2 kf), iv (own_K b0 b1 b2 (own_k1 kf)), rv a18, .unset, .unset, .unset, .unset, .unset, .unset, .unset, .unset, .unset, .unset, .unset, .unset, .unset, .unset, .unset] [(.int (own_ar (own_K b0 b1 b2) (own_aT (own_K b0 b1 b2) (fun _ => -1) (fun _ => 0) kf (own_bi bw)) (fun _ => 0) kf))]) := by
      intro t kt
      refine XS.istore X104.here hx rfl (hb hby at_194) rfl (l' := #[iv xk, iv xa, iv xs, iv xv, iv xw, rv a2, iv ff, iv fr, iv t1, iv t2, iv (2 : Int32), iv (own_bi bv), iv (own_bi bw), iv (own_K b0 b1 b2 kf), iv (own_K b0 b1 b2 (own_k1 kf)), rv a18, iv (own_ar (own_K b0 b1 b2) (own_aT (own_K b0 b1 b2) (fun _ => -1) (fun _ => 0) kf (own_bi bw)) (fun _ => 0) kf), .unset, .unset, .unset, .unset, .unset, .unset, .unset, .unset, .unset, .unset, .unset, .unset, .unset, .unset]) rfl ?_
      show own_S p e below T104 m 196 #[iv xk, iv xa, iv xs, iv xv, iv xw, rv a2, iv ff, iv fr, iv t1, iv t2, iv (2 : Int32), iv (own_bi bv), iv (own_bi bw), iv (own_K b0 b1 b2 kf), iv (own_K b0 b1 b2 (own_k1 kf)), rv a18, iv (own_ar (own_K b0 b1 b2) (own_aT (own_K b0 b1 b2) (fun _ => -1) (fun _ => 0) kf (own_bi bw)) (fun _ => 0) kf), .unset, .unset, .unset, .unset, .unset, .unset, .unset, .unset, .unset, .unset, .unset, .unset, .unset, .unset] [] _
      refine XS.aload X104.here hx rfl (hb hby at_196) rfl rfl ?_
      show own_S p e below T104 m 198 #[iv xk, iv xa, iv xs, iv xv, iv xw, rv a2, iv ff, iv fr, iv t1, iv t2, iv (2 : Int32), iv (own_bi bv), iv (own_bi bw), iv (own_K b0 b1 b2 kf), iv (own_K b0 b1 b2 (own_k1 kf)), rv a18, iv (own_ar (own_K b0 b1 b2) (own_aT (own_K b0 b1 b2) (fun _ => -1) (fun _ => 0) kf (own_bi bw)) (fun _ => 0) kf), .unset, .unset, .unset, .unset, .unset, .unset, .unset, .unset, .unset, .unset, .unset, .unset, .unset, .unset] [(.ref a18)] _
      rw [hress2] at kt
      exact kt
    refine own_st sg105 ?_
    obtain ⟨_, T106, L106, X106, hQ106, st106⟩ := own_callV (y := (⟨"com/example/kingsround/kingsround/engine/Deliveries", "count", "()J"⟩ : MethodName)) (y0 := (⟨"com/example/kingsround/kingsround/engine/Deliveries", "count", "()J"⟩ : MethodName)) (a := a18) (C := "com/example/kingsround/kingsround/engine/Deliveries") X104 hx hZ hown HD104.1 (hw _ (List.mem_of_getElem? (i := 82) rfl)) (hw _ (List.mem_of_getElem? (i := 83) rfl)) (hw _ (List.mem_of_getElem? (i := 85) rfl)) (notFace_of_selects (args := #[]) (mvT hZ (hw _ (List.mem_of_getElem? (i := 85) rfl)))) (hw _ (List.mem_of_getElem? (i := 84) rfl)) (hw _ (List.mem_of_getElem? (i := 4) rfl)) (hw _ (List.mem_of_getElem? (i := 86) rfl)) (by decide) (own_rmcnt l Z a0 hw a18  ib kp ta ob q r (own_K b0 b1 b2) (own_aT (own_K b0 b1 b2) (own_aT (own_K b0 b1 b2) (fun _ => -1) (fun _ => 0) kf (own_bi bw)) (fun _ => 0) kf (own_bi bv)) (fun _ => 0) (fun _ _ => -1) (own_ac (own_K b0 b1 b2) (own_aT (own_K b0 b1 b2) (fun _ => -1) (fun _ => 0) kf (own_bi bw)) (fun _ => 0) kf (own_ac (own_K b0 b1 b2) (fun _ => -1) (fun _ => 0) kf 0))  T104.heap n0 Z104 HA HD104 ) rfl (g := (mkF m 198 #[iv xk, iv xa, iv xs, iv xv, iv xw, rv a2, iv ff, iv fr, iv t1, iv t2, iv (2 : Int32), iv (own_bi bv), iv (own_bi bw), iv (own_K b0 b1 b2 kf), iv (own_K b0 b1 b2 (own_k1 kf)), rv a18, iv ress2, .unset, .unset, .unset, .unset, .unset, .unset, .unset, .unset, .unset, .unset, .unset, .unset, .unset, .unset] [(.ref a18)])) rfl (by rw [hml]; rfl) (argsL := []) (rest := []) (lenOf own_pd8 rfl) rfl (W := 0) (by show 2 * 0 + _ ≤ _; exact Nat.le_of_eq rfl) (hb hby at_198) (by decide) (by decide) (by decide) (by decide)
    obtain ⟨rfl, Nq106, e106⟩ := hQ106
    refine own_st st106 ?_
    have N106 := Fr.app N104 Nq106
    show own_Go p e below _ T106 (mkF m 201 #[iv xk, iv xa, iv xs, iv xv, iv xw, rv a2, iv ff, iv fr, iv t1, iv t2, iv (2 : Int32), iv (own_bi bv), iv (own_bi bw), iv (own_K b0 b1 b2 kf), iv (own_K b0 b1 b2 (own_k1 kf)), rv a18, iv ress2, .unset, .unset, .unset, .unset, .unset, .unset, .unset, .unset, .unset, .unset, .unset, .unset, .unset, .unset] [(.long (own_ac (own_K b0 b1 b2) (own_aT (own_K b0 b1 b2) (fun _ => -1) (fun _ => 0) kf (own_bi bw)) (fun _ => 0) kf (own_ac (own_K b0 b1 b2) (fun _ => -1) (fun _ => 0) kf 0)))])
    obtain ⟨cns2, hcns2⟩ : ∃ z : Int64, z = (own_ac (own_K b0 b1 b2) (own_aT (own_K b0 b1 b2) (fun _ => -1) (fun _ => 0) kf (own_bi bw)) (fun _ => 0) kf (own_ac (own_K b0 b1 b2) (fun _ => -1) (fun _ => 0) kf 0)) := ⟨_, rfl⟩
    have sg107 : own_V p e below T106 (mkF m 209 #[iv xk, iv xa, iv xs, iv xv, iv xw, rv a2, iv ff, iv fr, iv t1, iv t2, iv (2 : Int32), iv (own_bi bv), iv (own_bi bw), iv (own_K b0 b1 b2 kf), iv (own_K b0 b1 b2 (own_k1 kf)), rv a18, iv ress2, own_lv cns2, .second, .unset, .unset, .unset, .unset, .unset, .unset, .unset, .unset, .unset, .unset, .unset, .unset] [(.int t1), (.int fr), (.ref a18)]) (mkF m 201 #[iv xk, iv xa, iv xs, iv xv, iv xw, rv a2, iv ff, iv fr, iv t1, iv t2, iv (2 : Int32), iv (own_bi bv), iv (own_bi bw), iv (own_K b0 b1 b2 kf), iv (own_K b0 b1 b2 (own_k1 kf)), rv a18, iv ress2, .unset, .unset, .unset, .unset, .unset, .unset, .unset, .unset, .unset, .unset, .unset, .unset, .unset, .unset] [(.long (own_ac (own_K b0 b1 b2) (own_aT (own_K b0 b1 b2) (fun _ => -1) (fun _ => 0) kf (own_bi bw)) (fun _ => 0) kf (own_ac (own_K b0 b1 b2) (fun _ => -1) (fun _ => 0) kf 0)))]) := by
      intro t kt
      refine XS.lstore X106.here hx rfl (hb hby at_201) rfl (l' := #[iv xk, iv xa, iv xs, iv xv, iv xw, rv a2, iv ff, iv fr, iv t1, iv t2, iv (2 : Int32), iv (own_bi bv), iv (own_bi bw), iv (own_K b0 b1 b2 kf), iv (own_K b0 b1 b2 (own_k1 kf)), rv a18, iv ress2, own_lv (own_ac (own_K b0 b1 b2) (own_aT (own_K b0 b1 b2) (fun _ => -1) (fun _ => 0) kf (own_bi bw)) (fun _ => 0) kf (own_ac (own_K b0 b1 b2) (fun _ => -1) (fun _ => 0) kf 0)), .second, .unset, .unset, .unset, .unset, .unset, .unset, .unset, .unset, .unset, .unset, .unset, .unset]) rfl ?_
      show own_S p e below T106 m 203 #[iv xk, iv xa, iv xs, iv xv, iv xw, rv a2, iv ff, iv fr, iv t1, iv t2, iv (2 : Int32), iv (own_bi bv), iv (own_bi bw), iv (own_K b0 b1 b2 kf), iv (own_K b0 b1 b2 (own_k1 kf)), rv a18, iv ress2, own_lv (own_ac (own_K b0 b1 b2) (own_aT (own_K b0 b1 b2) (fun _ => -1) (fun _ => 0) kf (own_bi bw)) (fun _ => 0) kf (own_ac (own_K b0 b1 b2) (fun _ => -1) (fun _ => 0) kf 0)), .second, .unset, .unset, .unset, .unset, .unset, .unset, .unset, .unset, .unset, .unset, .unset, .unset] [] _
      refine XS.aload X106.here hx rfl (hb hby at_203) rfl rfl ?_
      show own_S p e below T106 m 205 #[iv xk, iv xa, iv xs, iv xv, iv xw, rv a2, iv ff, iv fr, iv t1, iv t2, iv (2 : Int32), iv (own_bi bv), iv (own_bi bw), iv (own_K b0 b1 b2 kf), iv (own_K b0 b1 b2 (own_k1 kf)), rv a18, iv ress2, own_lv (own_ac (own_K b0 b1 b2) (own_aT (own_K b0 b1 b2) (fun _ => -1) (fun _ => 0) kf (own_bi bw)) (fun _ => 0) kf (own_ac (own_K b0 b1 b2) (fun _ => -1) (fun _ => 0) kf 0)), .second, .unset, .unset, .unset, .unset, .unset, .unset, .unset, .unset, .unset, .unset, .unset, .unset] [(.ref a18)] _
      refine XS.iload X106.here hx rfl (hb hby at_205) rfl ?_
      show own_S p e below T106 m 207 #[iv xk, iv xa, iv xs, iv xv, iv xw, rv a2, iv ff, iv fr, iv t1, iv t2, iv (2 : Int32), iv (own_bi bv), iv (own_bi bw), iv (own_K b0 b1 b2 kf), iv (own_K b0 b1 b2 (own_k1 kf)), rv a18, iv ress2, own_lv (own_ac (own_K b0 b1 b2) (own_aT (own_K b0 b1 b2) (fun _ => -1) (fun _ => 0) kf (own_bi bw)) (fun _ => 0) kf (own_ac (own_K b0 b1 b2) (fun _ => -1) (fun _ => 0) kf 0)), .second, .unset, .unset, .unset, .unset, .unset, .unset, .unset, .unset, .unset, .unset, .unset, .unset] [(.int fr), (.ref a18)] _
      refine XS.iload X106.here hx rfl (hb hby at_207) rfl ?_
      show own_S p e below T106 m 209 #[iv xk, iv xa, iv xs, iv xv, iv xw, rv a2, iv ff, iv fr, iv t1, iv t2, iv (2 : Int32), iv (own_bi bv), iv (own_bi bw), iv (own_K b0 b1 b2 kf), iv (own_K b0 b1 b2 (own_k1 kf)), rv a18, iv ress2, own_lv (own_ac (own_K b0 b1 b2) (own_aT (own_K b0 b1 b2) (fun _ => -1) (fun _ => 0) kf (own_bi bw)) (fun _ => 0) kf (own_ac (own_K b0 b1 b2) (fun _ => -1) (fun _ => 0) kf 0)), .second, .unset, .unset, .unset, .unset, .unset, .unset, .unset, .unset, .unset, .unset, .unset, .unset] [(.int t1), (.int fr), (.ref a18)] _
      rw [hcns2] at kt
      exact kt
    refine own_st sg107 ?_
    obtain ⟨_, T108, L108, X108, hQ108, st108⟩ := own_callV (y := (⟨"com/example/kingsround/kingsround/engine/Deliveries", "value", "(II)I"⟩ : MethodName)) (y0 := (⟨"com/example/kingsround/kingsround/engine/Deliveries", "value", "(II)I"⟩ : MethodName)) (a := a18) (C := "com/example/kingsround/kingsround/engine/Deliveries") X106 hx hZ hown HD104.1 (hw _ (List.mem_of_getElem? (i := 89) rfl)) (hw _ (List.mem_of_getElem? (i := 90) rfl)) (hw _ (List.mem_of_getElem? (i := 92) rfl)) (notFace_of_selects (args := #[]) (mvT hZ (hw _ (List.mem_of_getElem? (i := 92) rfl)))) (hw _ (List.mem_of_getElem? (i := 91) rfl)) (hw _ (List.mem_of_getElem? (i := 4) rfl)) (hw _ (List.mem_of_getElem? (i := 93) rfl)) (by decide) (own_rmval l Z a0 hw a18 fr t1 ib kp ta ob q r (own_K b0 b1 b2) (own_aT (own_K b0 b1 b2) (own_aT (own_K b0 b1 b2) (fun _ => -1) (fun _ => 0) kf (own_bi bw)) (fun _ => 0) kf (own_bi bv)) (fun _ => 0) (fun _ _ => -1) (own_ac (own_K b0 b1 b2) (own_aT (own_K b0 b1 b2) (fun _ => -1) (fun _ => 0) kf (own_bi bw)) (fun _ => 0) kf (own_ac (own_K b0 b1 b2) (fun _ => -1) (fun _ => 0) kf 0)) kf (own_k1 kf) T104.heap n0 Z104 HA HD104 hkf hk1.1 hf3 hk1.2) e106 (g := (mkF m 209 #[iv xk, iv xa, iv xs, iv xv, iv xw, rv a2, iv ff, iv fr, iv t1, iv t2, iv (2 : Int32), iv (own_bi bv), iv (own_bi bw), iv (own_K b0 b1 b2 kf), iv (own_K b0 b1 b2 (own_k1 kf)), rv a18, iv ress2, own_lv cns2, .second, .unset, .unset, .unset, .unset, .unset, .unset, .unset, .unset, .unset, .unset, .unset, .unset] [(.int t1), (.int fr), (.ref a18)])) rfl (by rw [hml]; rfl) (argsL := [(.int fr), (.int t1)]) (rest := []) (lenOf own_pd9 rfl) rfl (W := 0) (by show 2 * 0 + _ ≤ _; exact Nat.le_of_eq rfl) (hb hby at_209) (by decide) (by decide) (by decide) (by decide)
    obtain ⟨rfl, Nq108, e108⟩ := hQ108
    refine own_st st108 ?_
    have N108 := Fr.app N106 Nq108
    show own_Go p e below _ T108 (mkF m 212 #[iv xk, iv xa, iv xs, iv xv, iv xw, rv a2, iv ff, iv fr, iv t1, iv t2, iv (2 : Int32), iv (own_bi bv), iv (own_bi bw), iv (own_K b0 b1 b2 kf), iv (own_K b0 b1 b2 (own_k1 kf)), rv a18, iv ress2, own_lv cns2, .second, .unset, .unset, .unset, .unset, .unset, .unset, .unset, .unset, .unset, .unset, .unset, .unset] [(.int (own_val (own_aT (own_K b0 b1 b2) (own_aT (own_K b0 b1 b2) (fun _ => -1) (fun _ => 0) kf (own_bi bw)) (fun _ => 0) kf (own_bi bv)) (fun _ _ => -1) kf (own_k1 kf)))])
    obtain ⟨vas2, hvas2⟩ : ∃ z : Int32, z = (own_val (own_aT (own_K b0 b1 b2) (own_aT (own_K b0 b1 b2) (fun _ => -1) (fun _ => 0) kf (own_bi bw)) (fun _ => 0) kf (own_bi bv)) (fun _ _ => -1) kf (own_k1 kf)) := ⟨_, rfl⟩
    have sg109 : own_V p e below T108 (mkF m 220 #[iv xk, iv xa, iv xs, iv xv, iv xw, rv a2, iv ff, iv fr, iv t1, iv t2, iv (2 : Int32), iv (own_bi bv), iv (own_bi bw), iv (own_K b0 b1 b2 kf), iv (own_K b0 b1 b2 (own_k1 kf)), rv a18, iv ress2, own_lv cns2, .second, iv vas2, .unset, .unset, .unset, .unset, .unset, .unset, .unset, .unset, .unset, .unset, .unset] [(.int t2), (.int fr), (.ref a18)]) (mkF m 212 #[iv xk, iv xa, iv xs, iv xv, iv xw, rv a2, iv ff, iv fr, iv t1, iv t2, iv (2 : Int32), iv (own_bi bv), iv (own_bi bw), iv (own_K b0 b1 b2 kf), iv (own_K b0 b1 b2 (own_k1 kf)), rv a18, iv ress2, own_lv cns2, .second, .unset, .unset, .unset, .unset, .unset, .unset, .unset, .unset, .unset, .unset, .unset, .unset] [(.int (own_val (own_aT (own_K b0 b1 b2) (own_aT (own_K b0 b1 b2) (fun _ => -1) (fun _ => 0) kf (own_bi bw)) (fun _ => 0) kf (own_bi bv)) (fun _ _ => -1) kf (own_k1 kf)))]) := by
      intro t kt
      refine XS.istore X108.here hx rfl (hb hby at_212) rfl (l' := #[iv xk, iv xa, iv xs, iv xv, iv xw, rv a2, iv ff, iv fr, iv t1, iv t2, iv (2 : Int32), iv (own_bi bv), iv (own_bi bw), iv (own_K b0 b1 b2 kf), iv (own_K b0 b1 b2 (own_k1 kf)), rv a18, iv ress2, own_lv cns2, .second, iv (own_val (own_aT (own_K b0 b1 b2) (own_aT (own_K b0 b1 b2) (fun _ => -1) (fun _ => 0) kf (own_bi bw)) (fun _ => 0) kf (own_bi bv)) (fun _ _ => -1) kf (own_k1 kf)), .unset, .unset, .unset, .unset, .unset, .unset, .unset, .unset, .unset, .unset, .unset]) rfl ?_
      show own_S p e below T108 m 214 #[iv xk, iv xa, iv xs, iv xv, iv xw, rv a2, iv ff, iv fr, iv t1, iv t2, iv (2 : Int32), iv (own_bi bv), iv (own_bi bw), iv (own_K b0 b1 b2 kf), iv (own_K b0 b1 b2 (own_k1 kf)), rv a18, iv ress2, own_lv cns2, .second, iv (own_val (own_aT (own_K b0 b1 b2) (own_aT (own_K b0 b1 b2) (fun _ => -1) (fun _ => 0) kf (own_bi bw)) (fun _ => 0) kf (own_bi bv)) (fun _ _ => -1) kf (own_k1 kf)), .unset, .unset, .unset, .unset, .unset, .unset, .unset, .unset, .unset, .unset, .unset] [] _
      refine XS.aload X108.here hx rfl (hb hby at_214) rfl rfl ?_
      show own_S p e below T108 m 216 #[iv xk, iv xa, iv xs, iv xv, iv xw, rv a2, iv ff, iv fr, iv t1, iv t2, iv (2 : Int32), iv (own_bi bv), iv (own_bi bw), iv (own_K b0 b1 b2 kf), iv (own_K b0 b1 b2 (own_k1 kf)), rv a18, iv ress2, own_lv cns2, .second, iv (own_val (own_aT (own_K b0 b1 b2) (own_aT (own_K b0 b1 b2) (fun _ => -1) (fun _ => 0) kf (own_bi bw)) (fun _ => 0) kf (own_bi bv)) (fun _ _ => -1) kf (own_k1 kf)), .unset, .unset, .unset, .unset, .unset, .unset, .unset, .unset, .unset, .unset, .unset] [(.ref a18)] _
      refine XS.iload X108.here hx rfl (hb hby at_216) rfl ?_
      show own_S p e below T108 m 218 #[iv xk, iv xa, iv xs, iv xv, iv xw, rv a2, iv ff, iv fr, iv t1, iv t2, iv (2 : Int32), iv (own_bi bv), iv (own_bi bw), iv (own_K b0 b1 b2 kf), iv (own_K b0 b1 b2 (own_k1 kf)), rv a18, iv ress2, own_lv cns2, .second, iv (own_val (own_aT (own_K b0 b1 b2) (own_aT (own_K b0 b1 b2) (fun _ => -1) (fun _ => 0) kf (own_bi bw)) (fun _ => 0) kf (own_bi bv)) (fun _ _ => -1) kf (own_k1 kf)), .unset, .unset, .unset, .unset, .unset, .unset, .unset, .unset, .unset, .unset, .unset] [(.int fr), (.ref a18)] _
      refine XS.iload X108.here hx rfl (hb hby at_218) rfl ?_
      show own_S p e below T108 m 220 #[iv xk, iv xa, iv xs, iv xv, iv xw, rv a2, iv ff, iv fr, iv t1, iv t2, iv (2 : Int32), iv (own_bi bv), iv (own_bi bw), iv (own_K b0 b1 b2 kf), iv (own_K b0 b1 b2 (own_k1 kf)), rv a18, iv ress2, own_lv cns2, .second, iv (own_val (own_aT (own_K b0 b1 b2) (own_aT (own_K b0 b1 b2) (fun _ => -1) (fun _ => 0) kf (own_bi bw)) (fun _ => 0) kf (own_bi bv)) (fun _ _ => -1) kf (own_k1 kf)), .unset, .unset, .unset, .unset, .unset, .unset, .unset, .unset, .unset, .unset, .unset] [(.int t2), (.int fr), (.ref a18)] _
      rw [hvas2] at kt
      exact kt
    refine own_st sg109 ?_
    obtain ⟨_, T110, L110, X110, hQ110, st110⟩ := own_callV (y := (⟨"com/example/kingsround/kingsround/engine/Deliveries", "value", "(II)I"⟩ : MethodName)) (y0 := (⟨"com/example/kingsround/kingsround/engine/Deliveries", "value", "(II)I"⟩ : MethodName)) (a := a18) (C := "com/example/kingsround/kingsround/engine/Deliveries") X108 hx hZ hown HD104.1 (hw _ (List.mem_of_getElem? (i := 89) rfl)) (hw _ (List.mem_of_getElem? (i := 90) rfl)) (hw _ (List.mem_of_getElem? (i := 92) rfl)) (notFace_of_selects (args := #[]) (mvT hZ (hw _ (List.mem_of_getElem? (i := 92) rfl)))) (hw _ (List.mem_of_getElem? (i := 91) rfl)) (hw _ (List.mem_of_getElem? (i := 4) rfl)) (hw _ (List.mem_of_getElem? (i := 93) rfl)) (by decide) (own_rmval l Z a0 hw a18 fr t2 ib kp ta ob q r (own_K b0 b1 b2) (own_aT (own_K b0 b1 b2) (own_aT (own_K b0 b1 b2) (fun _ => -1) (fun _ => 0) kf (own_bi bw)) (fun _ => 0) kf (own_bi bv)) (fun _ => 0) (fun _ _ => -1) (own_ac (own_K b0 b1 b2) (own_aT (own_K b0 b1 b2) (fun _ => -1) (fun _ => 0) kf (own_bi bw)) (fun _ => 0) kf (own_ac (own_K b0 b1 b2) (fun _ => -1) (fun _ => 0) kf 0)) kf (own_k2 kf) T104.heap n0 Z104 HA HD104 hkf hk2.1 hf3 hk2.2) e108 (g := (mkF m 220 #[iv xk, iv xa, iv xs, iv xv, iv xw, rv a2, iv ff, iv fr, iv t1, iv t2, iv (2 : Int32), iv (own_bi bv), iv (own_bi bw), iv (own_K b0 b1 b2 kf), iv (own_K b0 b1 b2 (own_k1 kf)), rv a18, iv ress2, own_lv cns2, .second, iv vas2, .unset, .unset, .unset, .unset, .unset, .unset, .unset, .unset, .unset, .unset, .unset] [(.int t2), (.int fr), (.ref a18)])) rfl (by rw [hml]; rfl) (argsL := [(.int fr), (.int t2)]) (rest := []) (lenOf own_pd9 rfl) rfl (W := 0) (by show 2 * 0 + _ ≤ _; exact Nat.le_of_eq rfl) (hb hby at_220) (by decide) (by decide) (by decide) (by decide)
    obtain ⟨rfl, Nq110, e110⟩ := hQ110
    refine own_st st110 ?_
    have N110 := Fr.app N108 Nq110
    show own_Go p e below _ T110 (mkF m 223 #[iv xk, iv xa, iv xs, iv xv, iv xw, rv a2, iv ff, iv fr, iv t1, iv t2, iv (2 : Int32), iv (own_bi bv), iv (own_bi bw), iv (own_K b0 b1 b2 kf), iv (own_K b0 b1 b2 (own_k1 kf)), rv a18, iv ress2, own_lv cns2, .second, iv vas2, .unset, .unset, .unset, .unset, .unset, .unset, .unset, .unset, .unset, .unset, .unset] [(.int (own_val (own_aT (own_K b0 b1 b2) (own_aT (own_K b0 b1 b2) (fun _ => -1) (fun _ => 0) kf (own_bi bw)) (fun _ => 0) kf (own_bi bv)) (fun _ _ => -1) kf (own_k2 kf)))])
    obtain ⟨vbs2, hvbs2⟩ : ∃ z : Int32, z = (own_val (own_aT (own_K b0 b1 b2) (own_aT (own_K b0 b1 b2) (fun _ => -1) (fun _ => 0) kf (own_bi bw)) (fun _ => 0) kf (own_bi bv)) (fun _ _ => -1) kf (own_k2 kf)) := ⟨_, rfl⟩
    have sg111 : own_V p e below T110 (mkF m 231 #[iv xk, iv xa, iv xs, iv xv, iv xw, rv a2, iv ff, iv fr, iv t1, iv t2, iv (2 : Int32), iv (own_bi bv), iv (own_bi bw), iv (own_K b0 b1 b2 kf), iv (own_K b0 b1 b2 (own_k1 kf)), rv a18, iv ress2, own_lv cns2, .second, iv vas2, iv vbs2, .unset, .unset, .unset, .unset, .unset, .unset, .unset, .unset, .unset, .unset] [(.int fr), (.int fr), (.ref a18)]) (mkF m 223 #[iv xk, iv xa, iv xs, iv xv, iv xw, rv a2, iv ff, iv fr, iv t1, iv t2, iv (2 : Int32), iv (own_bi bv), iv (own_bi bw), iv (own_K b0 b1 b2 kf), iv (own_K b0 b1 b2 (own_k1 kf)), rv a18, iv ress2, own_lv cns2, .second, iv vas2, .unset, .unset, .unset, .unset, .unset, .unset, .unset, .unset, .unset, .unset, .unset] [(.int (own_val (own_aT (own_K b0 b1 b2) (own_aT (own_K b0 b1 b2) (fun _ => -1) (fun _ => 0) kf (own_bi bw)) (fun _ => 0) kf (own_bi bv)) (fun _ _ => -1) kf (own_k2 kf)))]) := by
      intro t kt
      refine XS.istore X110.here hx rfl (hb hby at_223) rfl (l' := #[iv xk, iv xa, iv xs, iv xv, iv xw, rv a2, iv ff, iv fr, iv t1, iv t2, iv (2 : Int32), iv (own_bi bv), iv (own_bi bw), iv (own_K b0 b1 b2 kf), iv (own_K b0 b1 b2 (own_k1 kf)), rv a18, iv ress2, own_lv cns2, .second, iv vas2, iv (own_val (own_aT (own_K b0 b1 b2) (own_aT (own_K b0 b1 b2) (fun _ => -1) (fun _ => 0) kf (own_bi bw)) (fun _ => 0) kf (own_bi bv)) (fun _ _ => -1) kf (own_k2 kf)), .unset, .unset, .unset, .unset, .unset, .unset, .unset, .unset, .unset, .unset]) rfl ?_
      show own_S p e below T110 m 225 #[iv xk, iv xa, iv xs, iv xv, iv xw, rv a2, iv ff, iv fr, iv t1, iv t2, iv (2 : Int32), iv (own_bi bv), iv (own_bi bw), iv (own_K b0 b1 b2 kf), iv (own_K b0 b1 b2 (own_k1 kf)), rv a18, iv ress2, own_lv cns2, .second, iv vas2, iv (own_val (own_aT (own_K b0 b1 b2) (own_aT (own_K b0 b1 b2) (fun _ => -1) (fun _ => 0) kf (own_bi bw)) (fun _ => 0) kf (own_bi bv)) (fun _ _ => -1) kf (own_k2 kf)), .unset, .unset, .unset, .unset, .unset, .unset, .unset, .unset, .unset, .unset] [] _
      refine XS.aload X110.here hx rfl (hb hby at_225) rfl rfl ?_
      show own_S p e below T110 m 227 #[iv xk, iv xa, iv xs, iv xv, iv xw, rv a2, iv ff, iv fr, iv t1, iv t2, iv (2 : Int32), iv (own_bi bv), iv (own_bi bw), iv (own_K b0 b1 b2 kf), iv (own_K b0 b1 b2 (own_k1 kf)), rv a18, iv ress2, own_lv cns2, .second, iv vas2, iv (own_val (own_aT (own_K b0 b1 b2) (own_aT (own_K b0 b1 b2) (fun _ => -1) (fun _ => 0) kf (own_bi bw)) (fun _ => 0) kf (own_bi bv)) (fun _ _ => -1) kf (own_k2 kf)), .unset, .unset, .unset, .unset, .unset, .unset, .unset, .unset, .unset, .unset] [(.ref a18)] _
      refine XS.iload X110.here hx rfl (hb hby at_227) rfl ?_
      show own_S p e below T110 m 229 #[iv xk, iv xa, iv xs, iv xv, iv xw, rv a2, iv ff, iv fr, iv t1, iv t2, iv (2 : Int32), iv (own_bi bv), iv (own_bi bw), iv (own_K b0 b1 b2 kf), iv (own_K b0 b1 b2 (own_k1 kf)), rv a18, iv ress2, own_lv cns2, .second, iv vas2, iv (own_val (own_aT (own_K b0 b1 b2) (own_aT (own_K b0 b1 b2) (fun _ => -1) (fun _ => 0) kf (own_bi bw)) (fun _ => 0) kf (own_bi bv)) (fun _ _ => -1) kf (own_k2 kf)), .unset, .unset, .unset, .unset, .unset, .unset, .unset, .unset, .unset, .unset] [(.int fr), (.ref a18)] _
      refine XS.iload X110.here hx rfl (hb hby at_229) rfl ?_
      show own_S p e below T110 m 231 #[iv xk, iv xa, iv xs, iv xv, iv xw, rv a2, iv ff, iv fr, iv t1, iv t2, iv (2 : Int32), iv (own_bi bv), iv (own_bi bw), iv (own_K b0 b1 b2 kf), iv (own_K b0 b1 b2 (own_k1 kf)), rv a18, iv ress2, own_lv cns2, .second, iv vas2, iv (own_val (own_aT (own_K b0 b1 b2) (own_aT (own_K b0 b1 b2) (fun _ => -1) (fun _ => 0) kf (own_bi bw)) (fun _ => 0) kf (own_bi bv)) (fun _ _ => -1) kf (own_k2 kf)), .unset, .unset, .unset, .unset, .unset, .unset, .unset, .unset, .unset, .unset] [(.int fr), (.int fr), (.ref a18)] _
      rw [hvbs2] at kt
      exact kt
    refine own_st sg111 ?_
    obtain ⟨_, T112, L112, X112, hQ112, st112⟩ := own_callV (y := (⟨"com/example/kingsround/kingsround/engine/Deliveries", "value", "(II)I"⟩ : MethodName)) (y0 := (⟨"com/example/kingsround/kingsround/engine/Deliveries", "value", "(II)I"⟩ : MethodName)) (a := a18) (C := "com/example/kingsround/kingsround/engine/Deliveries") X110 hx hZ hown HD104.1 (hw _ (List.mem_of_getElem? (i := 89) rfl)) (hw _ (List.mem_of_getElem? (i := 90) rfl)) (hw _ (List.mem_of_getElem? (i := 92) rfl)) (notFace_of_selects (args := #[]) (mvT hZ (hw _ (List.mem_of_getElem? (i := 92) rfl)))) (hw _ (List.mem_of_getElem? (i := 91) rfl)) (hw _ (List.mem_of_getElem? (i := 4) rfl)) (hw _ (List.mem_of_getElem? (i := 93) rfl)) (by decide) (own_rmval l Z a0 hw a18 fr fr ib kp ta ob q r (own_K b0 b1 b2) (own_aT (own_K b0 b1 b2) (own_aT (own_K b0 b1 b2) (fun _ => -1) (fun _ => 0) kf (own_bi bw)) (fun _ => 0) kf (own_bi bv)) (fun _ => 0) (fun _ _ => -1) (own_ac (own_K b0 b1 b2) (own_aT (own_K b0 b1 b2) (fun _ => -1) (fun _ => 0) kf (own_bi bw)) (fun _ => 0) kf (own_ac (own_K b0 b1 b2) (fun _ => -1) (fun _ => 0) kf 0)) kf kf T104.heap n0 Z104 HA HD104 hkf hkf hf3 hf3) e110 (g := (mkF m 231 #[iv xk, iv xa, iv xs, iv xv, iv xw, rv a2, iv ff, iv fr, iv t1, iv t2, iv (2 : Int32), iv (own_bi bv), iv (own_bi bw), iv (own_K b0 b1 b2 kf), iv (own_K b0 b1 b2 (own_k1 kf)), rv a18, iv ress2, own_lv cns2, .second, iv vas2, iv vbs2, .unset, .unset, .unset, .unset, .unset, .unset, .unset, .unset, .unset, .unset] [(.int fr), (.int fr), (.ref a18)])) rfl (by rw [hml]; rfl) (argsL := [(.int fr), (.int fr)]) (rest := []) (lenOf own_pd9 rfl) rfl (W := 0) (by show 2 * 0 + _ ≤ _; exact Nat.le_of_eq rfl) (hb hby at_231) (by decide) (by decide) (by decide) (by decide)
    obtain ⟨rfl, Nq112, e112⟩ := hQ112
    refine own_st st112 ?_
    have N112 := Fr.app N110 Nq112
    show own_Go p e below _ T112 (mkF m 234 #[iv xk, iv xa, iv xs, iv xv, iv xw, rv a2, iv ff, iv fr, iv t1, iv t2, iv (2 : Int32), iv (own_bi bv), iv (own_bi bw), iv (own_K b0 b1 b2 kf), iv (own_K b0 b1 b2 (own_k1 kf)), rv a18, iv ress2, own_lv cns2, .second, iv vas2, iv vbs2, .unset, .unset, .unset, .unset, .unset, .unset, .unset, .unset, .unset, .unset] [(.int (own_val (own_aT (own_K b0 b1 b2) (own_aT (own_K b0 b1 b2) (fun _ => -1) (fun _ => 0) kf (own_bi bw)) (fun _ => 0) kf (own_bi bv)) (fun _ _ => -1) kf kf))])
    obtain ⟨vcs2, hvcs2⟩ : ∃ z : Int32, z = (own_val (own_aT (own_K b0 b1 b2) (own_aT (own_K b0 b1 b2) (fun _ => -1) (fun _ => 0) kf (own_bi bw)) (fun _ => 0) kf (own_bi bv)) (fun _ _ => -1) kf kf) := ⟨_, rfl⟩
    have sg113 : own_V p e below T112 (mkF m 242 #[iv xk, iv xa, iv xs, iv xv, iv xw, rv a2, iv ff, iv fr, iv t1, iv t2, iv (2 : Int32), iv (own_bi bv), iv (own_bi bw), iv (own_K b0 b1 b2 kf), iv (own_K b0 b1 b2 (own_k1 kf)), rv a18, iv ress2, own_lv cns2, .second, iv vas2, iv vbs2, iv vcs2, .unset, .unset, .unset, .unset, .unset, .unset, .unset, .unset, .unset] [(.int fr), (.int t1), (.ref a18)]) (mkF m 234 #[iv xk, iv xa, iv xs, iv xv, iv xw, rv a2, iv ff, iv fr, iv t1, iv t2, iv (2 : Int32), iv (own_bi bv), iv (own_bi bw), iv (own_K b0 b1 b2 kf), iv (own_K b0 b1 b2 (own_k1 kf)), rv a18, iv ress2, own_lv cns2, .second, iv vas2, iv vbs2, .unset, .unset, .unset, .unset, .unset, .unset, .unset, .unset, .unset, .unset] [(.int (own_val (own_aT (own_K b0 b1 b2) (own_aT (own_K b0 b1 b2) (fun _ => -1) (fun _ => 0) kf (own_bi bw)) (fun _ => 0) kf (own_bi bv)) (fun _ _ => -1) kf kf))]) := by
      intro t kt
      refine XS.istore X112.here hx rfl (hb hby at_234) rfl (l' := #[iv xk, iv xa, iv xs, iv xv, iv xw, rv a2, iv ff, iv fr, iv t1, iv t2, iv (2 : Int32), iv (own_bi bv), iv (own_bi bw), iv (own_K b0 b1 b2 kf), iv (own_K b0 b1 b2 (own_k1 kf)), rv a18, iv ress2, own_lv cns2, .second, iv vas2, iv vbs2, iv (own_val (own_aT (own_K b0 b1 b2) (own_aT (own_K b0 b1 b2) (fun _ => -1) (fun _ => 0) kf (own_bi bw)) (fun _ => 0) kf (own_bi bv)) (fun _ _ => -1) kf kf), .unset, .unset, .unset, .unset, .unset, .unset, .unset, .unset, .unset]) rfl ?_
      show own_S p e below T112 m 236 #[iv xk, iv xa, iv xs, iv xv, iv xw, rv a2, iv ff, iv fr, iv t1, iv t2, iv (2 : Int32), iv (own_bi bv), iv (own_bi bw), iv (own_K b0 b1 b2 kf), iv (own_K b0 b1 b2 (own_k1 kf)), rv a18, iv ress2, own_lv cns2, .second, iv vas2, iv vbs2, iv (own_val (own_aT (own_K b0 b1 b2) (own_aT (own_K b0 b1 b2) (fun _ => -1) (fun _ => 0) kf (own_bi bw)) (fun _ => 0) kf (own_bi bv)) (fun _ _ => -1) kf kf), .unset, .unset, .unset, .unset, .unset, .unset, .unset, .unset, .unset] [] _
      refine XS.aload X112.here hx rfl (hb hby at_236) rfl rfl ?_
      show own_S p e below T112 m 238 #[iv xk, iv xa, iv xs, iv xv, iv xw, rv a2, iv ff, iv fr, iv t1, iv t2, iv (2 : Int32), iv (own_bi bv), iv (own_bi bw), iv (own_K b0 b1 b2 kf), iv (own_K b0 b1 b2 (own_k1 kf)), rv a18, iv ress2, own_lv cns2, .second, iv vas2, iv vbs2, iv (own_val (own_aT (own_K b0 b1 b2) (own_aT (own_K b0 b1 b2) (fun _ => -1) (fun _ => 0) kf (own_bi bw)) (fun _ => 0) kf (own_bi bv)) (fun _ _ => -1) kf kf), .unset, .unset, .unset, .unset, .unset, .unset, .unset, .unset, .unset] [(.ref a18)] _
      refine XS.iload X112.here hx rfl (hb hby at_238) rfl ?_
      show own_S p e below T112 m 240 #[iv xk, iv xa, iv xs, iv xv, iv xw, rv a2, iv ff, iv fr, iv t1, iv t2, iv (2 : Int32), iv (own_bi bv), iv (own_bi bw), iv (own_K b0 b1 b2 kf), iv (own_K b0 b1 b2 (own_k1 kf)), rv a18, iv ress2, own_lv cns2, .second, iv vas2, iv vbs2, iv (own_val (own_aT (own_K b0 b1 b2) (own_aT (own_K b0 b1 b2) (fun _ => -1) (fun _ => 0) kf (own_bi bw)) (fun _ => 0) kf (own_bi bv)) (fun _ _ => -1) kf kf), .unset, .unset, .unset, .unset, .unset, .unset, .unset, .unset, .unset] [(.int t1), (.ref a18)] _
      refine XS.iload X112.here hx rfl (hb hby at_240) rfl ?_
      show own_S p e below T112 m 242 #[iv xk, iv xa, iv xs, iv xv, iv xw, rv a2, iv ff, iv fr, iv t1, iv t2, iv (2 : Int32), iv (own_bi bv), iv (own_bi bw), iv (own_K b0 b1 b2 kf), iv (own_K b0 b1 b2 (own_k1 kf)), rv a18, iv ress2, own_lv cns2, .second, iv vas2, iv vbs2, iv (own_val (own_aT (own_K b0 b1 b2) (own_aT (own_K b0 b1 b2) (fun _ => -1) (fun _ => 0) kf (own_bi bw)) (fun _ => 0) kf (own_bi bv)) (fun _ _ => -1) kf kf), .unset, .unset, .unset, .unset, .unset, .unset, .unset, .unset, .unset] [(.int fr), (.int t1), (.ref a18)] _
      rw [hvcs2] at kt
      exact kt
    refine own_st sg113 ?_
    obtain ⟨_, T114, L114, X114, hQ114, st114⟩ := own_callV (y := (⟨"com/example/kingsround/kingsround/engine/Deliveries", "value", "(II)I"⟩ : MethodName)) (y0 := (⟨"com/example/kingsround/kingsround/engine/Deliveries", "value", "(II)I"⟩ : MethodName)) (a := a18) (C := "com/example/kingsround/kingsround/engine/Deliveries") X112 hx hZ hown HD104.1 (hw _ (List.mem_of_getElem? (i := 89) rfl)) (hw _ (List.mem_of_getElem? (i := 90) rfl)) (hw _ (List.mem_of_getElem? (i := 92) rfl)) (notFace_of_selects (args := #[]) (mvT hZ (hw _ (List.mem_of_getElem? (i := 92) rfl)))) (hw _ (List.mem_of_getElem? (i := 91) rfl)) (hw _ (List.mem_of_getElem? (i := 4) rfl)) (hw _ (List.mem_of_getElem? (i := 93) rfl)) (by decide) (own_rmval l Z a0 hw a18 t1 fr ib kp ta ob q r (own_K b0 b1 b2) (own_aT (own_K b0 b1 b2) (own_aT (own_K b0 b1 b2) (fun _ => -1) (fun _ => 0) kf (own_bi bw)) (fun _ => 0) kf (own_bi bv)) (fun _ => 0) (fun _ _ => -1) (own_ac (own_K b0 b1 b2) (own_aT (own_K b0 b1 b2) (fun _ => -1) (fun _ => 0) kf (own_bi bw)) (fun _ => 0) kf (own_ac (own_K b0 b1 b2) (fun _ => -1) (fun _ => 0) kf 0)) (own_k1 kf) kf T104.heap n0 Z104 HA HD104 hk1.1 hkf hk1.2 hf3) e112 (g := (mkF m 242 #[iv xk, iv xa, iv xs, iv xv, iv xw, rv a2, iv ff, iv fr, iv t1, iv t2, iv (2 : Int32), iv (own_bi bv), iv (own_bi bw), iv (own_K b0 b1 b2 kf), iv (own_K b0 b1 b2 (own_k1 kf)), rv a18, iv ress2, own_lv cns2, .second, iv vas2, iv vbs2, iv vcs2, .unset, .unset, .unset, .unset, .unset, .unset, .unset, .unset, .unset] [(.int fr), (.int t1), (.ref a18)])) rfl (by rw [hml]; rfl) (argsL := [(.int t1), (.int fr)]) (rest := []) (lenOf own_pd9 rfl) rfl (W := 0) (by show 2 * 0 + _ ≤ _; exact Nat.le_of_eq rfl) (hb hby at_242) (by decide) (by decide) (by decide) (by decide)
    obtain ⟨rfl, Nq114, e114⟩ := hQ114
    refine own_st st114 ?_
    have N114 := Fr.app N112 Nq114
    show own_Go p e below _ T114 (mkF m 245 #[iv xk, iv xa, iv xs, iv xv, iv xw, rv a2, iv ff, iv fr, iv t1, iv t2, iv (2 : Int32), iv (own_bi bv), iv (own_bi bw), iv (own_K b0 b1 b2 kf), iv (own_K b0 b1 b2 (own_k1 kf)), rv a18, iv ress2, own_lv cns2, .second, iv vas2, iv vbs2, iv vcs2, .unset, .unset, .unset, .unset, .unset, .unset, .unset, .unset, .unset] [(.int (own_val (own_aT (own_K b0 b1 b2) (own_aT (own_K b0 b1 b2) (fun _ => -1) (fun _ => 0) kf (own_bi bw)) (fun _ => 0) kf (own_bi bv)) (fun _ _ => -1) (own_k1 kf) kf))])
    obtain ⟨vds2, hvds2⟩ : ∃ z : Int32, z = (own_val (own_aT (own_K b0 b1 b2) (own_aT (own_K b0 b1 b2) (fun _ => -1) (fun _ => 0) kf (own_bi bw)) (fun _ => 0) kf (own_bi bv)) (fun _ _ => -1) (own_k1 kf) kf) := ⟨_, rfl⟩
    have sg115 : own_V p e below T114 (mkF m 247 #[iv xk, iv xa, iv xs, iv xv, iv xw, rv a2, iv ff, iv fr, iv t1, iv t2, iv (2 : Int32), iv (own_bi bv), iv (own_bi bw), iv (own_K b0 b1 b2 kf), iv (own_K b0 b1 b2 (own_k1 kf)), rv a18, iv ress2, own_lv cns2, .second, iv vas2, iv vbs2, iv vcs2, iv vds2, .unset, .unset, .unset, .unset, .unset, .unset, .unset, .unset] []) (mkF m 245 #[iv xk, iv xa, iv xs, iv xv, iv xw, rv a2, iv ff, iv fr, iv t1, iv t2, iv (2 : Int32), iv (own_bi bv), iv (own_bi bw), iv (own_K b0 b1 b2 kf), iv (own_K b0 b1 b2 (own_k1 kf)), rv a18, iv ress2, own_lv cns2, .second, iv vas2, iv vbs2, iv vcs2, .unset, .unset, .unset, .unset, .unset, .unset, .unset, .unset, .unset] [(.int (own_val (own_aT (own_K b0 b1 b2) (own_aT (own_K b0 b1 b2) (fun _ => -1) (fun _ => 0) kf (own_bi bw)) (fun _ => 0) kf (own_bi bv)) (fun _ _ => -1) (own_k1 kf) kf))]) := by
      intro t kt
      refine XS.istore X114.here hx rfl (hb hby at_245) rfl (l' := #[iv xk, iv xa, iv xs, iv xv, iv xw, rv a2, iv ff, iv fr, iv t1, iv t2, iv (2 : Int32), iv (own_bi bv), iv (own_bi bw), iv (own_K b0 b1 b2 kf), iv (own_K b0 b1 b2 (own_k1 kf)), rv a18, iv ress2, own_lv cns2, .second, iv vas2, iv vbs2, iv vcs2, iv (own_val (own_aT (own_K b0 b1 b2) (own_aT (own_K b0 b1 b2) (fun _ => -1) (fun _ => 0) kf (own_bi bw)) (fun _ => 0) kf (own_bi bv)) (fun _ _ => -1) (own_k1 kf) kf), .unset, .unset, .unset, .unset, .unset, .unset, .unset, .unset]) rfl ?_
      show own_S p e below T114 m 247 #[iv xk, iv xa, iv xs, iv xv, iv xw, rv a2, iv ff, iv fr, iv t1, iv t2, iv (2 : Int32), iv (own_bi bv), iv (own_bi bw), iv (own_K b0 b1 b2 kf), iv (own_K b0 b1 b2 (own_k1 kf)), rv a18, iv ress2, own_lv cns2, .second, iv vas2, iv vbs2, iv vcs2, iv (own_val (own_aT (own_K b0 b1 b2) (own_aT (own_K b0 b1 b2) (fun _ => -1) (fun _ => 0) kf (own_bi bw)) (fun _ => 0) kf (own_bi bv)) (fun _ _ => -1) (own_k1 kf) kf), .unset, .unset, .unset, .unset, .unset, .unset, .unset, .unset] [] _
      rw [hvds2] at kt
      exact kt
    refine own_st sg115 ?_
    obtain ⟨pos2, hpos2⟩ : ∃ z : Int32, z = (0 : Int32) := ⟨_, rfl⟩
    have sg116 : own_V p e below T114 (mkF m 274 #[iv xk, iv xa, iv xs, iv xv, iv xw, rv a2, iv ff, iv fr, iv t1, iv t2, iv (2 : Int32), iv (own_bi bv), iv (own_bi bw), iv (own_K b0 b1 b2 kf), iv (own_K b0 b1 b2 (own_k1 kf)), rv a18, iv ress2, own_lv cns2, .second, iv vas2, iv vbs2, iv vcs2, iv vds2, .unset, .unset, .unset, .unset, .unset, .unset, .unset, .unset] [(.int pos2)]) (mkF m 247 #[iv xk, iv xa, iv xs, iv xv, iv xw, rv a2, iv ff, iv fr, iv t1, iv t2, iv (2 : Int32), iv (own_bi bv), iv (own_bi bw), iv (own_K b0 b1 b2 kf), iv (own_K b0 b1 b2 (own_k1 kf)), rv a18, iv ress2, own_lv cns2, .second, iv vas2, iv vbs2, iv vcs2, iv vds2, .unset, .unset, .unset, .unset, .unset, .unset, .unset, .unset] []) := by
      intro t kt
      refine XS.iload X114.here hx rfl (hb hby at_247) rfl ?_
      show own_S p e below T114 m 249 #[iv xk, iv xa, iv xs, iv xv, iv xw, rv a2, iv ff, iv fr, iv t1, iv t2, iv (2 : Int32), iv (own_bi bv), iv (own_bi bw), iv (own_K b0 b1 b2 kf), iv (own_K b0 b1 b2 (own_k1 kf)), rv a18, iv ress2, own_lv cns2, .second, iv vas2, iv vbs2, iv vcs2, iv vds2, .unset, .unset, .unset, .unset, .unset, .unset, .unset, .unset] [(.int (2 : Int32))] _
      refine XS.iconst X114.here hx rfl (hb hby at_249) ?_
      show own_S p e below T114 m 250 #[iv xk, iv xa, iv xs, iv xv, iv xw, rv a2, iv ff, iv fr, iv t1, iv t2, iv (2 : Int32), iv (own_bi bv), iv (own_bi bw), iv (own_K b0 b1 b2 kf), iv (own_K b0 b1 b2 (own_k1 kf)), rv a18, iv ress2, own_lv cns2, .second, iv vas2, iv vbs2, iv vcs2, iv vds2, .unset, .unset, .unset, .unset, .unset, .unset, .unset, .unset] [(.int (1 : Int32)), (.int (2 : Int32))] _
      refine XS.icmpNo X114.here hx rfl (hb hby at_250) rfl (feq (by decide : ¬ (2 : Int32) = (1 : Int32))).1 ?_
      show own_S p e below T114 m 253 #[iv xk, iv xa, iv xs, iv xv, iv xw, rv a2, iv ff, iv fr, iv t1, iv t2, iv (2 : Int32), iv (own_bi bv), iv (own_bi bw), iv (own_K b0 b1 b2 kf), iv (own_K b0 b1 b2 (own_k1 kf)), rv a18, iv ress2, own_lv cns2, .second, iv vas2, iv vbs2, iv vcs2, iv vds2, .unset, .unset, .unset, .unset, .unset, .unset, .unset, .unset] [] _
      refine XS.iload X114.here hx rfl (hb hby at_253) rfl ?_
      show own_S p e below T114 m 255 #[iv xk, iv xa, iv xs, iv xv, iv xw, rv a2, iv ff, iv fr, iv t1, iv t2, iv (2 : Int32), iv (own_bi bv), iv (own_bi bw), iv (own_K b0 b1 b2 kf), iv (own_K b0 b1 b2 (own_k1 kf)), rv a18, iv ress2, own_lv cns2, .second, iv vas2, iv vbs2, iv vcs2, iv vds2, .unset, .unset, .unset, .unset, .unset, .unset, .unset, .unset] [(.int (2 : Int32))] _
      refine XS.iconst X114.here hx rfl (hb hby at_255) ?_
      show own_S p e below T114 m 256 #[iv xk, iv xa, iv xs, iv xv, iv xw, rv a2, iv ff, iv fr, iv t1, iv t2, iv (2 : Int32), iv (own_bi bv), iv (own_bi bw), iv (own_K b0 b1 b2 kf), iv (own_K b0 b1 b2 (own_k1 kf)), rv a18, iv ress2, own_lv cns2, .second, iv vas2, iv vbs2, iv vcs2, iv vds2, .unset, .unset, .unset, .unset, .unset, .unset, .unset, .unset] [(.int (3 : Int32)), (.int (2 : Int32))] _
      refine XS.icmpYes X114.here hx rfl (pc0 := 256) (pc' := 273) rfl (hb hby at_256) rfl (feq (by decide : ¬ (2 : Int32) = (3 : Int32))).2 (by decide) (by decide) ?_
      show own_S p e below T114 m 273 #[iv xk, iv xa, iv xs, iv xv, iv xw, rv a2, iv ff, iv fr, iv t1, iv t2, iv (2 : Int32), iv (own_bi bv), iv (own_bi bw), iv (own_K b0 b1 b2 kf), iv (own_K b0 b1 b2 (own_k1 kf)), rv a18, iv ress2, own_lv cns2, .second, iv vas2, iv vbs2, iv vcs2, iv vds2, .unset, .unset, .unset, .unset, .unset, .unset, .unset, .unset] [] _
      refine XS.iconst X114.here hx rfl (hb hby at_273) ?_
      show own_S p e below T114 m 274 #[iv xk, iv xa, iv xs, iv xv, iv xw, rv a2, iv ff, iv fr, iv t1, iv t2, iv (2 : Int32), iv (own_bi bv), iv (own_bi bw), iv (own_K b0 b1 b2 kf), iv (own_K b0 b1 b2 (own_k1 kf)), rv a18, iv ress2, own_lv cns2, .second, iv vas2, iv vbs2, iv vcs2, iv vds2, .unset, .unset, .unset, .unset, .unset, .unset, .unset, .unset] [(.int (0 : Int32))] _
      rw [hpos2] at kt
      exact kt
    refine own_st sg116 ?_
    obtain ⟨pas2, hpas2⟩ : ∃ z : Int32, z = (if (own_K b0 b1 b2 kf) = (0 : Int32) then (0 : Int32) else (1 : Int32)) := ⟨_, rfl⟩
    have sg118 : own_V p e below T114 (mkF m 292 #[iv xk, iv xa, iv xs, iv xv, iv xw, rv a2, iv ff, iv fr, iv t1, iv t2, iv (2 : Int32), iv (own_bi bv), iv (own_bi bw), iv (own_K b0 b1 b2 kf), iv (own_K b0 b1 b2 (own_k1 kf)), rv a18, iv ress2, own_lv cns2, .second, iv vas2, iv vbs2, iv vcs2, iv vds2, iv pos2, .unset, .unset, .unset, .unset, .unset, .unset, .unset] [(.int pas2)]) (mkF m 274 #[iv xk, iv xa, iv xs, iv xv, iv xw, rv a2, iv ff, iv fr, iv t1, iv t2, iv (2 : Int32), iv (own_bi bv), iv (own_bi bw), iv (own_K b0 b1 b2 kf), iv (own_K b0 b1 b2 (own_k1 kf)), rv a18, iv ress2, own_lv cns2, .second, iv vas2, iv vbs2, iv vcs2, iv vds2, .unset, .unset, .unset, .unset, .unset, .unset, .unset, .unset] [(.int pos2)]) := by
      intro t kt
      refine XS.istore X114.here hx rfl (hb hby at_274) rfl (l' := #[iv xk, iv xa, iv xs, iv xv, iv xw, rv a2, iv ff, iv fr, iv t1, iv t2, iv (2 : Int32), iv (own_bi bv), iv (own_bi bw), iv (own_K b0 b1 b2 kf), iv (own_K b0 b1 b2 (own_k1 kf)), rv a18, iv ress2, own_lv cns2, .second, iv vas2, iv vbs2, iv vcs2, iv vds2, iv pos2, .unset, .unset, .unset, .unset, .unset, .unset, .unset]) rfl ?_
      show own_S p e below T114 m 276 #[iv xk, iv xa, iv xs, iv xv, iv xw, rv a2, iv ff, iv fr, iv t1, iv t2, iv (2 : Int32), iv (own_bi bv), iv (own_bi bw), iv (own_K b0 b1 b2 kf), iv (own_K b0 b1 b2 (own_k1 kf)), rv a18, iv ress2, own_lv cns2, .second, iv vas2, iv vbs2, iv vcs2, iv vds2, iv pos2, .unset, .unset, .unset, .unset, .unset, .unset, .unset] [] _
      refine XS.iload X114.here hx rfl (hb hby at_276) rfl ?_
      show own_S p e below T114 m 278 #[iv xk, iv xa, iv xs, iv xv, iv xw, rv a2, iv ff, iv fr, iv t1, iv t2, iv (2 : Int32), iv (own_bi bv), iv (own_bi bw), iv (own_K b0 b1 b2 kf), iv (own_K b0 b1 b2 (own_k1 kf)), rv a18, iv ress2, own_lv cns2, .second, iv vas2, iv vbs2, iv vcs2, iv vds2, iv pos2, .unset, .unset, .unset, .unset, .unset, .unset, .unset] [(.int (2 : Int32))] _
      refine XS.iconst X114.here hx rfl (hb hby at_278) ?_
      show own_S p e below T114 m 279 #[iv xk, iv xa, iv xs, iv xv, iv xw, rv a2, iv ff, iv fr, iv t1, iv t2, iv (2 : Int32), iv (own_bi bv), iv (own_bi bw), iv (own_K b0 b1 b2 kf), iv (own_K b0 b1 b2 (own_k1 kf)), rv a18, iv ress2, own_lv cns2, .second, iv vas2, iv vbs2, iv vcs2, iv vds2, iv pos2, .unset, .unset, .unset, .unset, .unset, .unset, .unset] [(.int (2 : Int32)), (.int (2 : Int32))] _
      refine XS.icmpNo X114.here hx rfl (hb hby at_279) rfl (teq (by decide : (2 : Int32) = (2 : Int32))).2 ?_
      show own_S p e below T114 m 282 #[iv xk, iv xa, iv xs, iv xv, iv xw, rv a2, iv ff, iv fr, iv t1, iv t2, iv (2 : Int32), iv (own_bi bv), iv (own_bi bw), iv (own_K b0 b1 b2 kf), iv (own_K b0 b1 b2 (own_k1 kf)), rv a18, iv ress2, own_lv cns2, .second, iv vas2, iv vbs2, iv vcs2, iv vds2, iv pos2, .unset, .unset, .unset, .unset, .unset, .unset, .unset] [] _
      refine XS.iload X114.here hx rfl (hb hby at_282) rfl ?_
      show own_S p e below T114 m 284 #[iv xk, iv xa, iv xs, iv xv, iv xw, rv a2, iv ff, iv fr, iv t1, iv t2, iv (2 : Int32), iv (own_bi bv), iv (own_bi bw), iv (own_K b0 b1 b2 kf), iv (own_K b0 b1 b2 (own_k1 kf)), rv a18, iv ress2, own_lv cns2, .second, iv vas2, iv vbs2, iv vcs2, iv vds2, iv pos2, .unset, .unset, .unset, .unset, .unset, .unset, .unset] [(.int (own_K b0 b1 b2 kf))] _
      by_cases hc117 : (own_K b0 b1 b2 kf) = (0 : Int32)
      · refine XS.ifYes X114.here hx rfl (pc0 := 284) (pc' := 291) rfl (hb hby at_284) rfl ((if0 _ _).trans (teq hc117).1) (by decide) (by decide) ?_
        show own_S p e below T114 m 291 #[iv xk, iv xa, iv xs, iv xv, iv xw, rv a2, iv ff, iv fr, iv t1, iv t2, iv (2 : Int32), iv (own_bi bv), iv (own_bi bw), iv (own_K b0 b1 b2 kf), iv (own_K b0 b1 b2 (own_k1 kf)), rv a18, iv ress2, own_lv cns2, .second, iv vas2, iv vbs2, iv vcs2, iv vds2, iv pos2, .unset, .unset, .unset, .unset, .unset, .unset, .unset] [] _
        refine XS.iconst X114.here hx rfl (hb hby at_291) ?_
        show own_S p e below T114 m 292 #[iv xk, iv xa, iv xs, iv xv, iv xw, rv a2, iv ff, iv fr, iv t1, iv t2, iv (2 : Int32), iv (own_bi bv), iv (own_bi bw), iv (own_K b0 b1 b2 kf), iv (own_K b0 b1 b2 (own_k1 kf)), rv a18, iv ress2, own_lv cns2, .second, iv vas2, iv vbs2, iv vcs2, iv vds2, iv pos2, .unset, .unset, .unset, .unset, .unset, .unset, .unset] [(.int (0 : Int32))] _
        rw [show pas2 = (0 : Int32) from by rw [hpas2, if_pos hc117]] at kt
        exact kt
      · refine XS.ifNo X114.here hx rfl (hb hby at_284) rfl ((if0 _ _).trans (feq hc117).1) ?_
        show own_S p e below T114 m 287 #[iv xk, iv xa, iv xs, iv xv, iv xw, rv a2, iv ff, iv fr, iv t1, iv t2, iv (2 : Int32), iv (own_bi bv), iv (own_bi bw), iv (own_K b0 b1 b2 kf), iv (own_K b0 b1 b2 (own_k1 kf)), rv a18, iv ress2, own_lv cns2, .second, iv vas2, iv vbs2, iv vcs2, iv vds2, iv pos2, .unset, .unset, .unset, .unset, .unset, .unset, .unset] [] _
        refine XS.iconst X114.here hx rfl (hb hby at_287) ?_
        show own_S p e below T114 m 288 #[iv xk, iv xa, iv xs, iv xv, iv xw, rv a2, iv ff, iv fr, iv t1, iv t2, iv (2 : Int32), iv (own_bi bv), iv (own_bi bw), iv (own_K b0 b1 b2 kf), iv (own_K b0 b1 b2 (own_k1 kf)), rv a18, iv ress2, own_lv cns2, .second, iv vas2, iv vbs2, iv vcs2, iv vds2, iv pos2, .unset, .unset, .unset, .unset, .unset, .unset, .unset] [(.int (1 : Int32))] _
        refine XS.goto X114.here hx rfl (pc0 := 288) (pc' := 292) rfl (hb hby at_288) (by decide) (by decide) ?_
        show own_S p e below T114 m 292 #[iv xk, iv xa, iv xs, iv xv, iv xw, rv a2, iv ff, iv fr, iv t1, iv t2, iv (2 : Int32), iv (own_bi bv), iv (own_bi bw), iv (own_K b0 b1 b2 kf), iv (own_K b0 b1 b2 (own_k1 kf)), rv a18, iv ress2, own_lv cns2, .second, iv vas2, iv vbs2, iv vcs2, iv vds2, iv pos2, .unset, .unset, .unset, .unset, .unset, .unset, .unset] [(.int (1 : Int32))] _
        rw [show pas2 = (1 : Int32) from by rw [hpas2, if_neg hc117]] at kt
        exact kt
    refine own_st sg118 ?_
    obtain ⟨ers2, hers2⟩ : ∃ z : Int32, z = (0 : Int32) := ⟨_, rfl⟩
    have sg120 : own_V p e below T114 (mkF m 315 #[iv xk, iv xa, iv xs, iv xv, iv xw, rv a2, iv ff, iv fr, iv t1, iv t2, iv (2 : Int32), iv (own_bi bv), iv (own_bi bw), iv (own_K b0 b1 b2 kf), iv (own_K b0 b1 b2 (own_k1 kf)), rv a18, iv ress2, own_lv cns2, .second, iv vas2, iv vbs2, iv vcs2, iv vds2, iv pos2, iv pas2, .unset, .unset, .unset, .unset, .unset, .unset] [(.int ers2)]) (mkF m 292 #[iv xk, iv xa, iv xs, iv xv, iv xw, rv a2, iv ff, iv fr, iv t1, iv t2, iv (2 : Int32), iv (own_bi bv), iv (own_bi bw), iv (own_K b0 b1 b2 kf), iv (own_K b0 b1 b2 (own_k1 kf)), rv a18, iv ress2, own_lv cns2, .second, iv vas2, iv vbs2, iv vcs2, iv vds2, iv pos2, .unset, .unset, .unset, .unset, .unset, .unset, .unset] [(.int pas2)]) := by
      intro t kt
      refine XS.istore X114.here hx rfl (hb hby at_292) rfl (l' := #[iv xk, iv xa, iv xs, iv xv, iv xw, rv a2, iv ff, iv fr, iv t1, iv t2, iv (2 : Int32), iv (own_bi bv), iv (own_bi bw), iv (own_K b0 b1 b2 kf), iv (own_K b0 b1 b2 (own_k1 kf)), rv a18, iv ress2, own_lv cns2, .second, iv vas2, iv vbs2, iv vcs2, iv vds2, iv pos2, iv pas2, .unset, .unset, .unset, .unset, .unset, .unset]) rfl ?_
      show own_S p e below T114 m 294 #[iv xk, iv xa, iv xs, iv xv, iv xw, rv a2, iv ff, iv fr, iv t1, iv t2, iv (2 : Int32), iv (own_bi bv), iv (own_bi bw), iv (own_K b0 b1 b2 kf), iv (own_K b0 b1 b2 (own_k1 kf)), rv a18, iv ress2, own_lv cns2, .second, iv vas2, iv vbs2, iv vcs2, iv vds2, iv pos2, iv pas2, .unset, .unset, .unset, .unset, .unset, .unset] [] _
      refine XS.iload X114.here hx rfl (hb hby at_294) rfl ?_
      show own_S p e below T114 m 296 #[iv xk, iv xa, iv xs, iv xv, iv xw, rv a2, iv ff, iv fr, iv t1, iv t2, iv (2 : Int32), iv (own_bi bv), iv (own_bi bw), iv (own_K b0 b1 b2 kf), iv (own_K b0 b1 b2 (own_k1 kf)), rv a18, iv ress2, own_lv cns2, .second, iv vas2, iv vbs2, iv vcs2, iv vds2, iv pos2, iv pas2, .unset, .unset, .unset, .unset, .unset, .unset] [(.int (own_K b0 b1 b2 kf))] _
      by_cases hc119 : (own_K b0 b1 b2 kf) = (0 : Int32)
      · refine XS.ifYes X114.here hx rfl (pc0 := 296) (pc' := 314) rfl (hb hby at_296) rfl ((if0 _ _).trans (teq hc119).1) (by decide) (by decide) ?_
        show own_S p e below T114 m 314 #[iv xk, iv xa, iv xs, iv xv, iv xw, rv a2, iv ff, iv fr, iv t1, iv t2, iv (2 : Int32), iv (own_bi bv), iv (own_bi bw), iv (own_K b0 b1 b2 kf), iv (own_K b0 b1 b2 (own_k1 kf)), rv a18, iv ress2, own_lv cns2, .second, iv vas2, iv vbs2, iv vcs2, iv vds2, iv pos2, iv pas2, .unset, .unset, .unset, .unset, .unset, .unset] [] _
        refine XS.iconst X114.here hx rfl (hb hby at_314) ?_
        show own_S p e below T114 m 315 #[iv xk, iv xa, iv xs, iv xv, iv xw, rv a2, iv ff, iv fr, iv t1, iv t2, iv (2 : Int32), iv (own_bi bv), iv (own_bi bw), iv (own_K b0 b1 b2 kf), iv (own_K b0 b1 b2 (own_k1 kf)), rv a18, iv ress2, own_lv cns2, .second, iv vas2, iv vbs2, iv vcs2, iv vds2, iv pos2, iv pas2, .unset, .unset, .unset, .unset, .unset, .unset] [(.int (0 : Int32))] _
        rw [hers2] at kt
        exact kt
      · refine XS.ifNo X114.here hx rfl (hb hby at_296) rfl ((if0 _ _).trans (feq hc119).1) ?_
        show own_S p e below T114 m 299 #[iv xk, iv xa, iv xs, iv xv, iv xw, rv a2, iv ff, iv fr, iv t1, iv t2, iv (2 : Int32), iv (own_bi bv), iv (own_bi bw), iv (own_K b0 b1 b2 kf), iv (own_K b0 b1 b2 (own_k1 kf)), rv a18, iv ress2, own_lv cns2, .second, iv vas2, iv vbs2, iv vcs2, iv vds2, iv pos2, iv pas2, .unset, .unset, .unset, .unset, .unset, .unset] [] _
        refine XS.iload X114.here hx rfl (hb hby at_299) rfl ?_
        show own_S p e below T114 m 301 #[iv xk, iv xa, iv xs, iv xv, iv xw, rv a2, iv ff, iv fr, iv t1, iv t2, iv (2 : Int32), iv (own_bi bv), iv (own_bi bw), iv (own_K b0 b1 b2 kf), iv (own_K b0 b1 b2 (own_k1 kf)), rv a18, iv ress2, own_lv cns2, .second, iv vas2, iv vbs2, iv vcs2, iv vds2, iv pos2, iv pas2, .unset, .unset, .unset, .unset, .unset, .unset] [(.int (2 : Int32))] _
        refine XS.ifNo X114.here hx rfl (hb hby at_301) rfl ((if0 _ _).trans (feq (by decide : ¬ (2 : Int32) = (0 : Int32))).1) ?_
        show own_S p e below T114 m 304 #[iv xk, iv xa, iv xs, iv xv, iv xw, rv a2, iv ff, iv fr, iv t1, iv t2, iv (2 : Int32), iv (own_bi bv), iv (own_bi bw), iv (own_K b0 b1 b2 kf), iv (own_K b0 b1 b2 (own_k1 kf)), rv a18, iv ress2, own_lv cns2, .second, iv vas2, iv vbs2, iv vcs2, iv vds2, iv pos2, iv pas2, .unset, .unset, .unset, .unset, .unset, .unset] [] _
        refine XS.iload X114.here hx rfl (hb hby at_304) rfl ?_
        show own_S p e below T114 m 306 #[iv xk, iv xa, iv xs, iv xv, iv xw, rv a2, iv ff, iv fr, iv t1, iv t2, iv (2 : Int32), iv (own_bi bv), iv (own_bi bw), iv (own_K b0 b1 b2 kf), iv (own_K b0 b1 b2 (own_k1 kf)), rv a18, iv ress2, own_lv cns2, .second, iv vas2, iv vbs2, iv vcs2, iv vds2, iv pos2, iv pas2, .unset, .unset, .unset, .unset, .unset, .unset] [(.int (2 : Int32))] _
        refine XS.iconst X114.here hx rfl (hb hby at_306) ?_
        show own_S p e below T114 m 307 #[iv xk, iv xa, iv xs, iv xv, iv xw, rv a2, iv ff, iv fr, iv t1, iv t2, iv (2 : Int32), iv (own_bi bv), iv (own_bi bw), iv (own_K b0 b1 b2 kf), iv (own_K b0 b1 b2 (own_k1 kf)), rv a18, iv ress2, own_lv cns2, .second, iv vas2, iv vbs2, iv vcs2, iv vds2, iv pos2, iv pas2, .unset, .unset, .unset, .unset, .unset, .unset] [(.int (3 : Int32)), (.int (2 : Int32))] _
        refine XS.icmpYes X114.here hx rfl (pc0 := 307) (pc' := 314) rfl (hb hby at_307) rfl (feq (by decide : ¬ (2 : Int32) = (3 : Int32))).2 (by decide) (by decide) ?_
        show own_S p e below T114 m 314 #[iv xk, iv xa, iv xs, iv xv, iv xw, rv a2, iv ff, iv fr, iv t1, iv t2, iv (2 : Int32), iv (own_bi bv), iv (own_bi bw), iv (own_K b0 b1 b2 kf), iv (own_K b0 b1 b2 (own_k1 kf)), rv a18, iv ress2, own_lv cns2, .second, iv vas2, iv vbs2, iv vcs2, iv vds2, iv pos2, iv pas2, .unset, .unset, .unset, .unset, .unset, .unset] [] _
        refine XS.iconst X114.here hx rfl (hb hby at_314) ?_
        show own_S p e below T114 m 315 #[iv xk, iv xa, iv xs, iv xv, iv xw, rv a2, iv ff, iv fr, iv t1, iv t2, iv (2 : Int32), iv (own_bi bv), iv (own_bi bw), iv (own_K b0 b1 b2 kf), iv (own_K b0 b1 b2 (own_k1 kf)), rv a18, iv ress2, own_lv cns2, .second, iv vas2, iv vbs2, iv vcs2, iv vds2, iv pos2, iv pas2, .unset, .unset, .unset, .unset, .unset, .unset] [(.int (0 : Int32))] _
        rw [hers2] at kt
        exact kt
    refine own_st sg120 ?_
    obtain ⟨e1s2, he1s2⟩ : ∃ z : Int64, z = (if pos2 = (0 : Int32) then (0 : Int64) else (1 : Int64)) := ⟨_, rfl⟩
    have sg122 : own_V p e below T114 (mkF m 327 #[iv xk, iv xa, iv xs, iv xv, iv xw, rv a2, iv ff, iv fr, iv t1, iv t2, iv (2 : Int32), iv (own_bi bv), iv (own_bi bw), iv (own_K b0 b1 b2 kf), iv (own_K b0 b1 b2 (own_k1 kf)), rv a18, iv ress2, own_lv cns2, .second, iv vas2, iv vbs2, iv vcs2, iv vds2, iv pos2, iv pas2, iv ers2, .unset, .unset, .unset, .unset, .unset] [(.long e1s2)]) (mkF m 315 #[iv xk, iv xa, iv xs, iv xv, iv xw, rv a2, iv ff, iv fr, iv t1, iv t2, iv (2 : Int32), iv (own_bi bv), iv (own_bi bw), iv (own_K b0 b1 b2 kf), iv (own_K b0 b1 b2 (own_k1 kf)), rv a18, iv ress2, own_lv cns2, .second, iv vas2, iv vbs2, iv vcs2, iv vds2, iv pos2, iv pas2, .unset, .unset, .unset, .unset, .unset, .unset] [(.int ers2)]) := by
      intro t kt
      refine XS.istore X114.here hx rfl (hb hby at_315) rfl (l' := #[iv xk, iv xa, iv xs, iv xv, iv xw, rv a2, iv ff, iv fr, iv t1, iv t2, iv (2 : Int32), iv (own_bi bv), iv (own_bi bw), iv (own_K b0 b1 b2 kf), iv (own_K b0 b1 b2 (own_k1 kf)), rv a18, iv ress2, own_lv cns2, .second, iv vas2, iv vbs2, iv vcs2, iv vds2, iv pos2, iv pas2, iv ers2, .unset, .unset, .unset, .unset, .unset]) rfl ?_
      show own_S p e below T114 m 317 #[iv xk, iv xa, iv xs, iv xv, iv xw, rv a2, iv ff, iv fr, iv t1, iv t2, iv (2 : Int32), iv (own_bi bv), iv (own_bi bw), iv (own_K b0 b1 b2 kf), iv (own_K b0 b1 b2 (own_k1 kf)), rv a18, iv ress2, own_lv cns2, .second, iv vas2, iv vbs2, iv vcs2, iv vds2, iv pos2, iv pas2, iv ers2, .unset, .unset, .unset, .unset, .unset] [] _
      refine XS.iload X114.here hx rfl (hb hby at_317) rfl ?_
      show own_S p e below T114 m 319 #[iv xk, iv xa, iv xs, iv xv, iv xw, rv a2, iv ff, iv fr, iv t1, iv t2, iv (2 : Int32), iv (own_bi bv), iv (own_bi bw), iv (own_K b0 b1 b2 kf), iv (own_K b0 b1 b2 (own_k1 kf)), rv a18, iv ress2, own_lv cns2, .second, iv vas2, iv vbs2, iv vcs2, iv vds2, iv pos2, iv pas2, iv ers2, .unset, .unset, .unset, .unset, .unset] [(.int pos2)] _
      by_cases hc121 : pos2 = (0 : Int32)
      · refine XS.ifYes X114.here hx rfl (pc0 := 319) (pc' := 326) rfl (hb hby at_319) rfl ((if0 _ _).trans (teq hc121).1) (by decide) (by decide) ?_
        show own_S p e below T114 m 326 #[iv xk, iv xa, iv xs, iv xv, iv xw, rv a2, iv ff, iv fr, iv t1, iv t2, iv (2 : Int32), iv (own_bi bv), iv (own_bi bw), iv (own_K b0 b1 b2 kf), iv (own_K b0 b1 b2 (own_k1 kf)), rv a18, iv ress2, own_lv cns2, .second, iv vas2, iv vbs2, iv vcs2, iv vds2, iv pos2, iv pas2, iv ers2, .unset, .unset, .unset, .unset, .unset] [] _
        refine XS.lconst X114.here hx rfl (hb hby at_326) ?_
        show own_S p e below T114 m 327 #[iv xk, iv xa, iv xs, iv xv, iv xw, rv a2, iv ff, iv fr, iv t1, iv t2, iv (2 : Int32), iv (own_bi bv), iv (own_bi bw), iv (own_K b0 b1 b2 kf), iv (own_K b0 b1 b2 (own_k1 kf)), rv a18, iv ress2, own_lv cns2, .second, iv vas2, iv vbs2, iv vcs2, iv vds2, iv pos2, iv pas2, iv ers2, .unset, .unset, .unset, .unset, .unset] [(.long (0 : Int64))] _
        rw [show e1s2 = (0 : Int64) from by rw [he1s2, if_pos hc121]] at kt
        exact kt
      · refine XS.ifNo X114.here hx rfl (hb hby at_319) rfl ((if0 _ _).trans (feq hc121).1) ?_
        show own_S p e below T114 m 322 #[iv xk, iv xa, iv xs, iv xv, iv xw, rv a2, iv ff, iv fr, iv t1, iv t2, iv (2 : Int32), iv (own_bi bv), iv (own_bi bw), iv (own_K b0 b1 b2 kf), iv (own_K b0 b1 b2 (own_k1 kf)), rv a18, iv ress2, own_lv cns2, .second, iv vas2, iv vbs2, iv vcs2, iv vds2, iv pos2, iv pas2, iv ers2, .unset, .unset, .unset, .unset, .unset] [] _
        refine XS.lconst X114.here hx rfl (hb hby at_322) ?_
        show own_S p e below T114 m 323 #[iv xk, iv xa, iv xs, iv xv, iv xw, rv a2, iv ff, iv fr, iv t1, iv t2, iv (2 : Int32), iv (own_bi bv), iv (own_bi bw), iv (own_K b0 b1 b2 kf), iv (own_K b0 b1 b2 (own_k1 kf)), rv a18, iv ress2, own_lv cns2, .second, iv vas2, iv vbs2, iv vcs2, iv vds2, iv pos2, iv pas2, iv ers2, .unset, .unset, .unset, .unset, .unset] [(.long (1 : Int64))] _
        refine XS.goto X114.here hx rfl (pc0 := 323) (pc' := 327) rfl (hb hby at_323) (by decide) (by decide) ?_
        show own_S p e below T114 m 327 #[iv xk, iv xa, iv xs, iv xv, iv xw, rv a2, iv ff, iv fr, iv t1, iv t2, iv (2 : Int32), iv (own_bi bv), iv (own_bi bw), iv (own_K b0 b1 b2 kf), iv (own_K b0 b1 b2 (own_k1 kf)), rv a18, iv ress2, own_lv cns2, .second, iv vas2, iv vbs2, iv vcs2, iv vds2, iv pos2, iv pas2, iv ers2, .unset, .unset, .unset, .unset, .unset] [(.long (1 : Int64))] _
        rw [show e1s2 = (1 : Int64) from by rw [he1s2, if_neg hc121]] at kt
        exact kt
    refine own_st sg122 ?_
    obtain ⟨e2s2, he2s2⟩ : ∃ z : Int64, z = (if pas2 = (0 : Int32) then (0 : Int64) else (2 : Int64)) := ⟨_, rfl⟩
    have sg124 : own_V p e below T114 (mkF m 339 #[iv xk, iv xa, iv xs, iv xv, iv xw, rv a2, iv ff, iv fr, iv t1, iv t2, iv (2 : Int32), iv (own_bi bv), iv (own_bi bw), iv (own_K b0 b1 b2 kf), iv (own_K b0 b1 b2 (own_k1 kf)), rv a18, iv ress2, own_lv cns2, .second, iv vas2, iv vbs2, iv vcs2, iv vds2, iv pos2, iv pas2, iv ers2, .unset, .unset, .unset, .unset, .unset] [(.long e2s2), (.long e1s2)]) (mkF m 327 #[iv xk, iv xa, iv xs, iv xv, iv xw, rv a2, iv ff, iv fr, iv t1, iv t2, iv (2 : Int32), iv (own_bi bv), iv (own_bi bw), iv (own_K b0 b1 b2 kf), iv (own_K b0 b1 b2 (own_k1 kf)), rv a18, iv ress2, own_lv cns2, .second, iv vas2, iv vbs2, iv vcs2, iv vds2, iv pos2, iv pas2, iv ers2, .unset, .unset, .unset, .unset, .unset] [(.long e1s2)]) := by
      intro t kt
      refine XS.iload X114.here hx rfl (hb hby at_327) rfl ?_
      show own_S p e below T114 m 329 #[iv xk, iv xa, iv xs, iv xv, iv xw, rv a2, iv ff, iv fr, iv t1, iv t2, iv (2 : Int32), iv (own_bi bv), iv (own_bi bw), iv (own_K b0 b1 b2 kf), iv (own_K b0 b1 b2 (own_k1 kf)), rv a18, iv ress2, own_lv cns2, .second, iv vas2, iv vbs2, iv vcs2, iv vds2, iv pos2, iv pas2, iv ers2, .unset, .unset, .unset, .unset, .unset] [(.int pas2), (.long e1s2)] _
      by_cases hc123 : pas2 = (0 : Int32)
      · refine XS.ifYes X114.here hx rfl (pc0 := 329) (pc' := 338) rfl (hb hby at_329) rfl ((if0 _ _).trans (teq hc123).1) (by decide) (by decide) ?_
        show own_S p e below T114 m 338 #[iv xk, iv xa, iv xs, iv xv, iv xw, rv a2, iv ff, iv fr, iv t1, iv t2, iv (2 : Int32), iv (own_bi bv), iv (own_bi bw), iv (own_K b0 b1 b2 kf), iv (own_K b0 b1 b2 (own_k1 kf)), rv a18, iv ress2, own_lv cns2, .second, iv vas2, iv vbs2, iv vcs2, iv vds2, iv pos2, iv pas2, iv ers2, .unset, .unset, .unset, .unset, .unset] [(.long e1s2)] _
        refine XS.lconst X114.here hx rfl (hb hby at_338) ?_
        show own_S p e below T114 m 339 #[iv xk, iv xa, iv xs, iv xv, iv xw, rv a2, iv ff, iv fr, iv t1, iv t2, iv (2 : Int32), iv (own_bi bv), iv (own_bi bw), iv (own_K b0 b1 b2 kf), iv (own_K b0 b1 b2 (own_k1 kf)), rv a18, iv ress2, own_lv cns2, .second, iv vas2, iv vbs2, iv vcs2, iv vds2, iv pos2, iv pas2, iv ers2, .unset, .unset, .unset, .unset, .unset] [(.long (0 : Int64)), (.long e1s2)] _
        rw [show e2s2 = (0 : Int64) from by rw [he2s2, if_pos hc123]] at kt
        exact kt
      · refine XS.ifNo X114.here hx rfl (hb hby at_329) rfl ((if0 _ _).trans (feq hc123).1) ?_
        show own_S p e below T114 m 332 #[iv xk, iv xa, iv xs, iv xv, iv xw, rv a2, iv ff, iv fr, iv t1, iv t2, iv (2 : Int32), iv (own_bi bv), iv (own_bi bw), iv (own_K b0 b1 b2 kf), iv (own_K b0 b1 b2 (own_k1 kf)), rv a18, iv ress2, own_lv cns2, .second, iv vas2, iv vbs2, iv vcs2, iv vds2, iv pos2, iv pas2, iv ers2, .unset, .unset, .unset, .unset, .unset] [(.long e1s2)] _
        refine X114.ldc2Long hx hown (mvT hZ (hw _ (List.mem_of_getElem? (i := 100) rfl))) (g := (mkF m 332 #[iv xk, iv xa, iv xs, iv xv, iv xw, rv a2, iv ff, iv fr, iv t1, iv t2, iv (2 : Int32), iv (own_bi bv), iv (own_bi bw), iv (own_K b0 b1 b2 kf), iv (own_K b0 b1 b2 (own_k1 kf)), rv a18, iv ress2, own_lv cns2, .second, iv vas2, iv vbs2, iv vcs2, iv vds2, iv pos2, iv pas2, iv ers2, .unset, .unset, .unset, .unset, .unset] [(.long e1s2)])) rfl (hb hby at_332) _ ?_
        show own_S p e below T114 m 335 #[iv xk, iv xa, iv xs, iv xv, iv xw, rv a2, iv ff, iv fr, iv t1, iv t2, iv (2 : Int32), iv (own_bi bv), iv (own_bi bw), iv (own_K b0 b1 b2 kf), iv (own_K b0 b1 b2 (own_k1 kf)), rv a18, iv ress2, own_lv cns2, .second, iv vas2, iv vbs2, iv vcs2, iv vds2, iv pos2, iv pas2, iv ers2, .unset, .unset, .unset, .unset, .unset] [(.long (2 : Int64)), (.long e1s2)] _
        refine XS.goto X114.here hx rfl (pc0 := 335) (pc' := 339) rfl (hb hby at_335) (by decide) (by decide) ?_
        show own_S p e below T114 m 339 #[iv xk, iv xa, iv xs, iv xv, iv xw, rv a2, iv ff, iv fr, iv t1, iv t2, iv (2 : Int32), iv (own_bi bv), iv (own_bi bw), iv (own_K b0 b1 b2 kf), iv (own_K b0 b1 b2 (own_k1 kf)), rv a18, iv ress2, own_lv cns2, .second, iv vas2, iv vbs2, iv vcs2, iv vds2, iv pos2, iv pas2, iv ers2, .unset, .unset, .unset, .unset, .unset] [(.long (2 : Int64)), (.long e1s2)] _
        rw [show e2s2 = (2 : Int64) from by rw [he2s2, if_neg hc123]] at kt
        exact kt
    refine own_st sg124 ?_
    obtain ⟨e3s2, he3s2⟩ : ∃ z : Int64, z = (if ers2 = (0 : Int32) then (0 : Int64) else (2 : Int64)) := ⟨_, rfl⟩
    have sg126 : own_V p e below T114 (mkF m 352 #[iv xk, iv xa, iv xs, iv xv, iv xw, rv a2, iv ff, iv fr, iv t1, iv t2, iv (2 : Int32), iv (own_bi bv), iv (own_bi bw), iv (own_K b0 b1 b2 kf), iv (own_K b0 b1 b2 (own_k1 kf)), rv a18, iv ress2, own_lv cns2, .second, iv vas2, iv vbs2, iv vcs2, iv vds2, iv pos2, iv pas2, iv ers2, .unset, .unset, .unset, .unset, .unset] [(.long e3s2), (.long (e1s2 + e2s2))]) (mkF m 339 #[iv xk, iv xa, iv xs, iv xv, iv xw, rv a2, iv ff, iv fr, iv t1, iv t2, iv (2 : Int32), iv (own_bi bv), iv (own_bi bw), iv (own_K b0 b1 b2 kf), iv (own_K b0 b1 b2 (own_k1 kf)), rv a18, iv ress2, own_lv cns2, .second, iv vas2, iv vbs2, iv vcs2, iv vds2, iv pos2, iv pas2, iv ers2, .unset, .unset, .unset, .unset, .unset] [(.long e2s2), (.long e1s2)]) := by
      intro t kt
      refine XS.ladd X114.here hx rfl (hb hby at_339) rfl ?_
      show own_S p e below T114 m 340 #[iv xk, iv xa, iv xs, iv xv, iv xw, rv a2, iv ff, iv fr, iv t1, iv t2, iv (2 : Int32), iv (own_bi bv), iv (own_bi bw), iv (own_K b0 b1 b2 kf), iv (own_K b0 b1 b2 (own_k1 kf)), rv a18, iv ress2, own_lv cns2, .second, iv vas2, iv vbs2, iv vcs2, iv vds2, iv pos2, iv pas2, iv ers2, .unset, .unset, .unset, .unset, .unset] [(.long (e1s2 + e2s2))] _
      refine XS.iload X114.here hx rfl (hb hby at_340) rfl ?_
      show own_S p e below T114 m 342 #[iv xk, iv xa, iv xs, iv xv, iv xw, rv a2, iv ff, iv fr, iv t1, iv t2, iv (2 : Int32), iv (own_bi bv), iv (own_bi bw), iv (own_K b0 b1 b2 kf), iv (own_K b0 b1 b2 (own_k1 kf)), rv a18, iv ress2, own_lv cns2, .second, iv vas2, iv vbs2, iv vcs2, iv vds2, iv pos2, iv pas2, iv ers2, .unset, .unset, .unset, .unset, .unset] [(.int ers2), (.long (e1s2 + e2s2))] _
      by_cases hc125 : ers2 = (0 : Int32)
      · refine XS.ifYes X114.here hx rfl (pc0 := 342) (pc' := 351) rfl (hb hby at_342) rfl ((if0 _ _).trans (teq hc125).1) (by decide) (by decide) ?_
        show own_S p e below T114 m 351 #[iv xk, iv xa, iv xs, iv xv, iv xw, rv a2, iv ff, iv fr, iv t1, iv t2, iv (2 : Int32), iv (own_bi bv), iv (own_bi bw), iv (own_K b0 b1 b2 kf), iv (own_K b0 b1 b2 (own_k1 kf)), rv a18, iv ress2, own_lv cns2, .second, iv vas2, iv vbs2, iv vcs2, iv vds2, iv pos2, iv pas2, iv ers2, .unset, .unset, .unset, .unset, .unset] [(.long (e1s2 + e2s2))] _
        refine XS.lconst X114.here hx rfl (hb hby at_351) ?_
        show own_S p e below T114 m 352 #[iv xk, iv xa, iv xs, iv xv, iv xw, rv a2, iv ff, iv fr, iv t1, iv t2, iv (2 : Int32), iv (own_bi bv), iv (own_bi bw), iv (own_K b0 b1 b2 kf), iv (own_K b0 b1 b2 (own_k1 kf)), rv a18, iv ress2, own_lv cns2, .second, iv vas2, iv vbs2, iv vcs2, iv vds2, iv pos2, iv pas2, iv ers2, .unset, .unset, .unset, .unset, .unset] [(.long (0 : Int64)), (.long (e1s2 + e2s2))] _
        rw [show e3s2 = (0 : Int64) from by rw [he3s2, if_pos hc125]] at kt
        exact kt
      · refine XS.ifNo X114.here hx rfl (hb hby at_342) rfl ((if0 _ _).trans (feq hc125).1) ?_
        show own_S p e below T114 m 345 #[iv xk, iv xa, iv xs, iv xv, iv xw, rv a2, iv ff, iv fr, iv t1, iv t2, iv (2 : Int32), iv (own_bi bv), iv (own_bi bw), iv (own_K b0 b1 b2 kf), iv (own_K b0 b1 b2 (own_k1 kf)), rv a18, iv ress2, own_lv cns2, .second, iv vas2, iv vbs2, iv vcs2, iv vds2, iv pos2, iv pas2, iv ers2, .unset, .unset, .unset, .unset, .unset] [(.long (e1s2 + e2s2))] _
        refine X114.ldc2Long hx hown (mvT hZ (hw _ (List.mem_of_getElem? (i := 100) rfl))) (g := (mkF m 345 #[iv xk, iv xa, iv xs, iv xv, iv xw, rv a2, iv ff, iv fr, iv t1, iv t2, iv (2 : Int32), iv (own_bi bv), iv (own_bi bw), iv (own_K b0 b1 b2 kf), iv (own_K b0 b1 b2 (own_k1 kf)), rv a18, iv ress2, own_lv cns2, .second, iv vas2, iv vbs2, iv vcs2, iv vds2, iv pos2, iv pas2, iv ers2, .unset, .unset, .unset, .unset, .unset] [(.long (e1s2 + e2s2))])) rfl (hb hby at_345) _ ?_
        show own_S p e below T114 m 348 #[iv xk, iv xa, iv xs, iv xv, iv xw, rv a2, iv ff, iv fr, iv t1, iv t2, iv (2 : Int32), iv (own_bi bv), iv (own_bi bw), iv (own_K b0 b1 b2 kf), iv (own_K b0 b1 b2 (own_k1 kf)), rv a18, iv ress2, own_lv cns2, .second, iv vas2, iv vbs2, iv vcs2, iv vds2, iv pos2, iv pas2, iv ers2, .unset, .unset, .unset, .unset, .unset] [(.long (2 : Int64)), (.long (e1s2 + e2s2))] _
        refine XS.goto X114.here hx rfl (pc0 := 348) (pc' := 352) rfl (hb hby at_348) (by decide) (by decide) ?_
        show own_S p e below T114 m 352 #[iv xk, iv xa, iv xs, iv xv, iv xw, rv a2, iv ff, iv fr, iv t1, iv t2, iv (2 : Int32), iv (own_bi bv), iv (own_bi bw), iv (own_K b0 b1 b2 kf), iv (own_K b0 b1 b2 (own_k1 kf)), rv a18, iv ress2, own_lv cns2, .second, iv vas2, iv vbs2, iv vcs2, iv vds2, iv pos2, iv pas2, iv ers2, .unset, .unset, .unset, .unset, .unset] [(.long (2 : Int64)), (.long (e1s2 + e2s2))] _
        rw [show e3s2 = (2 : Int64) from by rw [he3s2, if_neg hc125]] at kt
        exact kt
    refine own_st sg126 ?_
    obtain ⟨ecs2, hecs2⟩ : ∃ z : Int64, z = ((e1s2 + e2s2) + e3s2) := ⟨_, rfl⟩
    obtain ⟨x1s2, hx1s2⟩ : ∃ z : Int32, z = (if pas2 = (0 : Int32) then (if ers2 = (0 : Int32) then (-1 : Int32) else (own_bi bv)) else (own_bi bw)) := ⟨_, rfl⟩
    have sg129 : own_V p e below T114 (mkF m 400 #[iv xk, iv xa, iv xs, iv xv, iv xw, rv a2, iv ff, iv fr, iv t1, iv t2, iv (2 : Int32), iv (own_bi bv), iv (own_bi bw), iv (own_K b0 b1 b2 kf), iv (own_K b0 b1 b2 (own_k1 kf)), rv a18, iv ress2, own_lv cns2, .second, iv vas2, iv vbs2, iv vcs2, iv vds2, iv pos2, iv pas2, iv ers2, own_lv ecs2, .second, iv x1s2, .unset, .unset] []) (mkF m 352 #[iv xk, iv xa, iv xs, iv xv, iv xw, rv a2, iv ff, iv fr, iv t1, iv t2, iv (2 : Int32), iv (own_bi bv), iv (own_bi bw), iv (own_K b0 b1 b2 kf), iv (own_K b0 b1 b2 (own_k1 kf)), rv a18, iv ress2, own_lv cns2, .second, iv vas2, iv vbs2, iv vcs2, iv vds2, iv pos2, iv pas2, iv ers2, .unset, .unset, .unset, .unset, .unset] [(.long e3s2), (.long (e1s2 + e2s2))]) := by
      intro t kt
      refine XS.ladd X114.here hx rfl (hb hby at_352) rfl ?_
      show own_S p e below T114 m 353 #[iv xk, iv xa, iv xs, iv xv, iv xw, rv a2, iv ff, iv fr, iv t1, iv t2, iv (2 : Int32), iv (own_bi bv), iv (own_bi bw), iv (own_K b0 b1 b2 kf), iv (own_K b0 b1 b2 (own_k1 kf)), rv a18, iv ress2, own_lv cns2, .second, iv vas2, iv vbs2, iv vcs2, iv vds2, iv pos2, iv pas2, iv ers2, .unset, .unset, .unset, .unset, .unset] [(.long ((e1s2 + e2s2) + e3s2))] _
      refine XS.lstore X114.here hx rfl (hb hby at_353) rfl (l' := #[iv xk, iv xa, iv xs, iv xv, iv xw, rv a2, iv ff, iv fr, iv t1, iv t2, iv (2 : Int32), iv (own_bi bv), iv (own_bi bw), iv (own_K b0 b1 b2 kf), iv (own_K b0 b1 b2 (own_k1 kf)), rv a18, iv ress2, own_lv cns2, .second, iv vas2, iv vbs2, iv vcs2, iv vds2, iv pos2, iv pas2, iv ers2, own_lv ((e1s2 + e2s2) + e3s2), .second, .unset, .unset, .unset]) rfl ?_
      show own_S p e below T114 m 355 #[iv xk, iv xa, iv xs, iv xv, iv xw, rv a2, iv ff, iv fr, iv t1, iv t2, iv (2 : Int32), iv (own_bi bv), iv (own_bi bw), iv (own_K b0 b1 b2 kf), iv (own_K b0 b1 b2 (own_k1 kf)), rv a18, iv ress2, own_lv cns2, .second, iv vas2, iv vbs2, iv vcs2, iv vds2, iv pos2, iv pas2, iv ers2, own_lv ((e1s2 + e2s2) + e3s2), .second, .unset, .unset, .unset] [] _
      refine XS.iload X114.here hx rfl (hb hby at_355) rfl ?_
      show own_S p e below T114 m 357 #[iv xk, iv xa, iv xs, iv xv, iv xw, rv a2, iv ff, iv fr, iv t1, iv t2, iv (2 : Int32), iv (own_bi bv), iv (own_bi bw), iv (own_K b0 b1 b2 kf), iv (own_K b0 b1 b2 (own_k1 kf)), rv a18, iv ress2, own_lv cns2, .second, iv vas2, iv vbs2, iv vcs2, iv vds2, iv pos2, iv pas2, iv ers2, own_lv ((e1s2 + e2s2) + e3s2), .second, .unset, .unset, .unset] [(.int pas2)] _
      by_cases hc127 : pas2 = (0 : Int32)
      · refine XS.ifYes X114.here hx rfl (pc0 := 357) (pc' := 367) rfl (hb hby at_357) rfl ((if0 _ _).trans (teq hc127).1) (by decide) (by decide) ?_
        show own_S p e below T114 m 367 #[iv xk, iv xa, iv xs, iv xv, iv xw, rv a2, iv ff, iv fr, iv t1, iv t2, iv (2 : Int32), iv (own_bi bv), iv (own_bi bw), iv (own_K b0 b1 b2 kf), iv (own_K b0 b1 b2 (own_k1 kf)), rv a18, iv ress2, own_lv cns2, .second, iv vas2, iv vbs2, iv vcs2, iv vds2, iv pos2, iv pas2, iv ers2, own_lv ((e1s2 + e2s2) + e3s2), .second, .unset, .unset, .unset] [] _
        refine XS.iload X114.here hx rfl (hb hby at_367) rfl ?_
        show own_S p e below T114 m 369 #[iv xk, iv xa, iv xs, iv xv, iv xw, rv a2, iv ff, iv fr, iv t1, iv t2, iv (2 : Int32), iv (own_bi bv), iv (own_bi bw), iv (own_K b0 b1 b2 kf), iv (own_K b0 b1 b2 (own_k1 kf)), rv a18, iv ress2, own_lv cns2, .second, iv vas2, iv vbs2, iv vcs2, iv vds2, iv pos2, iv pas2, iv ers2, own_lv ((e1s2 + e2s2) + e3s2), .second, .unset, .unset, .unset] [(.int ers2)] _
        by_cases hc128 : ers2 = (0 : Int32)
        · refine XS.ifYes X114.here hx rfl (pc0 := 369) (pc' := 379) rfl (hb hby at_369) rfl ((if0 _ _).trans (teq hc128).1) (by decide) (by decide) ?_
          show own_S p e below T114 m 379 #[iv xk, iv xa, iv xs, iv xv, iv xw, rv a2, iv ff, iv fr, iv t1, iv t2, iv (2 : Int32), iv (own_bi bv), iv (own_bi bw), iv (own_K b0 b1 b2 kf), iv (own_K b0 b1 b2 (own_k1 kf)), rv a18, iv ress2, own_lv cns2, .second, iv vas2, iv vbs2, iv vcs2, iv vds2, iv pos2, iv pas2, iv ers2, own_lv ((e1s2 + e2s2) + e3s2), .second, .unset, .unset, .unset] [] _
          refine XS.iload X114.here hx rfl (hb hby at_379) rfl ?_
          show own_S p e below T114 m 381 #[iv xk, iv xa, iv xs, iv xv, iv xw, rv a2, iv ff, iv fr, iv t1, iv t2, iv (2 : Int32), iv (own_bi bv), iv (own_bi bw), iv (own_K b0 b1 b2 kf), iv (own_K b0 b1 b2 (own_k1 kf)), rv a18, iv ress2, own_lv cns2, .second, iv vas2, iv vbs2, iv vcs2, iv vds2, iv pos2, iv pas2, iv ers2, own_lv ((e1s2 + e2s2) + e3s2), .second, .unset, .unset, .unset] [(.int (2 : Int32))] _
          refine XS.iconst X114.here hx rfl (hb hby at_381) ?_
          show own_S p e below T114 m 382 #[iv xk, iv xa, iv xs, iv xv, iv xw, rv a2, iv ff, iv fr, iv t1, iv t2, iv (2 : Int32), iv (own_bi bv), iv (own_bi bw), iv (own_K b0 b1 b2 kf), iv (own_K b0 b1 b2 (own_k1 kf)), rv a18, iv ress2, own_lv cns2, .second, iv vas2, iv vbs2, iv vcs2, iv vds2, iv pos2, iv pas2, iv ers2, own_lv ((e1s2 + e2s2) + e3s2), .second, .unset, .unset, .unset] [(.int (1 : Int32)), (.int (2 : Int32))] _
          refine XS.icmpYes X114.here hx rfl (pc0 := 382) (pc' := 397) rfl (hb hby at_382) rfl (feq (by decide : ¬ (2 : Int32) = (1 : Int32))).2 (by decide) (by decide) ?_
          show own_S p e below T114 m 397 #[iv xk, iv xa, iv xs, iv xv, iv xw, rv a2, iv ff, iv fr, iv t1, iv t2, iv (2 : Int32), iv (own_bi bv), iv (own_bi bw), iv (own_K b0 b1 b2 kf), iv (own_K b0 b1 b2 (own_k1 kf)), rv a18, iv ress2, own_lv cns2, .second, iv vas2, iv vbs2, iv vcs2, iv vds2, iv pos2, iv pas2, iv ers2, own_lv ((e1s2 + e2s2) + e3s2), .second, .unset, .unset, .unset] [] _
          refine XS.iconst X114.here hx rfl (hb hby at_397) ?_
          show own_S p e below T114 m 398 #[iv xk, iv xa, iv xs, iv xv, iv xw, rv a2, iv ff, iv fr, iv t1, iv t2, iv (2 : Int32), iv (own_bi bv), iv (own_bi bw), iv (own_K b0 b1 b2 kf), iv (own_K b0 b1 b2 (own_k1 kf)), rv a18, iv ress2, own_lv cns2, .second, iv vas2, iv vbs2, iv vcs2, iv vds2, iv pos2, iv pas2, iv ers2, own_lv ((e1s2 + e2s2) + e3s2), .second, .unset, .unset, .unset] [(.int (-1 : Int32))] _
          refine XS.istore X114.here hx rfl (hb hby at_398) rfl (l' := #[iv xk, iv xa, iv xs, iv xv, iv xw, rv a2, iv ff, iv fr, iv t1, iv t2, iv (2 : Int32), iv (own_bi bv), iv (own_bi bw), iv (own_K b0 b1 b2 kf), iv (own_K b0 b1 b2 (own_k1 kf)), rv a18, iv ress2, own_lv cns2, .second, iv vas2, iv vbs2, iv vcs2, iv vds2, iv pos2, iv pas2, iv ers2, own_lv ((e1s2 + e2s2) + e3s2), .second, iv (-1 : Int32), .unset, .unset]) rfl ?_
          show own_S p e below T114 m 400 #[iv xk, iv xa, iv xs, iv xv, iv xw, rv a2, iv ff, iv fr, iv t1, iv t2, iv (2 : Int32), iv (own_bi bv), iv (own_bi bw), iv (own_K b0 b1 b2 kf), iv (own_K b0 b1 b2 (own_k1 kf)), rv a18, iv ress2, own_lv cns2, .second, iv vas2, iv vbs2, iv vcs2, iv vds2, iv pos2, iv pas2, iv ers2, own_lv ((e1s2 + e2s2) + e3s2), .second, iv (-1 : Int32), .unset, .unset] [] _
          rw [hecs2] at kt
          rw [show x1s2 = (-1 : Int32) from by rw [hx1s2, if_pos hc127, if_pos hc128]] at kt
          exact kt
        · refine XS.ifNo X114.here hx rfl (hb hby at_369) rfl ((if0 _ _).trans (feq hc128).1) ?_
          show own_S p e below T114 m 372 #[iv xk, iv xa, iv xs, iv xv, iv xw, rv a2, iv ff, iv fr, iv t1, iv t2, iv (2 : Int32), iv (own_bi bv), iv (own_bi bw), iv (own_K b0 b1 b2 kf), iv (own_K b0 b1 b2 (own_k1 kf)), rv a18, iv ress2, own_lv cns2, .second, iv vas2, iv vbs2, iv vcs2, iv vds2, iv pos2, iv pas2, iv ers2, own_lv ((e1s2 + e2s2) + e3s2), .second, .unset, .unset, .unset] [] _
          refine XS.iload X114.here hx rfl (hb hby at_372) rfl ?_
          show own_S p e below T114 m 374 #[iv xk, iv xa, iv xs, iv xv, iv xw, rv a2, iv ff, iv fr, iv t1, iv t2, iv (2 : Int32), iv (own_bi bv), iv (own_bi bw), iv (own_K b0 b1 b2 kf), iv (own_K b0 b1 b2 (own_k1 kf)), rv a18, iv ress2, own_lv cns2, .second, iv vas2, iv vbs2, iv vcs2, iv vds2, iv pos2, iv pas2, iv ers2, own_lv ((e1s2 + e2s2) + e3s2), .second, .unset, .unset, .unset] [(.int (own_bi bv))] _
          refine XS.istore X114.here hx rfl (hb hby at_374) rfl (l' := #[iv xk, iv xa, iv xs, iv xv, iv xw, rv a2, iv ff, iv fr, iv t1, iv t2, iv (2 : Int32), iv (own_bi bv), iv (own_bi bw), iv (own_K b0 b1 b2 kf), iv (own_K b0 b1 b2 (own_k1 kf)), rv a18, iv ress2, own_lv cns2, .second, iv vas2, iv vbs2, iv vcs2, iv vds2, iv pos2, iv pas2, iv ers2, own_lv ((e1s2 + e2s2) + e3s2), .second, iv (own_bi bv), .unset, .unset]) rfl ?_
          show own_S p e below T114 m 376 #[iv xk, iv xa, iv xs, iv xv, iv xw, rv a2, iv ff, iv fr, iv t1, iv t2, iv (2 : Int32), iv (own_bi bv), iv (own_bi bw), iv (own_K b0 b1 b2 kf), iv (own_K b0 b1 b2 (own_k1 kf)), rv a18, iv ress2, own_lv cns2, .second, iv vas2, iv vbs2, iv vcs2, iv vds2, iv pos2, iv pas2, iv ers2, own_lv ((e1s2 + e2s2) + e3s2), .second, iv (own_bi bv), .unset, .unset] [] _
          refine XS.goto X114.here hx rfl (pc0 := 376) (pc' := 400) rfl (hb hby at_376) (by decide) (by decide) ?_
          show own_S p e below T114 m 400 #[iv xk, iv xa, iv xs, iv xv, iv xw, rv a2, iv ff, iv fr, iv t1, iv t2, iv (2 : Int32), iv (own_bi bv), iv (own_bi bw), iv (own_K b0 b1 b2 kf), iv (own_K b0 b1 b2 (own_k1 kf)), rv a18, iv ress2, own_lv cns2, .second, iv vas2, iv vbs2, iv vcs2, iv vds2, iv pos2, iv pas2, iv ers2, own_lv ((e1s2 + e2s2) + e3s2), .second, iv (own_bi bv), .unset, .unset] [] _
          rw [hecs2] at kt
          rw [show x1s2 = (own_bi bv) from by rw [hx1s2, if_pos hc127, if_neg hc128]] at kt
          exact kt
      · refine XS.ifNo X114.here hx rfl (hb hby at_357) rfl ((if0 _ _).trans (feq hc127).1) ?_
        show own_S p e below T114 m 360 #[iv xk, iv xa, iv xs, iv xv, iv xw, rv a2, iv ff, iv fr, iv t1, iv t2, iv (2 : Int32), iv (own_bi bv), iv (own_bi bw), iv (own_K b0 b1 b2 kf), iv (own_K b0 b1 b2 (own_k1 kf)), rv a18, iv ress2, own_lv cns2, .second, iv vas2, iv vbs2, iv vcs2, iv vds2, iv pos2, iv pas2, iv ers2, own_lv ((e1s2 + e2s2) + e3s2), .second, .unset, .unset, .unset] [] _
        refine XS.iload X114.here hx rfl (hb hby at_360) rfl ?_
        show own_S p e below T114 m 362 #[iv xk, iv xa, iv xs, iv xv, iv xw, rv a2, iv ff, iv fr, iv t1, iv t2, iv (2 : Int32), iv (own_bi bv), iv (own_bi bw), iv (own_K b0 b1 b2 kf), iv (own_K b0 b1 b2 (own_k1 kf)), rv a18, iv ress2, own_lv cns2, .second, iv vas2, iv vbs2, iv vcs2, iv vds2, iv pos2, iv pas2, iv ers2, own_lv ((e1s2 + e2s2) + e3s2), .second, .unset, .unset, .unset] [(.int (own_bi bw))] _
        refine XS.istore X114.here hx rfl (hb hby at_362) rfl (l' := #[iv xk, iv xa, iv xs, iv xv, iv xw, rv a2, iv ff, iv fr, iv t1, iv t2, iv (2 : Int32), iv (own_bi bv), iv (own_bi bw), iv (own_K b0 b1 b2 kf), iv (own_K b0 b1 b2 (own_k1 kf)), rv a18, iv ress2, own_lv cns2, .second, iv vas2, iv vbs2, iv vcs2, iv vds2, iv pos2, iv pas2, iv ers2, own_lv ((e1s2 + e2s2) + e3s2), .second, iv (own_bi bw), .unset, .unset]) rfl ?_
        show own_S p e below T114 m 364 #[iv xk, iv xa, iv xs, iv xv, iv xw, rv a2, iv ff, iv fr, iv t1, iv t2, iv (2 : Int32), iv (own_bi bv), iv (own_bi bw), iv (own_K b0 b1 b2 kf), iv (own_K b0 b1 b2 (own_k1 kf)), rv a18, iv ress2, own_lv cns2, .second, iv vas2, iv vbs2, iv vcs2, iv vds2, iv pos2, iv pas2, iv ers2, own_lv ((e1s2 + e2s2) + e3s2), .second, iv (own_bi bw), .unset, .unset] [] _
        refine XS.goto X114.here hx rfl (pc0 := 364) (pc' := 400) rfl (hb hby at_364) (by decide) (by decide) ?_
        show own_S p e below T114 m 400 #[iv xk, iv xa, iv xs, iv xv, iv xw, rv a2, iv ff, iv fr, iv t1, iv t2, iv (2 : Int32), iv (own_bi bv), iv (own_bi bw), iv (own_K b0 b1 b2 kf), iv (own_K b0 b1 b2 (own_k1 kf)), rv a18, iv ress2, own_lv cns2, .second, iv vas2, iv vbs2, iv vcs2, iv vds2, iv pos2, iv pas2, iv ers2, own_lv ((e1s2 + e2s2) + e3s2), .second, iv (own_bi bw), .unset, .unset] [] _
        rw [hecs2] at kt
        rw [show x1s2 = (own_bi bw) from by rw [hx1s2, if_neg hc127]] at kt
        exact kt
    refine own_st sg129 ?_
    obtain ⟨x2s2, hx2s2⟩ : ∃ z : Int32, z = (if pas2 = (0 : Int32) then (if ers2 = (0 : Int32) then (-1 : Int32) else (own_bi bv)) else (own_bi bw)) := ⟨_, rfl⟩
    have sg132 : own_V p e below T114 (mkF m 427 #[iv xk, iv xa, iv xs, iv xv, iv xw, rv a2, iv ff, iv fr, iv t1, iv t2, iv (2 : Int32), iv (own_bi bv), iv (own_bi bw), iv (own_K b0 b1 b2 kf), iv (own_K b0 b1 b2 (own_k1 kf)), rv a18, iv ress2, own_lv cns2, .second, iv vas2, iv vbs2, iv vcs2, iv vds2, iv pos2, iv pas2, iv ers2, own_lv ecs2, .second, iv x1s2, iv x2s2, .unset] []) (mkF m 400 #[iv xk, iv xa, iv xs, iv xv, iv xw, rv a2, iv ff, iv fr, iv t1, iv t2, iv (2 : Int32), iv (own_bi bv), iv (own_bi bw), iv (own_K b0 b1 b2 kf), iv (own_K b0 b1 b2 (own_k1 kf)), rv a18, iv ress2, own_lv cns2, .second, iv vas2, iv vbs2, iv vcs2, iv vds2, iv pos2, iv pas2, iv ers2, own_lv ecs2, .second, iv x1s2, .unset, .unset] []) := by
      intro t kt
      refine XS.iload X114.here hx rfl (hb hby at_400) rfl ?_
      show own_S p e below T114 m 402 #[iv xk, iv xa, iv xs, iv xv, iv xw, rv a2, iv ff, iv fr, iv t1, iv t2, iv (2 : Int32), iv (own_bi bv), iv (own_bi bw), iv (own_K b0 b1 b2 kf), iv (own_K b0 b1 b2 (own_k1 kf)), rv a18, iv ress2, own_lv cns2, .second, iv vas2, iv vbs2, iv vcs2, iv vds2, iv pos2, iv pas2, iv ers2, own_lv ecs2, .second, iv x1s2, .unset, .unset] [(.int pas2)] _
      by_cases hc130 : pas2 = (0 : Int32)
      · refine XS.ifYes X114.here hx rfl (pc0 := 402) (pc' := 412) rfl (hb hby at_402) rfl ((if0 _ _).trans (teq hc130).1) (by decide) (by decide) ?_
        show own_S p e below T114 m 412 #[iv xk, iv xa, iv xs, iv xv, iv xw, rv a2, iv ff, iv fr, iv t1, iv t2, iv (2 : Int32), iv (own_bi bv), iv (own_bi bw), iv (own_K b0 b1 b2 kf), iv (own_K b0 b1 b2 (own_k1 kf)), rv a18, iv ress2, own_lv cns2, .second, iv vas2, iv vbs2, iv vcs2, iv vds2, iv pos2, iv pas2, iv ers2, own_lv ecs2, .second, iv x1s2, .unset, .unset] [] _
        refine XS.iload X114.here hx rfl (hb hby at_412) rfl ?_
        show own_S p e below T114 m 414 #[iv xk, iv xa, iv xs, iv xv, iv xw, rv a2, iv ff, iv fr, iv t1, iv t2, iv (2 : Int32), iv (own_bi bv), iv (own_bi bw), iv (own_K b0 b1 b2 kf), iv (own_K b0 b1 b2 (own_k1 kf)), rv a18, iv ress2, own_lv cns2, .second, iv vas2, iv vbs2, iv vcs2, iv vds2, iv pos2, iv pas2, iv ers2, own_lv ecs2, .second, iv x1s2, .unset, .unset] [(.int ers2)] _
        by_cases hc131 : ers2 = (0 : Int32)
        · refine XS.ifYes X114.here hx rfl (pc0 := 414) (pc' := 424) rfl (hb hby at_414) rfl ((if0 _ _).trans (teq hc131).1) (by decide) (by decide) ?_
          show own_S p e below T114 m 424 #[iv xk, iv xa, iv xs, iv xv, iv xw, rv a2, iv ff, iv fr, iv t1, iv t2, iv (2 : Int32), iv (own_bi bv), iv (own_bi bw), iv (own_K b0 b1 b2 kf), iv (own_K b0 b1 b2 (own_k1 kf)), rv a18, iv ress2, own_lv cns2, .second, iv vas2, iv vbs2, iv vcs2, iv vds2, iv pos2, iv pas2, iv ers2, own_lv ecs2, .second, iv x1s2, .unset, .unset] [] _
          refine XS.iconst X114.here hx rfl (hb hby at_424) ?_
          show own_S p e below T114 m 425 #[iv xk, iv xa, iv xs, iv xv, iv xw, rv a2, iv ff, iv fr, iv t1, iv t2, iv (2 : Int32), iv (own_bi bv), iv (own_bi bw), iv (own_K b0 b1 b2 kf), iv (own_K b0 b1 b2 (own_k1 kf)), rv a18, iv ress2, own_lv cns2, .second, iv vas2, iv vbs2, iv vcs2, iv vds2, iv pos2, iv pas2, iv ers2, own_lv ecs2, .second, iv x1s2, .unset, .unset] [(.int (-1 : Int32))] _
          refine XS.istore X114.here hx rfl (hb hby at_425) rfl (l' := #[iv xk, iv xa, iv xs, iv xv, iv xw, rv a2, iv ff, iv fr, iv t1, iv t2, iv (2 : Int32), iv (own_bi bv), iv (own_bi bw), iv (own_K b0 b1 b2 kf), iv (own_K b0 b1 b2 (own_k1 kf)), rv a18, iv ress2, own_lv cns2, .second, iv vas2, iv vbs2, iv vcs2, iv vds2, iv pos2, iv pas2, iv ers2, own_lv ecs2, .second, iv x1s2, iv (-1 : Int32), .unset]) rfl ?_
          show own_S p e below T114 m 427 #[iv xk, iv xa, iv xs, iv xv, iv xw, rv a2, iv ff, iv fr, iv t1, iv t2, iv (2 : Int32), iv (own_bi bv), iv (own_bi bw), iv (own_K b0 b1 b2 kf), iv (own_K b0 b1 b2 (own_k1 kf)), rv a18, iv ress2, own_lv cns2, .second, iv vas2, iv vbs2, iv vcs2, iv vds2, iv pos2, iv pas2, iv ers2, own_lv ecs2, .second, iv x1s2, iv (-1 : Int32), .unset] [] _
          rw [show x2s2 = (-1 : Int32) from by rw [hx2s2, if_pos hc130, if_pos hc131]] at kt
          exact kt
        · refine XS.ifNo X114.here hx rfl (hb hby at_414) rfl ((if0 _ _).trans (feq hc131).1) ?_
          show own_S p e below T114 m 417 #[iv xk, iv xa, iv xs, iv xv, iv xw, rv a2, iv ff, iv fr, iv t1, iv t2, iv (2 : Int32), iv (own_bi bv), iv (own_bi bw), iv (own_K b0 b1 b2 kf), iv (own_K b0 b1 b2 (own_k1 kf)), rv a18, iv ress2, own_lv cns2, .second, iv vas2, iv vbs2, iv vcs2, iv vds2, iv pos2, iv pas2, iv ers2, own_lv ecs2, .second, iv x1s2, .unset, .unset] [] _
          refine XS.iload X114.here hx rfl (hb hby at_417) rfl ?_
          show own_S p e below T114 m 419 #[iv xk, iv xa, iv xs, iv xv, iv xw, rv a2, iv ff, iv fr, iv t1, iv t2, iv (2 : Int32), iv (own_bi bv), iv (own_bi bw), iv (own_K b0 b1 b2 kf), iv (own_K b0 b1 b2 (own_k1 kf)), rv a18, iv ress2, own_lv cns2, .second, iv vas2, iv vbs2, iv vcs2, iv vds2, iv pos2, iv pas2, iv ers2, own_lv ecs2, .second, iv x1s2, .unset, .unset] [(.int (own_bi bv))] _
          refine XS.istore X114.here hx rfl (hb hby at_419) rfl (l' := #[iv xk, iv xa, iv xs, iv xv, iv xw, rv a2, iv ff, iv fr, iv t1, iv t2, iv (2 : Int32), iv (own_bi bv), iv (own_bi bw), iv (own_K b0 b1 b2 kf), iv (own_K b0 b1 b2 (own_k1 kf)), rv a18, iv ress2, own_lv cns2, .second, iv vas2, iv vbs2, iv vcs2, iv vds2, iv pos2, iv pas2, iv ers2, own_lv ecs2, .second, iv x1s2, iv (own_bi bv), .unset]) rfl ?_
          show own_S p e below T114 m 421 #[iv xk, iv xa, iv xs, iv xv, iv xw, rv a2, iv ff, iv fr, iv t1, iv t2, iv (2 : Int32), iv (own_bi bv), iv (own_bi bw), iv (own_K b0 b1 b2 kf), iv (own_K b0 b1 b2 (own_k1 kf)), rv a18, iv ress2, own_lv cns2, .second, iv vas2, iv vbs2, iv vcs2, iv vds2, iv pos2, iv pas2, iv ers2, own_lv ecs2, .second, iv x1s2, iv (own_bi bv), .unset] [] _
          refine XS.goto X114.here hx rfl (pc0 := 421) (pc' := 427) rfl (hb hby at_421) (by decide) (by decide) ?_
          show own_S p e below T114 m 427 #[iv xk, iv xa, iv xs, iv xv, iv xw, rv a2, iv ff, iv fr, iv t1, iv t2, iv (2 : Int32), iv (own_bi bv), iv (own_bi bw), iv (own_K b0 b1 b2 kf), iv (own_K b0 b1 b2 (own_k1 kf)), rv a18, iv ress2, own_lv cns2, .second, iv vas2, iv vbs2, iv vcs2, iv vds2, iv pos2, iv pas2, iv ers2, own_lv ecs2, .second, iv x1s2, iv (own_bi bv), .unset] [] _
          rw [show x2s2 = (own_bi bv) from by rw [hx2s2, if_pos hc130, if_neg hc131]] at kt
          exact kt
      · refine XS.ifNo X114.here hx rfl (hb hby at_402) rfl ((if0 _ _).trans (feq hc130).1) ?_
        show own_S p e below T114 m 405 #[iv xk, iv xa, iv xs, iv xv, iv xw, rv a2, iv ff, iv fr, iv t1, iv t2, iv (2 : Int32), iv (own_bi bv), iv (own_bi bw), iv (own_K b0 b1 b2 kf), iv (own_K b0 b1 b2 (own_k1 kf)), rv a18, iv ress2, own_lv cns2, .second, iv vas2, iv vbs2, iv vcs2, iv vds2, iv pos2, iv pas2, iv ers2, own_lv ecs2, .second, iv x1s2, .unset, .unset] [] _
        refine XS.iload X114.here hx rfl (hb hby at_405) rfl ?_
        show own_S p e below T114 m 407 #[iv xk, iv xa, iv xs, iv xv, iv xw, rv a2, iv ff, iv fr, iv t1, iv t2, iv (2 : Int32), iv (own_bi bv), iv (own_bi bw), iv (own_K b0 b1 b2 kf), iv (own_K b0 b1 b2 (own_k1 kf)), rv a18, iv ress2, own_lv cns2, .second, iv vas2, iv vbs2, iv vcs2, iv vds2, iv pos2, iv pas2, iv ers2, own_lv ecs2, .second, iv x1s2, .unset, .unset] [(.int (own_bi bw))] _
        refine XS.istore X114.here hx rfl (hb hby at_407) rfl (l' := #[iv xk, iv xa, iv xs, iv xv, iv xw, rv a2, iv ff, iv fr, iv t1, iv t2, iv (2 : Int32), iv (own_bi bv), iv (own_bi bw), iv (own_K b0 b1 b2 kf), iv (own_K b0 b1 b2 (own_k1 kf)), rv a18, iv ress2, own_lv cns2, .second, iv vas2, iv vbs2, iv vcs2, iv vds2, iv pos2, iv pas2, iv ers2, own_lv ecs2, .second, iv x1s2, iv (own_bi bw), .unset]) rfl ?_
        show own_S p e below T114 m 409 #[iv xk, iv xa, iv xs, iv xv, iv xw, rv a2, iv ff, iv fr, iv t1, iv t2, iv (2 : Int32), iv (own_bi bv), iv (own_bi bw), iv (own_K b0 b1 b2 kf), iv (own_K b0 b1 b2 (own_k1 kf)), rv a18, iv ress2, own_lv cns2, .second, iv vas2, iv vbs2, iv vcs2, iv vds2, iv pos2, iv pas2, iv ers2, own_lv ecs2, .second, iv x1s2, iv (own_bi bw), .unset] [] _
        refine XS.goto X114.here hx rfl (pc0 := 409) (pc' := 427) rfl (hb hby at_409) (by decide) (by decide) ?_
        show own_S p e below T114 m 427 #[iv xk, iv xa, iv xs, iv xv, iv xw, rv a2, iv ff, iv fr, iv t1, iv t2, iv (2 : Int32), iv (own_bi bv), iv (own_bi bw), iv (own_K b0 b1 b2 kf), iv (own_K b0 b1 b2 (own_k1 kf)), rv a18, iv ress2, own_lv cns2, .second, iv vas2, iv vbs2, iv vcs2, iv vds2, iv pos2, iv pas2, iv ers2, own_lv ecs2, .second, iv x1s2, iv (own_bi bw), .unset] [] _
        rw [show x2s2 = (own_bi bw) from by rw [hx2s2, if_neg hc130]] at kt
        exact kt
    refine own_st sg132 ?_
    obtain ⟨xbs2, hxbs2⟩ : ∃ z : Int32, z = (-1 : Int32) := ⟨_, rfl⟩
    have sg133 : own_V p e below T114 (mkF m 444 #[iv xk, iv xa, iv xs, iv xv, iv xw, rv a2, iv ff, iv fr, iv t1, iv t2, iv (2 : Int32), iv (own_bi bv), iv (own_bi bw), iv (own_K b0 b1 b2 kf), iv (own_K b0 b1 b2 (own_k1 kf)), rv a18, iv ress2, own_lv cns2, .second, iv vas2, iv vbs2, iv vcs2, iv vds2, iv pos2, iv pas2, iv ers2, own_lv ecs2, .second, iv x1s2, iv x2s2, .unset] [(.int xbs2)]) (mkF m 427 #[iv xk, iv xa, iv xs, iv xv, iv xw, rv a2, iv ff, iv fr, iv t1, iv t2, iv (2 : Int32), iv (own_bi bv), iv (own_bi bw), iv (own_K b0 b1 b2 kf), iv (own_K b0 b1 b2 (own_k1 kf)), rv a18, iv ress2, own_lv cns2, .second, iv vas2, iv vbs2, iv vcs2, iv vds2, iv pos2, iv pas2, iv ers2, own_lv ecs2, .second, iv x1s2, iv x2s2, .unset] []) := by
      intro t kt
      refine XS.iload X114.here hx rfl (hb hby at_427) rfl ?_
      show own_S p e below T114 m 429 #[iv xk, iv xa, iv xs, iv xv, iv xw, rv a2, iv ff, iv fr, iv t1, iv t2, iv (2 : Int32), iv (own_bi bv), iv (own_bi bw), iv (own_K b0 b1 b2 kf), iv (own_K b0 b1 b2 (own_k1 kf)), rv a18, iv ress2, own_lv cns2, .second, iv vas2, iv vbs2, iv vcs2, iv vds2, iv pos2, iv pas2, iv ers2, own_lv ecs2, .second, iv x1s2, iv x2s2, .unset] [(.int (2 : Int32))] _
      refine XS.iconst X114.here hx rfl (hb hby at_429) ?_
      show own_S p e below T114 m 430 #[iv xk, iv xa, iv xs, iv xv, iv xw, rv a2, iv ff, iv fr, iv t1, iv t2, iv (2 : Int32), iv (own_bi bv), iv (own_bi bw), iv (own_K b0 b1 b2 kf), iv (own_K b0 b1 b2 (own_k1 kf)), rv a18, iv ress2, own_lv cns2, .second, iv vas2, iv vbs2, iv vcs2, iv vds2, iv pos2, iv pas2, iv ers2, own_lv ecs2, .second, iv x1s2, iv x2s2, .unset] [(.int (3 : Int32)), (.int (2 : Int32))] _
      refine XS.icmpYes X114.here hx rfl (pc0 := 430) (pc' := 443) rfl (hb hby at_430) rfl (feq (by decide : ¬ (2 : Int32) = (3 : Int32))).2 (by decide) (by decide) ?_
      show own_S p e below T114 m 443 #[iv xk, iv xa, iv xs, iv xv, iv xw, rv a2, iv ff, iv fr, iv t1, iv t2, iv (2 : Int32), iv (own_bi bv), iv (own_bi bw), iv (own_K b0 b1 b2 kf), iv (own_K b0 b1 b2 (own_k1 kf)), rv a18, iv ress2, own_lv cns2, .second, iv vas2, iv vbs2, iv vcs2, iv vds2, iv pos2, iv pas2, iv ers2, own_lv ecs2, .second, iv x1s2, iv x2s2, .unset] [] _
      refine XS.iconst X114.here hx rfl (hb hby at_443) ?_
      show own_S p e below T114 m 444 #[iv xk, iv xa, iv xs, iv xv, iv xw, rv a2, iv ff, iv fr, iv t1, iv t2, iv (2 : Int32), iv (own_bi bv), iv (own_bi bw), iv (own_K b0 b1 b2 kf), iv (own_K b0 b1 b2 (own_k1 kf)), rv a18, iv ress2, own_lv cns2, .second, iv vas2, iv vbs2, iv vcs2, iv vds2, iv pos2, iv pas2, iv ers2, own_lv ecs2, .second, iv x1s2, iv x2s2, .unset] [(.int (-1 : Int32))] _
      rw [hxbs2] at kt
      exact kt
    refine own_st sg133 ?_
    obtain ⟨rrs2, hrrs2⟩ : ∃ z : Int32, z = (if ress2 = ers2 then (if cns2 = ecs2 then (if vas2 = x1s2 then (if vbs2 = x2s2 then (if vcs2 = (-1 : Int32) then (if vds2 = xbs2 then (1 : Int32) else (0 : Int32)) else (0 : Int32)) else (0 : Int32)) else (0 : Int32)) else (0 : Int32)) else (0 : Int32)) := ⟨_, rfl⟩
    have sg140 : own_V p e below T114 (mkF m 493 #[iv xk, iv xa, iv xs, iv xv, iv xw, rv a2, iv ff, iv fr, iv t1, iv t2, iv (2 : Int32), iv (own_bi bv), iv (own_bi bw), iv (own_K b0 b1 b2 kf), iv (own_K b0 b1 b2 (own_k1 kf)), rv a18, iv ress2, own_lv cns2, .second, iv vas2, iv vbs2, iv vcs2, iv vds2, iv pos2, iv pas2, iv ers2, own_lv ecs2, .second, iv x1s2, iv x2s2, iv xbs2] [(.int rrs2)]) (mkF m 444 #[iv xk, iv xa, iv xs, iv xv, iv xw, rv a2, iv ff, iv fr, iv t1, iv t2, iv (2 : Int32), iv (own_bi bv), iv (own_bi bw), iv (own_K b0 b1 b2 kf), iv (own_K b0 b1 b2 (own_k1 kf)), rv a18, iv ress2, own_lv cns2, .second, iv vas2, iv vbs2, iv vcs2, iv vds2, iv pos2, iv pas2, iv ers2, own_lv ecs2, .second, iv x1s2, iv x2s2, .unset] [(.int xbs2)]) := by
      intro t kt
      refine XS.istore X114.here hx rfl (hb hby at_444) rfl (l' := #[iv xk, iv xa, iv xs, iv xv, iv xw, rv a2, iv ff, iv fr, iv t1, iv t2, iv (2 : Int32), iv (own_bi bv), iv (own_bi bw), iv (own_K b0 b1 b2 kf), iv (own_K b0 b1 b2 (own_k1 kf)), rv a18, iv ress2, own_lv cns2, .second, iv vas2, iv vbs2, iv vcs2, iv vds2, iv pos2, iv pas2, iv ers2, own_lv ecs2, .second, iv x1s2, iv x2s2, iv xbs2]) rfl ?_
      show own_S p e below T114 m 446 #[iv xk, iv xa, iv xs, iv xv, iv xw, rv a2, iv ff, iv fr, iv t1, iv t2, iv (2 : Int32), iv (own_bi bv), iv (own_bi bw), iv (own_K b0 b1 b2 kf), iv (own_K b0 b1 b2 (own_k1 kf)), rv a18, iv ress2, own_lv cns2, .second, iv vas2, iv vbs2, iv vcs2, iv vds2, iv pos2, iv pas2, iv ers2, own_lv ecs2, .second, iv x1s2, iv x2s2, iv xbs2] [] _
      refine XS.iload X114.here hx rfl (hb hby at_446) rfl ?_
      show own_S p e below T114 m 448 #[iv xk, iv xa, iv xs, iv xv, iv xw, rv a2, iv ff, iv fr, iv t1, iv t2, iv (2 : Int32), iv (own_bi bv), iv (own_bi bw), iv (own_K b0 b1 b2 kf), iv (own_K b0 b1 b2 (own_k1 kf)), rv a18, iv ress2, own_lv cns2, .second, iv vas2, iv vbs2, iv vcs2, iv vds2, iv pos2, iv pas2, iv ers2, own_lv ecs2, .second, iv x1s2, iv x2s2, iv xbs2] [(.int ress2)] _
      refine XS.iload X114.here hx rfl (hb hby at_448) rfl ?_
      show own_S p e below T114 m 450 #[iv xk, iv xa, iv xs, iv xv, iv xw, rv a2, iv ff, iv fr, iv t1, iv t2, iv (2 : Int32), iv (own_bi bv), iv (own_bi bw), iv (own_K b0 b1 b2 kf), iv (own_K b0 b1 b2 (own_k1 kf)), rv a18, iv ress2, own_lv cns2, .second, iv vas2, iv vbs2, iv vcs2, iv vds2, iv pos2, iv pas2, iv ers2, own_lv ecs2, .second, iv x1s2, iv x2s2, iv xbs2] [(.int ers2), (.int ress2)] _
      by_cases hc134 : ress2 = ers2
      · refine XS.icmpNo X114.here hx rfl (hb hby at_450) rfl (teq hc134).2 ?_
        show own_S p e below T114 m 453 #[iv xk, iv xa, iv xs, iv xv, iv xw, rv a2, iv ff, iv fr, iv t1, iv t2, iv (2 : Int32), iv (own_bi bv), iv (own_bi bw), iv (own_K b0 b1 b2 kf), iv (own_K b0 b1 b2 (own_k1 kf)), rv a18, iv ress2, own_lv cns2, .second, iv vas2, iv vbs2, iv vcs2, iv vds2, iv pos2, iv pas2, iv ers2, own_lv ecs2, .second, iv x1s2, iv x2s2, iv xbs2] [] _
        refine XS.lload X114.here hx rfl (hb hby at_453) rfl ?_
        show own_S p e below T114 m 455 #[iv xk, iv xa, iv xs, iv xv, iv xw, rv a2, iv ff, iv fr, iv t1, iv t2, iv (2 : Int32), iv (own_bi bv), iv (own_bi bw), iv (own_K b0 b1 b2 kf), iv (own_K b0 b1 b2 (own_k1 kf)), rv a18, iv ress2, own_lv cns2, .second, iv vas2, iv vbs2, iv vcs2, iv vds2, iv pos2, iv pas2, iv ers2, own_lv ecs2, .second, iv x1s2, iv x2s2, iv xbs2] [(.long cns2)] _
        refine XS.lload X114.here hx rfl (hb hby at_455) rfl ?_
        show own_S p e below T114 m 457 #[iv xk, iv xa, iv xs, iv xv, iv xw, rv a2, iv ff, iv fr, iv t1, iv t2, iv (2 : Int32), iv (own_bi bv), iv (own_bi bw), iv (own_K b0 b1 b2 kf), iv (own_K b0 b1 b2 (own_k1 kf)), rv a18, iv ress2, own_lv cns2, .second, iv vas2, iv vbs2, iv vcs2, iv vds2, iv pos2, iv pas2, iv ers2, own_lv ecs2, .second, iv x1s2, iv x2s2, iv xbs2] [(.long ecs2), (.long cns2)] _
        refine XS.lcmp X114.here hx rfl (hb hby at_457) rfl ?_
        show own_S p e below T114 m 458 #[iv xk, iv xa, iv xs, iv xv, iv xw, rv a2, iv ff, iv fr, iv t1, iv t2, iv (2 : Int32), iv (own_bi bv), iv (own_bi bw), iv (own_K b0 b1 b2 kf), iv (own_K b0 b1 b2 (own_k1 kf)), rv a18, iv ress2, own_lv cns2, .second, iv vas2, iv vbs2, iv vcs2, iv vds2, iv pos2, iv pas2, iv ers2, own_lv ecs2, .second, iv x1s2, iv x2s2, iv xbs2] [(.int (lcmpW cns2 ecs2))] _
        by_cases hc135 : cns2 = ecs2
        · refine XS.ifNo X114.here hx rfl (hb hby at_458) rfl (own_teqL hc135).2 ?_
          show own_S p e below T114 m 461 #[iv xk, iv xa, iv xs, iv xv, iv xw, rv a2, iv ff, iv fr, iv t1, iv t2, iv (2 : Int32), iv (own_bi bv), iv (own_bi bw), iv (own_K b0 b1 b2 kf), iv (own_K b0 b1 b2 (own_k1 kf)), rv a18, iv ress2, own_lv cns2, .second, iv vas2, iv vbs2, iv vcs2, iv vds2, iv pos2, iv pas2, iv ers2, own_lv ecs2, .second, iv x1s2, iv x2s2, iv xbs2] [] _
          refine XS.iload X114.here hx rfl (hb hby at_461) rfl ?_
          show own_S p e below T114 m 463 #[iv xk, iv xa, iv xs, iv xv, iv xw, rv a2, iv ff, iv fr, iv t1, iv t2, iv (2 : Int32), iv (own_bi bv), iv (own_bi bw), iv (own_K b0 b1 b2 kf), iv (own_K b0 b1 b2 (own_k1 kf)), rv a18, iv ress2, own_lv cns2, .second, iv vas2, iv vbs2, iv vcs2, iv vds2, iv pos2, iv pas2, iv ers2, own_lv ecs2, .second, iv x1s2, iv x2s2, iv xbs2] [(.int vas2)] _
          refine XS.iload X114.here hx rfl (hb hby at_463) rfl ?_
          show own_S p e below T114 m 465 #[iv xk, iv xa, iv xs, iv xv, iv xw, rv a2, iv ff, iv fr, iv t1, iv t2, iv (2 : Int32), iv (own_bi bv), iv (own_bi bw), iv (own_K b0 b1 b2 kf), iv (own_K b0 b1 b2 (own_k1 kf)), rv a18, iv ress2, own_lv cns2, .second, iv vas2, iv vbs2, iv vcs2, iv vds2, iv pos2, iv pas2, iv ers2, own_lv ecs2, .second, iv x1s2, iv x2s2, iv xbs2] [(.int x1s2), (.int vas2)] _
          by_cases hc136 : vas2 = x1s2
          · refine XS.icmpNo X114.here hx rfl (hb hby at_465) rfl (teq hc136).2 ?_
            show own_S p e below T114 m 468 #[iv xk, iv xa, iv xs, iv xv, iv xw, rv a2, iv ff, iv fr, iv t1, iv t2, iv (2 : Int32), iv (own_bi bv), iv (own_bi bw), iv (own_K b0 b1 b2 kf), iv (own_K b0 b1 b2 (own_k1 kf)), rv a18, iv ress2, own_lv cns2, .second, iv vas2, iv vbs2, iv vcs2, iv vds2, iv pos2, iv pas2, iv ers2, own_lv ecs2, .second, iv x1s2, iv x2s2, iv xbs2] [] _
            refine XS.iload X114.here hx rfl (hb hby at_468) rfl ?_
            show own_S p e below T114 m 470 #[iv xk, iv xa, iv xs, iv xv, iv xw, rv a2, iv ff, iv fr, iv t1, iv t2, iv (2 : Int32), iv (own_bi bv), iv (own_bi bw), iv (own_K b0 b1 b2 kf), iv (own_K b0 b1 b2 (own_k1 kf)), rv a18, iv ress2, own_lv cns2, .second, iv vas2, iv vbs2, iv vcs2, iv vds2, iv pos2, iv pas2, iv ers2, own_lv ecs2, .second, iv x1s2, iv x2s2, iv xbs2] [(.int vbs2)] _
            refine XS.iload X114.here hx rfl (hb hby at_470) rfl ?_
            show own_S p e below T114 m 472 #[iv xk, iv xa, iv xs, iv xv, iv xw, rv a2, iv ff, iv fr, iv t1, iv t2, iv (2 : Int32), iv (own_bi bv), iv (own_bi bw), iv (own_K b0 b1 b2 kf), iv (own_K b0 b1 b2 (own_k1 kf)), rv a18, iv ress2, own_lv cns2, .second, iv vas2, iv vbs2, iv vcs2, iv vds2, iv pos2, iv pas2, iv ers2, own_lv ecs2, .second, iv x1s2, iv x2s2, iv xbs2] [(.int x2s2), (.int vbs2)] _
            by_cases hc137 : vbs2 = x2s2
            · refine XS.icmpNo X114.here hx rfl (hb hby at_472) rfl (teq hc137).2 ?_
              show own_S p e below T114 m 475 #[iv xk, iv xa, iv xs, iv xv, iv xw, rv a2, iv ff, iv fr, iv t1, iv t2, iv (2 : Int32), iv (own_bi bv), iv (own_bi bw), iv (own_K b0 b1 b2 kf), iv (own_K b0 b1 b2 (own_k1 kf)), rv a18, iv ress2, own_lv cns2, .second, iv vas2, iv vbs2, iv vcs2, iv vds2, iv pos2, iv pas2, iv ers2, own_lv ecs2, .second, iv x1s2, iv x2s2, iv xbs2] [] _
              refine XS.iload X114.here hx rfl (hb hby at_475) rfl ?_
              show own_S p e below T114 m 477 #[iv xk, iv xa, iv xs, iv xv, iv xw, rv a2, iv ff, iv fr, iv t1, iv t2, iv (2 : Int32), iv (own_bi bv), iv (own_bi bw), iv (own_K b0 b1 b2 kf), iv (own_K b0 b1 b2 (own_k1 kf)), rv a18, iv ress2, own_lv cns2, .second, iv vas2, iv vbs2, iv vcs2, iv vds2, iv pos2, iv pas2, iv ers2, own_lv ecs2, .second, iv x1s2, iv x2s2, iv xbs2] [(.int vcs2)] _
              refine XS.iconst X114.here hx rfl (hb hby at_477) ?_
              show own_S p e below T114 m 478 #[iv xk, iv xa, iv xs, iv xv, iv xw, rv a2, iv ff, iv fr, iv t1, iv t2, iv (2 : Int32), iv (own_bi bv), iv (own_bi bw), iv (own_K b0 b1 b2 kf), iv (own_K b0 b1 b2 (own_k1 kf)), rv a18, iv ress2, own_lv cns2, .second, iv vas2, iv vbs2, iv vcs2, iv vds2, iv pos2, iv pas2, iv ers2, own_lv ecs2, .second, iv x1s2, iv x2s2, iv xbs2] [(.int (-1 : Int32)), (.int vcs2)] _
              by_cases hc138 : vcs2 = (-1 : Int32)
              · refine XS.icmpNo X114.here hx rfl (hb hby at_478) rfl (teq hc138).2 ?_
                show own_S p e below T114 m 481 #[iv xk, iv xa, iv xs, iv xv, iv xw, rv a2, iv ff, iv fr, iv t1, iv t2, iv (2 : Int32), iv (own_bi bv), iv (own_bi bw), iv (own_K b0 b1 b2 kf), iv (own_K b0 b1 b2 (own_k1 kf)), rv a18, iv ress2, own_lv cns2, .second, iv vas2, iv vbs2, iv vcs2, iv vds2, iv pos2, iv pas2, iv ers2, own_lv ecs2, .second, iv x1s2, iv x2s2, iv xbs2] [] _
                refine XS.iload X114.here hx rfl (hb hby at_481) rfl ?_
                show own_S p e below T114 m 483 #[iv xk, iv xa, iv xs, iv xv, iv xw, rv a2, iv ff, iv fr, iv t1, iv t2, iv (2 : Int32), iv (own_bi bv), iv (own_bi bw), iv (own_K b0 b1 b2 kf), iv (own_K b0 b1 b2 (own_k1 kf)), rv a18, iv ress2, own_lv cns2, .second, iv vas2, iv vbs2, iv vcs2, iv vds2, iv pos2, iv pas2, iv ers2, own_lv ecs2, .second, iv x1s2, iv x2s2, iv xbs2] [(.int vds2)] _
                refine XS.iload X114.here hx rfl (hb hby at_483) rfl ?_
                show own_S p e below T114 m 485 #[iv xk, iv xa, iv xs, iv xv, iv xw, rv a2, iv ff, iv fr, iv t1, iv t2, iv (2 : Int32), iv (own_bi bv), iv (own_bi bw), iv (own_K b0 b1 b2 kf), iv (own_K b0 b1 b2 (own_k1 kf)), rv a18, iv ress2, own_lv cns2, .second, iv vas2, iv vbs2, iv vcs2, iv vds2, iv pos2, iv pas2, iv ers2, own_lv ecs2, .second, iv x1s2, iv x2s2, iv xbs2] [(.int xbs2), (.int vds2)] _
                by_cases hc139 : vds2 = xbs2
                · refine XS.icmpNo X114.here hx rfl (hb hby at_485) rfl (teq hc139).2 ?_
                  show own_S p e below T114 m 488 #[iv xk, iv xa, iv xs, iv xv, iv xw, rv a2, iv ff, iv fr, iv t1, iv t2, iv (2 : Int32), iv (own_bi bv), iv (own_bi bw), iv (own_K b0 b1 b2 kf), iv (own_K b0 b1 b2 (own_k1 kf)), rv a18, iv ress2, own_lv cns2, .second, iv vas2, iv vbs2, iv vcs2, iv vds2, iv pos2, iv pas2, iv ers2, own_lv ecs2, .second, iv x1s2, iv x2s2, iv xbs2] [] _
                  refine XS.iconst X114.here hx rfl (hb hby at_488) ?_
                  show own_S p e below T114 m 489 #[iv xk, iv xa, iv xs, iv xv, iv xw, rv a2, iv ff, iv fr, iv t1, iv t2, iv (2 : Int32), iv (own_bi bv), iv (own_bi bw), iv (own_K b0 b1 b2 kf), iv (own_K b0 b1 b2 (own_k1 kf)), rv a18, iv ress2, own_lv cns2, .second, iv vas2, iv vbs2, iv vcs2, iv vds2, iv pos2, iv pas2, iv ers2, own_lv ecs2, .second, iv x1s2, iv x2s2, iv xbs2] [(.int (1 : Int32))] _
                  refine XS.goto X114.here hx rfl (pc0 := 489) (pc' := 493) rfl (hb hby at_489) (by decide) (by decide) ?_
                  show own_S p e below T114 m 493 #[iv xk, iv xa, iv xs, iv xv, iv xw, rv a2, iv ff, iv fr, iv t1, iv t2, iv (2 : Int32), iv (own_bi bv), iv (own_bi bw), iv (own_K b0 b1 b2 kf), iv (own_K b0 b1 b2 (own_k1 kf)), rv a18, iv ress2, own_lv cns2, .second, iv vas2, iv vbs2, iv vcs2, iv vds2, iv pos2, iv pas2, iv ers2, own_lv ecs2, .second, iv x1s2, iv x2s2, iv xbs2] [(.int (1 : Int32))] _
                  rw [show rrs2 = (1 : Int32) from by rw [hrrs2, if_pos hc134, if_pos hc135, if_pos hc136, if_pos hc137, if_pos hc138, if_pos hc139]] at kt
                  exact kt
                · refine XS.icmpYes X114.here hx rfl (pc0 := 485) (pc' := 492) rfl (hb hby at_485) rfl (feq hc139).2 (by decide) (by decide) ?_
                  show own_S p e below T114 m 492 #[iv xk, iv xa, iv xs, iv xv, iv xw, rv a2, iv ff, iv fr, iv t1, iv t2, iv (2 : Int32), iv (own_bi bv), iv (own_bi bw), iv (own_K b0 b1 b2 kf), iv (own_K b0 b1 b2 (own_k1 kf)), rv a18, iv ress2, own_lv cns2, .second, iv vas2, iv vbs2, iv vcs2, iv vds2, iv pos2, iv pas2, iv ers2, own_lv ecs2, .second, iv x1s2, iv x2s2, iv xbs2] [] _
                  refine XS.iconst X114.here hx rfl (hb hby at_492) ?_
                  show own_S p e below T114 m 493 #[iv xk, iv xa, iv xs, iv xv, iv xw, rv a2, iv ff, iv fr, iv t1, iv t2, iv (2 : Int32), iv (own_bi bv), iv (own_bi bw), iv (own_K b0 b1 b2 kf), iv (own_K b0 b1 b2 (own_k1 kf)), rv a18, iv ress2, own_lv cns2, .second, iv vas2, iv vbs2, iv vcs2, iv vds2, iv pos2, iv pas2, iv ers2, own_lv ecs2, .second, iv x1s2, iv x2s2, iv xbs2] [(.int (0 : Int32))] _
                  rw [show rrs2 = (0 : Int32) from by rw [hrrs2, if_pos hc134, if_pos hc135, if_pos hc136, if_pos hc137, if_pos hc138, if_neg hc139]] at kt
                  exact kt
              · refine XS.icmpYes X114.here hx rfl (pc0 := 478) (pc' := 492) rfl (hb hby at_478) rfl (feq hc138).2 (by decide) (by decide) ?_
                show own_S p e below T114 m 492 #[iv xk, iv xa, iv xs, iv xv, iv xw, rv a2, iv ff, iv fr, iv t1, iv t2, iv (2 : Int32), iv (own_bi bv), iv (own_bi bw), iv (own_K b0 b1 b2 kf), iv (own_K b0 b1 b2 (own_k1 kf)), rv a18, iv ress2, own_lv cns2, .second, iv vas2, iv vbs2, iv vcs2, iv vds2, iv pos2, iv pas2, iv ers2, own_lv ecs2, .second, iv x1s2, iv x2s2, iv xbs2] [] _
                refine XS.iconst X114.here hx rfl (hb hby at_492) ?_
                show own_S p e below T114 m 493 #[iv xk, iv xa, iv xs, iv xv, iv xw, rv a2, iv ff, iv fr, iv t1, iv t2, iv (2 : Int32), iv (own_bi bv), iv (own_bi bw), iv (own_K b0 b1 b2 kf), iv (own_K b0 b1 b2 (own_k1 kf)), rv a18, iv ress2, own_lv cns2, .second, iv vas2, iv vbs2, iv vcs2, iv vds2, iv pos2, iv pas2, iv ers2, own_lv ecs2, .second, iv x1s2, iv x2s2, iv xbs2] [(.int (0 : Int32))] _
                rw [show rrs2 = (0 : Int32) from by rw [hrrs2, if_pos hc134, if_pos hc135, if_pos hc136, if_pos hc137, if_neg hc138]] at kt
                exact kt
            · refine XS.icmpYes X114.here hx rfl (pc0 := 472) (pc' := 492) rfl (hb hby at_472) rfl (feq hc137).2 (by decide) (by decide) ?_
              show own_S p e below T114 m 492 #[iv xk, iv xa, iv xs, iv xv, iv xw, rv a2, iv ff, iv fr, iv t1, iv t2, iv (2 : Int32), iv (own_bi bv), iv (own_bi bw), iv (own_K b0 b1 b2 kf), iv (own_K b0 b1 b2 (own_k1 kf)), rv a18, iv ress2, own_lv cns2, .second, iv vas2, iv vbs2, iv vcs2, iv vds2, iv pos2, iv pas2, iv ers2, own_lv ecs2, .second, iv x1s2, iv x2s2, iv xbs2] [] _
              refine XS.iconst X114.here hx rfl (hb hby at_492) ?_
              show own_S p e below T114 m 493 #[iv xk, iv xa, iv xs, iv xv, iv xw, rv a2, iv ff, iv fr, iv t1, iv t2, iv (2 : Int32), iv (own_bi bv), iv (own_bi bw), iv (own_K b0 b1 b2 kf), iv (own_K b0 b1 b2 (own_k1 kf)), rv a18, iv ress2, own_lv cns2, .second, iv vas2, iv vbs2, iv vcs2, iv vds2, iv pos2, iv pas2, iv ers2, own_lv ecs2, .second, iv x1s2, iv x2s2, iv xbs2] [(.int (0 : Int32))] _
              rw [show rrs2 = (0 : Int32) from by rw [hrrs2, if_pos hc134, if_pos hc135, if_pos hc136, if_neg hc137]] at kt
              exact kt
          · refine XS.icmpYes X114.here hx rfl (pc0 := 465) (pc' := 492) rfl (hb hby at_465) rfl (feq hc136).2 (by decide) (by decide) ?_
            show own_S p e below T114 m 492 #[iv xk, iv xa, iv xs, iv xv, iv xw, rv a2, iv ff, iv fr, iv t1, iv t2, iv (2 : Int32), iv (own_bi bv), iv (own_bi bw), iv (own_K b0 b1 b2 kf), iv (own_K b0 b1 b2 (own_k1 kf)), rv a18, iv ress2, own_lv cns2, .second, iv vas2, iv vbs2, iv vcs2, iv vds2, iv pos2, iv pas2, iv ers2, own_lv ecs2, .second, iv x1s2, iv x2s2, iv xbs2] [] _
            refine XS.iconst X114.here hx rfl (hb hby at_492) ?_
            show own_S p e below T114 m 493 #[iv xk, iv xa, iv xs, iv xv, iv xw, rv a2, iv ff, iv fr, iv t1, iv t2, iv (2 : Int32), iv (own_bi bv), iv (own_bi bw), iv (own_K b0 b1 b2 kf), iv (own_K b0 b1 b2 (own_k1 kf)), rv a18, iv ress2, own_lv cns2, .second, iv vas2, iv vbs2, iv vcs2, iv vds2, iv pos2, iv pas2, iv ers2, own_lv ecs2, .second, iv x1s2, iv x2s2, iv xbs2] [(.int (0 : Int32))] _
            rw [show rrs2 = (0 : Int32) from by rw [hrrs2, if_pos hc134, if_pos hc135, if_neg hc136]] at kt
            exact kt
        · refine XS.ifYes X114.here hx rfl (pc0 := 458) (pc' := 492) rfl (hb hby at_458) rfl (own_feqL hc135).2 (by decide) (by decide) ?_
          show own_S p e below T114 m 492 #[iv xk, iv xa, iv xs, iv xv, iv xw, rv a2, iv ff, iv fr, iv t1, iv t2, iv (2 : Int32), iv (own_bi bv), iv (own_bi bw), iv (own_K b0 b1 b2 kf), iv (own_K b0 b1 b2 (own_k1 kf)), rv a18, iv ress2, own_lv cns2, .second, iv vas2, iv vbs2, iv vcs2, iv vds2, iv pos2, iv pas2, iv ers2, own_lv ecs2, .second, iv x1s2, iv x2s2, iv xbs2] [] _
          refine XS.iconst X114.here hx rfl (hb hby at_492) ?_
          show own_S p e below T114 m 493 #[iv xk, iv xa, iv xs, iv xv, iv xw, rv a2, iv ff, iv fr, iv t1, iv t2, iv (2 : Int32), iv (own_bi bv), iv (own_bi bw), iv (own_K b0 b1 b2 kf), iv (own_K b0 b1 b2 (own_k1 kf)), rv a18, iv ress2, own_lv cns2, .second, iv vas2, iv vbs2, iv vcs2, iv vds2, iv pos2, iv pas2, iv ers2, own_lv ecs2, .second, iv x1s2, iv x2s2, iv xbs2] [(.int (0 : Int32))] _
          rw [show rrs2 = (0 : Int32) from by rw [hrrs2, if_pos hc134, if_neg hc135]] at kt
          exact kt
      · refine XS.icmpYes X114.here hx rfl (pc0 := 450) (pc' := 492) rfl (hb hby at_450) rfl (feq hc134).2 (by decide) (by decide) ?_
        show own_S p e below T114 m 492 #[iv xk, iv xa, iv xs, iv xv, iv xw, rv a2, iv ff, iv fr, iv t1, iv t2, iv (2 : Int32), iv (own_bi bv), iv (own_bi bw), iv (own_K b0 b1 b2 kf), iv (own_K b0 b1 b2 (own_k1 kf)), rv a18, iv ress2, own_lv cns2, .second, iv vas2, iv vbs2, iv vcs2, iv vds2, iv pos2, iv pas2, iv ers2, own_lv ecs2, .second, iv x1s2, iv x2s2, iv xbs2] [] _
        refine XS.iconst X114.here hx rfl (hb hby at_492) ?_
        show own_S p e below T114 m 493 #[iv xk, iv xa, iv xs, iv xv, iv xw, rv a2, iv ff, iv fr, iv t1, iv t2, iv (2 : Int32), iv (own_bi bv), iv (own_bi bw), iv (own_K b0 b1 b2 kf), iv (own_K b0 b1 b2 (own_k1 kf)), rv a18, iv ress2, own_lv cns2, .second, iv vas2, iv vbs2, iv vcs2, iv vds2, iv pos2, iv pas2, iv ers2, own_lv ecs2, .second, iv x1s2, iv x2s2, iv xbs2] [(.int (0 : Int32))] _
        rw [show rrs2 = (0 : Int32) from by rw [hrrs2, if_neg hc134]] at kt
        exact kt
    refine own_st sg140 ?_
    have hone : rrs2 = 1 := by
      have hd : rrs2 = own_f_rrs2 b0 b1 b2 kf bv bw := by subst hrrs2 hxbs2 hx2s2 hx1s2 hecs2 he3s2 he2s2 he1s2 hers2 hpas2 hpos2 hvds2 hvcs2 hvbs2 hvas2 hcns2 hress2; rfl
      rw [hd]; exact own_fins2 b0 b1 b2 ⟨kf, hf3⟩ bv bw
    rw [hone]
    show own_Go p e below _ T114 (mkF m 493 #[iv xk, iv xa, iv xs, iv xv, iv xw, rv a2, iv ff, iv fr, iv t1, iv t2, iv (2 : Int32), iv (own_bi bv), iv (own_bi bw), iv (own_K b0 b1 b2 kf), iv (own_K b0 b1 b2 (own_k1 kf)), rv a18, iv ress2, own_lv cns2, .second, iv vas2, iv vbs2, iv vcs2, iv vds2, iv pos2, iv pas2, iv ers2, own_lv ecs2, .second, iv x1s2, iv x2s2, iv xbs2] [(.int (1 : Int32))])
    exact own_retZ X114 hx Bd.notSynchronized Bd.returns (hb hby at_493) (by decide) (by decide) (by decide) e114 ⟨rfl, N114⟩
  · skip
    rw [hs4]
    show own_Go p e below _ T20 (mkF m 127 #[iv xk, iv xa, iv xs, iv xv, iv xw, rv a2, iv ff, iv fr, iv t1, iv t2, iv (3 : Int32), iv (own_bi bv), iv (own_bi bw), iv (own_K b0 b1 b2 kf), iv (own_K b0 b1 b2 (own_k1 kf)), rv a18, .unset, .unset, .unset, .unset, .unset, .unset, .unset, .unset, .unset, .unset, .unset, .unset, .unset, .unset, .unset] [])
    have sg141 : own_V p e below T20 (mkF m 181 #[iv xk, iv xa, iv xs, iv xv, iv xw, rv a2, iv ff, iv fr, iv t1, iv t2, iv (3 : Int32), iv (own_bi bv), iv (own_bi bw), iv (own_K b0 b1 b2 kf), iv (own_K b0 b1 b2 (own_k1 kf)), rv a18, .unset, .unset, .unset, .unset, .unset, .unset, .unset, .unset, .unset, .unset, .unset, .unset, .unset, .unset, .unset] [(.int (own_bi bw)), (.int fr), (.int t1), (.ref a18)]) (mkF m 127 #[iv xk, iv xa, iv xs, iv xv, iv xw, rv a2, iv ff, iv fr, iv t1, iv t2, iv (3 : Int32), iv (own_bi bv), iv (own_bi bw), iv (own_K b0 b1 b2 kf), iv (own_K b0 b1 b2 (own_k1 kf)), rv a18, .unset, .unset, .unset, .unset, .unset, .unset, .unset, .unset, .unset, .unset, .unset, .unset, .unset, .unset, .unset] []) := by
      intro t kt
      refine XS.iload X20.here hx rfl (hb hby at_127) rfl ?_
      show own_S p e below T20 m 129 #[iv xk, iv xa, iv xs, iv xv, iv xw, rv a2, iv ff, iv fr, iv t1, iv t2, iv (3 : Int32), iv (own_bi bv), iv (own_bi bw), iv (own_K b0 b1 b2 kf), iv (own_K b0 b1 b2 (own_k1 kf)), rv a18, .unset, .unset, .unset, .unset, .unset, .unset, .unset, .unset, .unset, .unset, .unset, .unset, .unset, .unset, .unset] [(.int (3 : Int32))] _
      refine XS.iconst X20.here hx rfl (hb hby at_129) ?_
      show own_S p e below T20 m 130 #[iv xk, iv xa, iv xs, iv xv, iv xw, rv a2, iv ff, iv fr, iv t1, iv t2, iv (3 : Int32), iv (own_bi bv), iv (own_bi bw), iv (own_K b0 b1 b2 kf), iv (own_K b0 b1 b2 (own_k1 kf)), rv a18, .unset, .unset, .unset, .unset, .unset, .unset, .unset, .unset, .unset, .unset, .unset, .unset, .unset, .unset, .unset] [(.int (1 : Int32)), (.int (3 : Int32))] _
      refine XS.icmpYes X20.here hx rfl (pc0 := 130) (pc' := 148) rfl (hb hby at_130) rfl (feq (by decide : ¬ (3 : Int32) = (1 : Int32))).2 (by decide) (by decide) ?_
      show own_S p e below T20 m 148 #[iv xk, iv xa, iv xs, iv xv, iv xw, rv a2, iv ff, iv fr, iv t1, iv t2, iv (3 : Int32), iv (own_bi bv), iv (own_bi bw), iv (own_K b0 b1 b2 kf), iv (own_K b0 b1 b2 (own_k1 kf)), rv a18, .unset, .unset, .unset, .unset, .unset, .unset, .unset, .unset, .unset, .unset, .unset, .unset, .unset, .unset, .unset] [] _
      refine XS.iload X20.here hx rfl (hb hby at_148) rfl ?_
      show own_S p e below T20 m 150 #[iv xk, iv xa, iv xs, iv xv, iv xw, rv a2, iv ff, iv fr, iv t1, iv t2, iv (3 : Int32), iv (own_bi bv), iv (own_bi bw), iv (own_K b0 b1 b2 kf), iv (own_K b0 b1 b2 (own_k1 kf)), rv a18, .unset, .unset, .unset, .unset, .unset, .unset, .unset, .unset, .unset, .unset, .unset, .unset, .unset, .unset, .unset] [(.int (3 : Int32))] _
      refine XS.iconst X20.here hx rfl (hb hby at_150) ?_
      show own_S p e below T20 m 151 #[iv xk, iv xa, iv xs, iv xv, iv xw, rv a2, iv ff, iv fr, iv t1, iv t2, iv (3 : Int32), iv (own_bi bv), iv (own_bi bw), iv (own_K b0 b1 b2 kf), iv (own_K b0 b1 b2 (own_k1 kf)), rv a18, .unset, .unset, .unset, .unset, .unset, .unset, .unset, .unset, .unset, .unset, .unset, .unset, .unset, .unset, .unset] [(.int (2 : Int32)), (.int (3 : Int32))] _
      refine XS.icmpYes X20.here hx rfl (pc0 := 151) (pc' := 167) rfl (hb hby at_151) rfl (feq (by decide : ¬ (3 : Int32) = (2 : Int32))).2 (by decide) (by decide) ?_
      show own_S p e below T20 m 167 #[iv xk, iv xa, iv xs, iv xv, iv xw, rv a2, iv ff, iv fr, iv t1, iv t2, iv (3 : Int32), iv (own_bi bv), iv (own_bi bw), iv (own_K b0 b1 b2 kf), iv (own_K b0 b1 b2 (own_k1 kf)), rv a18, .unset, .unset, .unset, .unset, .unset, .unset, .unset, .unset, .unset, .unset, .unset, .unset, .unset, .unset, .unset] [] _
      refine XS.iload X20.here hx rfl (hb hby at_167) rfl ?_
      show own_S p e below T20 m 169 #[iv xk, iv xa, iv xs, iv xv, iv xw, rv a2, iv ff, iv fr, iv t1, iv t2, iv (3 : Int32), iv (own_bi bv), iv (own_bi bw), iv (own_K b0 b1 b2 kf), iv (own_K b0 b1 b2 (own_k1 kf)), rv a18, .unset, .unset, .unset, .unset, .unset, .unset, .unset, .unset, .unset, .unset, .unset, .unset, .unset, .unset, .unset] [(.int (3 : Int32))] _
      refine XS.iconst X20.here hx rfl (hb hby at_169) ?_
      show own_S p e below T20 m 170 #[iv xk, iv xa, iv xs, iv xv, iv xw, rv a2, iv ff, iv fr, iv t1, iv t2, iv (3 : Int32), iv (own_bi bv), iv (own_bi bw), iv (own_K b0 b1 b2 kf), iv (own_K b0 b1 b2 (own_k1 kf)), rv a18, .unset, .unset, .unset, .unset, .unset, .unset, .unset, .unset, .unset, .unset, .unset, .unset, .unset, .unset, .unset] [(.int (3 : Int32)), (.int (3 : Int32))] _
      refine XS.icmpNo X20.here hx rfl (hb hby at_170) rfl (teq (by decide : (3 : Int32) = (3 : Int32))).2 ?_
      show own_S p e below T20 m 173 #[iv xk, iv xa, iv xs, iv xv, iv xw, rv a2, iv ff, iv fr, iv t1, iv t2, iv (3 : Int32), iv (own_bi bv), iv (own_bi bw), iv (own_K b0 b1 b2 kf), iv (own_K b0 b1 b2 (own_k1 kf)), rv a18, .unset, .unset, .unset, .unset, .unset, .unset, .unset, .unset, .unset, .unset, .unset, .unset, .unset, .unset, .unset] [] _
      refine XS.aload X20.here hx rfl (hb hby at_173) rfl rfl ?_
      show own_S p e below T20 m 175 #[iv xk, iv xa, iv xs, iv xv, iv xw, rv a2, iv ff, iv fr, iv t1, iv t2, iv (3 : Int32), iv (own_bi bv), iv (own_bi bw), iv (own_K b0 b1 b2 kf), iv (own_K b0 b1 b2 (own_k1 kf)), rv a18, .unset, .unset, .unset, .unset, .unset, .unset, .unset, .unset, .unset, .unset, .unset, .unset, .unset, .unset, .unset] [(.ref a18)] _
      refine XS.iload X20.here hx rfl (hb hby at_175) rfl ?_
      show own_S p e below T20 m 177 #[iv xk, iv xa, iv xs, iv xv, iv xw, rv a2, iv ff, iv fr, iv t1, iv t2, iv (3 : Int32), iv (own_bi bv), iv (own_bi bw), iv (own_K b0 b1 b2 kf), iv (own_K b0 b1 b2 (own_k1 kf)), rv a18, .unset, .unset, .unset, .unset, .unset, .unset, .unset, .unset, .unset, .unset, .unset, .unset, .unset, .unset, .unset] [(.int t1), (.ref a18)] _
      refine XS.iload X20.here hx rfl (hb hby at_177) rfl ?_
      show own_S p e below T20 m 179 #[iv xk, iv xa, iv xs, iv xv, iv xw, rv a2, iv ff, iv fr, iv t1, iv t2, iv (3 : Int32), iv (own_bi bv), iv (own_bi bw), iv (own_K b0 b1 b2 kf), iv (own_K b0 b1 b2 (own_k1 kf)), rv a18, .unset, .unset, .unset, .unset, .unset, .unset, .unset, .unset, .unset, .unset, .unset, .unset, .unset, .unset, .unset] [(.int fr), (.int t1), (.ref a18)] _
      refine XS.iload X20.here hx rfl (hb hby at_179) rfl ?_
      show own_S p e below T20 m 181 #[iv xk, iv xa, iv xs, iv xv, iv xw, rv a2, iv ff, iv fr, iv t1, iv t2, iv (3 : Int32), iv (own_bi bv), iv (own_bi bw), iv (own_K b0 b1 b2 kf), iv (own_K b0 b1 b2 (own_k1 kf)), rv a18, .unset, .unset, .unset, .unset, .unset, .unset, .unset, .unset, .unset, .unset, .unset, .unset, .unset, .unset, .unset] [(.int (own_bi bw)), (.int fr), (.int t1), (.ref a18)] _
      exact kt
    refine own_st sg141 ?_
    obtain ⟨_, T142, L142, X142, hQ142, st142⟩ := own_callV (y := (⟨"com/example/kingsround/kingsround/engine/Deliveries", "put", "(III)Z"⟩ : MethodName)) (y0 := (⟨"com/example/kingsround/kingsround/engine/Deliveries", "put", "(III)Z"⟩ : MethodName)) (a := a18) (C := "com/example/kingsround/kingsround/engine/Deliveries") X20 hx hZ hown HD.1 (hw _ (List.mem_of_getElem? (i := 101) rfl)) (hw _ (List.mem_of_getElem? (i := 102) rfl)) (hw _ (List.mem_of_getElem? (i := 104) rfl)) (notFace_of_selects (args := #[]) (mvT hZ (hw _ (List.mem_of_getElem? (i := 104) rfl)))) (hw _ (List.mem_of_getElem? (i := 103) rfl)) (hw _ (List.mem_of_getElem? (i := 4) rfl)) (hw _ (List.mem_of_getElem? (i := 105) rfl)) (by decide) (own_rmput l Z a0 hw a18 t1 fr (own_bi bw) ib kp ta ob q r (own_K b0 b1 b2) (fun _ => -1) (fun _ => 0) (fun _ _ => -1) 0 (own_k1 kf) kf T20.heap n0 Z20 HA HD hk1.1 hkf hk1.2 hf3) rfl (g := (mkF m 181 #[iv xk, iv xa, iv xs, iv xv, iv xw, rv a2, iv ff, iv fr, iv t1, iv t2, iv (3 : Int32), iv (own_bi bv), iv (own_bi bw), iv (own_K b0 b1 b2 kf), iv (own_K b0 b1 b2 (own_k1 kf)), rv a18, .unset, .unset, .unset, .unset, .unset, .unset, .unset, .unset, .unset, .unset, .unset, .unset, .unset, .unset, .unset] [(.int (own_bi bw)), (.int fr), (.int t1), (.ref a18)])) rfl (by rw [hml]; rfl) (argsL := [(.int t1), (.int fr), (.int (own_bi bw))]) (rest := []) (lenOf own_pd10 rfl) rfl (W := 0) (by show 2 * 0 + _ ≤ _; exact Nat.le_of_eq rfl) (hb hby at_181) (by decide) (by decide) (by decide) (by decide)
    obtain ⟨rfl, Nq142, Sz142, HD142⟩ := hQ142
    refine own_st st142 ?_
    have Z142 : n0 ≤ T142.heap.size := Nat.le_trans Z20 Sz142
    have N142 := Fr.app N20 Nq142
    show own_Go p e below _ T142 (mkF m 184 #[iv xk, iv xa, iv xs, iv xv, iv xw, rv a2, iv ff, iv fr, iv t1, iv t2, iv (3 : Int32), iv (own_bi bv), iv (own_bi bw), iv (own_K b0 b1 b2 kf), iv (own_K b0 b1 b2 (own_k1 kf)), rv a18, .unset, .unset, .unset, .unset, .unset, .unset, .unset, .unset, .unset, .unset, .unset, .unset, .unset, .unset, .unset] [(.int (own_pr (own_K b0 b1 b2) (fun _ => -1) (fun _ _ => -1) (own_k1 kf) kf))])
    have sg143 : own_V p e below T142 (mkF m 191 #[iv xk, iv xa, iv xs, iv xv, iv xw, rv a2, iv ff, iv fr, iv t1, iv t2, iv (3 : Int32), iv (own_bi bv), iv (own_bi bw), iv (own_K b0 b1 b2 kf), iv (own_K b0 b1 b2 (own_k1 kf)), rv a18, .unset, .unset, .unset, .unset, .unset, .unset, .unset, .unset, .unset, .unset, .unset, .unset, .unset, .unset, .unset] [(.int (own_bi bv)), (.int fr), (.ref a18)]) (mkF m 184 #[iv xk, iv xa, iv xs, iv xv, iv xw, rv a2, iv ff, iv fr, iv t1, iv t2, iv (3 : Int32), iv (own_bi bv), iv (own_bi bw), iv (own_K b0 b1 b2 kf), iv (own_K b0 b1 b2 (own_k1 kf)), rv a18, .unset, .unset, .unset, .unset, .unset, .unset, .unset, .unset, .unset, .unset, .unset, .unset, .unset, .unset, .unset] [(.int (own_pr (own_K b0 b1 b2) (fun _ => -1) (fun _ _ => -1) (own_k1 kf) kf))]) := by
      intro t kt
      refine XS.pop X142.here hx rfl (hb hby at_184) rfl rfl ?_
      show own_S p e below T142 m 185 #[iv xk, iv xa, iv xs, iv xv, iv xw, rv a2, iv ff, iv fr, iv t1, iv t2, iv (3 : Int32), iv (own_bi bv), iv (own_bi bw), iv (own_K b0 b1 b2 kf), iv (own_K b0 b1 b2 (own_k1 kf)), rv a18, .unset, .unset, .unset, .unset, .unset, .unset, .unset, .unset, .unset, .unset, .unset, .unset, .unset, .unset, .unset] [] _
      refine XS.aload X142.here hx rfl (hb hby at_185) rfl rfl ?_
      show own_S p e below T142 m 187 #[iv xk, iv xa, iv xs, iv xv, iv xw, rv a2, iv ff, iv fr, iv t1, iv t2, iv (3 : Int32), iv (own_bi bv), iv (own_bi bw), iv (own_K b0 b1 b2 kf), iv (own_K b0 b1 b2 (own_k1 kf)), rv a18, .unset, .unset, .unset, .unset, .unset, .unset, .unset, .unset, .unset, .unset, .unset, .unset, .unset, .unset, .unset] [(.ref a18)] _
      refine XS.iload X142.here hx rfl (hb hby at_187) rfl ?_
      show own_S p e below T142 m 189 #[iv xk, iv xa, iv xs, iv xv, iv xw, rv a2, iv ff, iv fr, iv t1, iv t2, iv (3 : Int32), iv (own_bi bv), iv (own_bi bw), iv (own_K b0 b1 b2 kf), iv (own_K b0 b1 b2 (own_k1 kf)), rv a18, .unset, .unset, .unset, .unset, .unset, .unset, .unset, .unset, .unset, .unset, .unset, .unset, .unset, .unset, .unset] [(.int fr), (.ref a18)] _
      refine XS.iload X142.here hx rfl (hb hby at_189) rfl ?_
      show own_S p e below T142 m 191 #[iv xk, iv xa, iv xs, iv xv, iv xw, rv a2, iv ff, iv fr, iv t1, iv t2, iv (3 : Int32), iv (own_bi bv), iv (own_bi bw), iv (own_K b0 b1 b2 kf), iv (own_K b0 b1 b2 (own_k1 kf)), rv a18, .unset, .unset, .unset, .unset, .unset, .unset, .unset, .unset, .unset, .unset, .unset, .unset, .unset, .unset, .unset] [(.int (own_bi bv)), (.int fr), (.ref a18)] _
      exact kt
    refine own_st sg143 ?_
    obtain ⟨_, T144, L144, X144, hQ144, st144⟩ := own_callV (y := (⟨"com/example/kingsround/kingsround/engine/Deliveries", "putToAll", "(II)Z"⟩ : MethodName)) (y0 := (⟨"com/example/kingsround/kingsround/engine/Deliveries", "putToAll", "(II)Z"⟩ : MethodName)) (a := a18) (C := "com/example/kingsround/kingsround/engine/Deliveries") X142 hx hZ hown HD142.1 (hw _ (List.mem_of_getElem? (i := 77) rfl)) (hw _ (List.mem_of_getElem? (i := 78) rfl)) (hw _ (List.mem_of_getElem? (i := 80) rfl)) (notFace_of_selects (args := #[]) (mvT hZ (hw _ (List.mem_of_getElem? (i := 80) rfl)))) (hw _ (List.mem_of_getElem? (i := 79) rfl)) (hw _ (List.mem_of_getElem? (i := 4) rfl)) (hw _ (List.mem_of_getElem? (i := 81) rfl)) (by decide) (own_rmpta l Z a0 hw a18 fr (own_bi bv) ib kp ta ob q r (own_K b0 b1 b2) (fun _ => -1) (own_pO (own_K b0 b1 b2) (fun _ => -1) (fun _ => 0) (fun _ _ => -1) (own_k1 kf) kf) (own_pR (own_K b0 b1 b2) (fun _ => -1) (fun _ _ => -1) (own_k1 kf) kf (own_bi bw)) (own_pc (own_K b0 b1 b2) (fun _ => -1) (fun _ _ => -1) (own_k1 kf) kf 0) kf T142.heap n0 Z142 HA HD142 hkf hf3) rfl (g := (mkF m 191 #[iv xk, iv xa, iv xs, iv xv, iv xw, rv a2, iv ff, iv fr, iv t1, iv t2, iv (3 : Int32), iv (own_bi bv), iv (own_bi bw), iv (own_K b0 b1 b2 kf), iv (own_K b0 b1 b2 (own_k1 kf)), rv a18, .unset, .unset, .unset, .unset, .unset, .unset, .unset, .unset, .unset, .unset, .unset, .unset, .unset, .unset, .unset] [(.int (own_bi bv)), (.int fr), (.ref a18)])) rfl (by rw [hml]; rfl) (argsL := [(.int fr), (.int (own_bi bv))]) (rest := []) (lenOf own_pd7 rfl) rfl (W := 0) (by show 2 * 0 + _ ≤ _; exact Nat.le_of_eq rfl) (hb hby at_191) (by decide) (by decide) (by decide) (by decide)
    obtain ⟨rfl, Nq144, Sz144, HD144⟩ := hQ144
    refine own_st st144 ?_
    have Z144 : n0 ≤ T144.heap.size := Nat.le_trans Z142 Sz144
    have N144 := Fr.app N142 Nq144
    show own_Go p e below _ T144 (mkF m 194 #[iv xk, iv xa, iv xs, iv xv, iv xw, rv a2, iv ff, iv fr, iv t1, iv t2, iv (3 : Int32), iv (own_bi bv), iv (own_bi bw), iv (own_K b0 b1 b2 kf), iv (own_K b0 b1 b2 (own_k1 kf)), rv a18, .unset, .unset, .unset, .unset, .unset, .unset, .unset, .unset, .unset, .unset, .unset, .unset, .unset, .unset, .unset] [(.int (own_ar (own_K b0 b1 b2) (fun _ => -1) (own_pO (own_K b0 b1 b2) (fun _ => -1) (fun _ => 0) (fun _ _ => -1) (own_k1 kf) kf) kf))])
    obtain ⟨ress3, hress3⟩ : ∃ z : Int32, z = (own_ar (own_K b0 b1 b2) (fun _ => -1) (own_pO (own_K b0 b1 b2) (fun _ => -1) (fun _ => 0) (fun _ _ => -1) (own_k1 kf) kf) kf) := ⟨_, rfl⟩
    have sg145 : own_V p e below T144 (mkF m 198 #[iv xk, iv xa, iv xs, iv xv, iv xw, rv a2, iv ff, iv fr, iv t1, iv t2, iv (3 : Int32), iv (own_bi bv), iv (own_bi bw), iv (own_K b0 b1 b2 kf), iv (own_K b0 b1 b2 (own_k1 kf)), rv a18, iv ress3, .unset, .unset, .unset, .unset, .unset, .unset, .unset, .unset, .unset, .unset, .unset, .unset, .unset, .unset] [(.ref a18)]) (mkF m 194 #[iv xk, iv xa, iv xs, iv xv, iv xw, rv a2, iv ff, iv fr, iv t1, iv t2, iv (3 : Int32), iv (own_bi bv), iv (own_bi bw), iv (own_K b0 b1 b2 kf), iv (own_K b0 b1 b2 (own_k1 kf)), rv a18, .unset, .unset, .unset, .unset, .unset, .unset, .unset, .unset, .unset, .unset, .unset, .unset, .unset, .unset, .unset] [(.int (own_ar (own_K b0 b1 b2) (fun _ => -1) (own_pO (own_K b0 b1 b2) (fun _ => -1) (fun _ => 0) (fun _ _ => -1) (own_k1 kf) kf) kf))]) := by
      intro t kt
      refine XS.istore X144.here hx rfl (hb hby at_194) rfl (l' := #[iv xk, iv xa, iv xs, iv xv, iv xw, rv a2, iv ff, iv fr, iv t1, iv t2, iv (3 : Int32), iv (own_bi bv), iv (own_bi bw), iv (own_K b0 b1 b2 kf), iv (own_K b0 b1 b2 (own_k1 kf)), rv a18, iv (own_ar (own_K b0 b1 b2) (fun _ => -1) (own_pO (own_K b0 b1 b2) (fun _ => -1) (fun _ => 0) (fun _ _ => -1) (own_k1 kf) kf) kf), .unset, .unset, .unset, .unset, .unset, .unset, .unset, .unset, .unset, .unset, .unset, .unset, .unset, .unset]) rfl ?_
      show own_S p e below T144 m 196 #[iv xk, iv xa, iv xs, iv xv, iv xw, rv a2, iv ff, iv fr, iv t1, iv t2, iv (3 : Int32), iv (own_bi bv), iv (own_bi bw), iv (own_K b0 b1 b2 kf), iv (own_K b0 b1 b2 (own_k1 kf)), rv a18, iv (own_ar (own_K b0 b1 b2) (fun _ => -1) (own_pO (own_K b0 b1 b2) (fun _ => -1) (fun _ => 0) (fun _ _ => -1) (own_k1 kf) kf) kf), .unset, .unset, .unset, .unset, .unset, .unset, .unset, .unset, .unset, .unset, .unset, .unset, .unset, .unset] [] _
      refine XS.aload X144.here hx rfl (hb hby at_196) rfl rfl ?_
      show own_S p e below T144 m 198 #[iv xk, iv xa, iv xs, iv xv, iv xw, rv a2, iv ff, iv fr, iv t1, iv t2, iv (3 : Int32), iv (own_bi bv), iv (own_bi bw), iv (own_K b0 b1 b2 kf), iv (own_K b0 b1 b2 (own_k1 kf)), rv a18, iv (own_ar (own_K b0 b1 b2) (fun _ => -1) (own_pO (own_K b0 b1 b2) (fun _ => -1) (fun _ => 0) (fun _ _ => -1) (own_k1 kf) kf) kf), .unset, .unset, .unset, .unset, .unset, .unset, .unset, .unset, .unset, .unset, .unset, .unset, .unset, .unset] [(.ref a18)] _
      rw [hress3] at kt
      exact kt
    refine own_st sg145 ?_
    obtain ⟨_, T146, L146, X146, hQ146, st146⟩ := own_callV (y := (⟨"com/example/kingsround/kingsround/engine/Deliveries", "count", "()J"⟩ : MethodName)) (y0 := (⟨"com/example/kingsround/kingsround/engine/Deliveries", "count", "()J"⟩ : MethodName)) (a := a18) (C := "com/example/kingsround/kingsround/engine/Deliveries") X144 hx hZ hown HD144.1 (hw _ (List.mem_of_getElem? (i := 82) rfl)) (hw _ (List.mem_of_getElem? (i := 83) rfl)) (hw _ (List.mem_of_getElem? (i := 85) rfl)) (notFace_of_selects (args := #[]) (mvT hZ (hw _ (List.mem_of_getElem? (i := 85) rfl)))) (hw _ (List.mem_of_getElem? (i := 84) rfl)) (hw _ (List.mem_of_getElem? (i := 4) rfl)) (hw _ (List.mem_of_getElem? (i := 86) rfl)) (by decide) (own_rmcnt l Z a0 hw a18  ib kp ta ob q r (own_K b0 b1 b2) (own_aT (own_K b0 b1 b2) (fun _ => -1) (own_pO (own_K b0 b1 b2) (fun _ => -1) (fun _ => 0) (fun _ _ => -1) (own_k1 kf) kf) kf (own_bi bv)) (own_pO (own_K b0 b1 b2) (fun _ => -1) (fun _ => 0) (fun _ _ => -1) (own_k1 kf) kf) (own_pR (own_K b0 b1 b2) (fun _ => -1) (fun _ _ => -1) (own_k1 kf) kf (own_bi bw)) (own_ac (own_K b0 b1 b2) (fun _ => -1) (own_pO (own_K b0 b1 b2) (fun _ => -1) (fun _ => 0) (fun _ _ => -1) (own_k1 kf) kf) kf (own_pc (own_K b0 b1 b2) (fun _ => -1) (fun _ _ => -1) (own_k1 kf) kf 0))  T144.heap n0 Z144 HA HD144 ) rfl (g := (mkF m 198 #[iv xk, iv xa, iv xs, iv xv, iv xw, rv a2, iv ff, iv fr, iv t1, iv t2, iv (3 : Int32), iv (own_bi bv), iv (own_bi bw), iv (own_K b0 b1 b2 kf), iv (own_K b0 b1 b2 (own_k1 kf)), rv a18, iv ress3, .unset, .unset, .unset, .unset, .unset, .unset, .unset, .unset, .unset, .unset, .unset, .unset, .unset, .unset] [(.ref a18)])) rfl (by rw [hml]; rfl) (argsL := []) (rest := []) (lenOf own_pd8 rfl) rfl (W := 0) (by show 2 * 0 + _ ≤ _; exact Nat.le_of_eq rfl) (hb hby at_198) (by decide) (by decide) (by decide) (by decide)
    obtain ⟨rfl, Nq146, e146⟩ := hQ146
    refine own_st st146 ?_
    have N146 := Fr.app N144 Nq146
    show own_Go p e below _ T146 (mkF m 201 #[iv xk, iv xa, iv xs, iv xv, iv xw, rv a2, iv ff, iv fr, iv t1, iv t2, iv (3 : Int32), iv (own_bi bv), iv (own_bi bw), iv (own_K b0 b1 b2 kf), iv (own_K b0 b1 b2 (own_k1 kf)), rv a18, iv ress3, .unset, .unset, .unset, .unset, .unset, .unset, .unset, .unset, .unset, .unset, .unset, .unset, .unset, .unset] [(.long (own_ac (own_K b0 b1 b2) (fun _ => -1) (own_pO (own_K b0 b1 b2) (fun _ => -1) (fun _ => 0) (fun _ _ => -1) (own_k1 kf) kf) kf (own_pc (own_K b0 b1 b2) (fun _ => -1) (fun _ _ => -1) (own_k1 kf) kf 0)))])
    obtain ⟨cns3, hcns3⟩ : ∃ z : Int64, z = (own_ac (own_K b0 b1 b2) (fun _ => -1) (own_pO (own_K b0 b1 b2) (fun _ => -1) (fun _ => 0) (fun _ _ => -1) (own_k1 kf) kf) kf (own_pc (own_K b0 b1 b2) (fun _ => -1) (fun _ _ => -1) (own_k1 kf) kf 0)) := ⟨_, rfl⟩
    have sg147 : own_V p e below T146 (mkF m 209 #[iv xk, iv xa, iv xs, iv xv, iv xw, rv a2, iv ff, iv fr, iv t1, iv t2, iv (3 : Int32), iv (own_bi bv), iv (own_bi bw), iv (own_K b0 b1 b2 kf), iv (own_K b0 b1 b2 (own_k1 kf)), rv a18, iv ress3, own_lv cns3, .second, .unset, .unset, .unset, .unset, .unset, .unset, .unset, .unset, .unset, .unset, .unset, .unset] [(.int t1), (.int fr), (.ref a18)]) (mkF m 201 #[iv xk, iv xa, iv xs, iv xv, iv xw, rv a2, iv ff, iv fr, iv t1, iv t2, iv (3 : Int32), iv (own_bi bv), iv (own_bi bw), iv (own_K b0 b1 b2 kf), iv (own_K b0 b1 b2 (own_k1 kf)), rv a18, iv ress3, .unset, .unset, .unset, .unset, .unset, .unset, .unset, .unset, .unset, .unset, .unset, .unset, .unset, .unset] [(.long (own_ac (own_K b0 b1 b2) (fun _ => -1) (own_pO (own_K b0 b1 b2) (fun _ => -1) (fun _ => 0) (fun _ _ => -1) (own_k1 kf) kf) kf (own_pc (own_K b0 b1 b2) (fun _ => -1) (fun _ _ => -1) (own_k1 kf) kf 0)))]) := by
      intro t kt
      refine XS.lstore X146.here hx rfl (hb hby at_201) rfl (l' := #[iv xk, iv xa, iv xs, iv xv, iv xw, rv a2, iv ff, iv fr, iv t1, iv t2, iv (3 : Int32), iv (own_bi bv), iv (own_bi bw), iv (own_K b0 b1 b2 kf), iv (own_K b0 b1 b2 (own_k1 kf)), rv a18, iv ress3, own_lv (own_ac (own_K b0 b1 b2) (fun _ => -1) (own_pO (own_K b0 b1 b2) (fun _ => -1) (fun _ => 0) (fun _ _ => -1) (own_k1 kf) kf) kf (own_pc (own_K b0 b1 b2) (fun _ => -1) (fun _ _ => -1) (own_k1 kf) kf 0)), .second, .unset, .unset, .unset, .unset, .unset, .unset, .unset, .unset, .unset, .unset, .unset, .unset]) rfl ?_
      show own_S p e below T146 m 203 #[iv xk, iv xa, iv xs, iv xv, iv xw, rv a2, iv ff, iv fr, iv t1, iv t2, iv (3 : Int32), iv (own_bi bv), iv (own_bi bw), iv (own_K b0 b1 b2 kf), iv (own_K b0 b1 b2 (own_k1 kf)), rv a18, iv ress3, own_lv (own_ac (own_K b0 b1 b2) (fun _ => -1) (own_pO (own_K b0 b1 b2) (fun _ => -1) (fun _ => 0) (fun _ _ => -1) (own_k1 kf) kf) kf (own_pc (own_K b0 b1 b2) (fun _ => -1) (fun _ _ => -1) (own_k1 kf) kf 0)), .second, .unset, .unset, .unset, .unset, .unset, .unset, .unset, .unset, .unset, .unset, .unset, .unset] [] _
      refine XS.aload X146.here hx rfl (hb hby at_203) rfl rfl ?_
      show own_S p e below T146 m 205 #[iv xk, iv xa, iv xs, iv xv, iv xw, rv a2, iv ff, iv fr, iv t1, iv t2, iv (3 : Int32), iv (own_bi bv), iv (own_bi bw), iv (own_K b0 b1 b2 kf), iv (own_K b0 b1 b2 (own_k1 kf)), rv a18, iv ress3, own_lv (own_ac (own_K b0 b1 b2) (fun _ => -1) (own_pO (own_K b0 b1 b2) (fun _ => -1) (fun _ => 0) (fun _ _ => -1) (own_k1 kf) kf) kf (own_pc (own_K b0 b1 b2) (fun _ => -1) (fun _ _ => -1) (own_k1 kf) kf 0)), .second, .unset, .unset, .unset, .unset, .unset, .unset, .unset, .unset, .unset, .unset, .unset, .unset] [(.ref a18)] _
      refine XS.iload X146.here hx rfl (hb hby at_205) rfl ?_
      show own_S p e below T146 m 207 #[iv xk, iv xa, iv xs, iv xv, iv xw, rv a2, iv ff, iv fr, iv t1, iv t2, iv (3 : Int32), iv (own_bi bv), iv (own_bi bw), iv (own_K b0 b1 b2 kf), iv (own_K b0 b1 b2 (own_k1 kf)), rv a18, iv ress3, own_lv (own_ac (own_K b0 b1 b2) (fun _ => -1) (own_pO (own_K b0 b1 b2) (fun _ => -1) (fun _ => 0) (fun _ _ => -1) (own_k1 kf) kf) kf (own_pc (own_K b0 b1 b2) (fun _ => -1) (fun _ _ => -1) (own_k1 kf) kf 0)), .second, .unset, .unset, .unset, .unset, .unset, .unset, .unset, .unset, .unset, .unset, .unset, .unset] [(.int fr), (.ref a18)] _
      refine XS.iload X146.here hx rfl (hb hby at_207) rfl ?_
      show own_S p e below T146 m 209 #[iv xk, iv xa, iv xs, iv xv, iv xw, rv a2, iv ff, iv fr, iv t1, iv t2, iv (3 : Int32), iv (own_bi bv), iv (own_bi bw), iv (own_K b0 b1 b2 kf), iv (own_K b0 b1 b2 (own_k1 kf)), rv a18, iv ress3, own_lv (own_ac (own_K b0 b1 b2) (fun _ => -1) (own_pO (own_K b0 b1 b2) (fun _ => -1) (fun _ => 0) (fun _ _ => -1) (own_k1 kf) kf) kf (own_pc (own_K b0 b1 b2) (fun _ => -1) (fun _ _ => -1) (own_k1 kf) kf 0)), .second, .unset, .unset, .unset, .unset, .unset, .unset, .unset, .unset, .unset, .unset, .unset, .unset] [(.int t1), (.int fr), (.ref a18)] _
      rw [hcns3] at kt
      exact kt
    refine own_st sg147 ?_
    obtain ⟨_, T148, L148, X148, hQ148, st148⟩ := own_callV (y := (⟨"com/example/kingsround/kingsround/engine/Deliveries", "value", "(II)I"⟩ : MethodName)) (y0 := (⟨"com/example/kingsround/kingsround/engine/Deliveries", "value", "(II)I"⟩ : MethodName)) (a := a18) (C := "com/example/kingsround/kingsround/engine/Deliveries") X146 hx hZ hown HD144.1 (hw _ (List.mem_of_getElem? (i := 89) rfl)) (hw _ (List.mem_of_getElem? (i := 90) rfl)) (hw _ (List.mem_of_getElem? (i := 92) rfl)) (notFace_of_selects (args := #[]) (mvT hZ (hw _ (List.mem_of_getElem? (i := 92) rfl)))) (hw _ (List.mem_of_getElem? (i := 91) rfl)) (hw _ (List.mem_of_getElem? (i := 4) rfl)) (hw _ (List.mem_of_getElem? (i := 93) rfl)) (by decide) (own_rmval l Z a0 hw a18 fr t1 ib kp ta ob q r (own_K b0 b1 b2) (own_aT (own_K b0 b1 b2) (fun _ => -1) (own_pO (own_K b0 b1 b2) (fun _ => -1) (fun _ => 0) (fun _ _ => -1) (own_k1 kf) kf) kf (own_bi bv)) (own_pO (own_K b0 b1 b2) (fun _ => -1) (fun _ => 0) (fun _ _ => -1) (own_k1 kf) kf) (own_pR (own_K b0 b1 b2) (fun _ => -1) (fun _ _ => -1) (own_k1 kf) kf (own_bi bw)) (own_ac (own_K b0 b1 b2) (fun _ => -1) (own_pO (own_K b0 b1 b2) (fun _ => -1) (fun _ => 0) (fun _ _ => -1) (own_k1 kf) kf) kf (own_pc (own_K b0 b1 b2) (fun _ => -1) (fun _ _ => -1) (own_k1 kf) kf 0)) kf (own_k1 kf) T144.heap n0 Z144 HA HD144 hkf hk1.1 hf3 hk1.2) e146 (g := (mkF m 209 #[iv xk, iv xa, iv xs, iv xv, iv xw, rv a2, iv ff, iv fr, iv t1, iv t2, iv (3 : Int32), iv (own_bi bv), iv (own_bi bw), iv (own_K b0 b1 b2 kf), iv (own_K b0 b1 b2 (own_k1 kf)), rv a18, iv ress3, own_lv cns3, .second, .unset, .unset, .unset, .unset, .unset, .unset, .unset, .unset, .unset, .unset, .unset, .unset] [(.int t1), (.int fr), (.ref a18)])) rfl (by rw [hml]; rfl) (argsL := [(.int fr), (.int t1)]) (rest := []) (lenOf own_pd9 rfl) rfl (W := 0) (by show 2 * 0 + _ ≤ _; exact Nat.le_of_eq rfl) (hb hby at_209) (by decide) (by decide) (by decide) (by decide)
    obtain ⟨rfl, Nq148, e148⟩ := hQ148
    refine own_st st148 ?_
    have N148 := Fr.app N146 Nq148
    show own_Go p e below _ T148 (mkF m 212 #[iv xk, iv xa, iv xs, iv xv, iv xw, rv a2, iv ff, iv fr, iv t1, iv t2, iv (3 : Int32), iv (own_bi bv), iv (own_bi bw), iv (own_K b0 b1 b2 kf), iv (own_K b0 b1 b2 (own_k1 kf)), rv a18, iv ress3, own_lv cns3, .second, .unset, .unset, .unset, .unset, .unset, .unset, .unset, .unset, .unset, .unset, .unset, .unset] [(.int (own_val (own_aT (own_K b0 b1 b2) (fun _ => -1) (own_pO (own_K b0 b1 b2) (fun _ => -1) (fun _ => 0) (fun _ _ => -1) (own_k1 kf) kf) kf (own_bi bv)) (own_pR (own_K b0 b1 b2) (fun _ => -1) (fun _ _ => -1) (own_k1 kf) kf (own_bi bw)) kf (own_k1 kf)))])
    obtain ⟨vas3, hvas3⟩ : ∃ z : Int32, z = (own_val (own_aT (own_K b0 b1 b2) (fun _ => -1) (own_pO (own_K b0 b1 b2) (fun _ => -1) (fun _ => 0) (fun _ _ => -1) (own_k1 kf) kf) kf (own_bi bv)) (own_pR (own_K b0 b1 b2) (fun _ => -1) (fun _ _ => -1) (own_k1 kf) kf (own_bi bw)) kf (own_k1 kf)) := ⟨_, rfl⟩
    have sg149 : own_V p e below T148 (mkF m 220 #[iv xk, iv xa, iv xs, iv xv, iv xw, rv a2, iv ff, iv fr, iv t1, iv t2, iv (3 : Int32), iv (own_bi bv), iv (own_bi bw), iv (own_K b0 b1 b2 kf), iv (own_K b0 b1 b2 (own_k1 kf)), rv a18, iv ress3, own_lv cns3, .second, iv vas3, .unset, .unset, .unset, .unset, .unset, .unset, .unset, .unset, .unset, .unset, .unset] [(.int t2), (.int fr), (.ref a18)]) (mkF m 212 #[iv xk, iv xa, iv xs, iv xv, iv xw, rv a2, iv ff, iv fr, iv t1, iv t2, iv (3 : Int32), iv (own_bi bv), iv (own_bi bw), iv (own_K b0 b1 b2 kf), iv (own_K b0 b1 b2 (own_k1 kf)), rv a18, iv ress3, own_lv cns3, .second, .unset, .unset, .unset, .unset, .unset, .unset, .unset, .unset, .unset, .unset, .unset, .unset] [(.int (own_val (own_aT (own_K b0 b1 b2) (fun _ => -1) (own_pO (own_K b0 b1 b2) (fun _ => -1) (fun _ => 0) (fun _ _ => -1) (own_k1 kf) kf) kf (own_bi bv)) (own_pR (own_K b0 b1 b2) (fun _ => -1) (fun _ _ => -1) (own_k1 kf) kf (own_bi bw)) kf (own_k1 kf)))]) := by
      intro t kt
      refine XS.istore X148.here hx rfl (hb hby at_212) rfl (l' := #[iv xk, iv xa, iv xs, iv xv, iv xw, rv a2, iv ff, iv fr, iv t1, iv t2, iv (3 : Int32), iv (own_bi bv), iv (own_bi bw), iv (own_K b0 b1 b2 kf), iv (own_K b0 b1 b2 (own_k1 kf)), rv a18, iv ress3, own_lv cns3, .second, iv (own_val (own_aT (own_K b0 b1 b2) (fun _ => -1) (own_pO (own_K b0 b1 b2) (fun _ => -1) (fun _ => 0) (fun _ _ => -1) (own_k1 kf) kf) kf (own_bi bv)) (own_pR (own_K b0 b1 b2) (fun _ => -1) (fun _ _ => -1) (own_k1 kf) kf (own_bi bw)) kf (own_k1 kf)), .unset, .unset, .unset, .unset, .unset, .unset, .unset, .unset, .unset, .unset, .unset]) rfl ?_
      show own_S p e below T148 m 214 #[iv xk, iv xa, iv xs, iv xv, iv xw, rv a2, iv ff, iv fr, iv t1, iv t2, iv (3 : Int32), iv (own_bi bv), iv (own_bi bw), iv (own_K b0 b1 b2 kf), iv (own_K b0 b1 b2 (own_k1 kf)), rv a18, iv ress3, own_lv cns3, .second, iv (own_val (own_aT (own_K b0 b1 b2) (fun _ => -1) (own_pO (own_K b0 b1 b2) (fun _ => -1) (fun _ => 0) (fun _ _ => -1) (own_k1 kf) kf) kf (own_bi bv)) (own_pR (own_K b0 b1 b2) (fun _ => -1) (fun _ _ => -1) (own_k1 kf) kf (own_bi bw)) kf (own_k1 kf)), .unset, .unset, .unset, .unset, .unset, .unset, .unset, .unset, .unset, .unset, .unset] [] _
      refine XS.aload X148.here hx rfl (hb hby at_214) rfl rfl ?_
      show own_S p e below T148 m 216 #[iv xk, iv xa, iv xs, iv xv, iv xw, rv a2, iv ff, iv fr, iv t1, iv t2, iv (3 : Int32), iv (own_bi bv), iv (own_bi bw), iv (own_K b0 b1 b2 kf), iv (own_K b0 b1 b2 (own_k1 kf)), rv a18, iv ress3, own_lv cns3, .second, iv (own_val (own_aT (own_K b0 b1 b2) (fun _ => -1) (own_pO (own_K b0 b1 b2) (fun _ => -1) (fun _ => 0) (fun _ _ => -1) (own_k1 kf) kf) kf (own_bi bv)) (own_pR (own_K b0 b1 b2) (fun _ => -1) (fun _ _ => -1) (own_k1 kf) kf (own_bi bw)) kf (own_k1 kf)), .unset, .unset, .unset, .unset, .unset, .unset, .unset, .unset, .unset, .unset, .unset] [(.ref a18)] _
      refine XS.iload X148.here hx rfl (hb hby at_216) rfl ?_
      show own_S p e below T148 m 218 #[iv xk, iv xa, iv xs, iv xv, iv xw, rv a2, iv ff, iv fr, iv t1, iv t2, iv (3 : Int32), iv (own_bi bv), iv (own_bi bw), iv (own_K b0 b1 b2 kf), iv (own_K b0 b1 b2 (own_k1 kf)), rv a18, iv ress3, own_lv cns3, .second, iv (own_val (own_aT (own_K b0 b1 b2) (fun _ => -1) (own_pO (own_K b0 b1 b2) (fun _ => -1) (fun _ => 0) (fun _ _ => -1) (own_k1 kf) kf) kf (own_bi bv)) (own_pR (own_K b0 b1 b2) (fun _ => -1) (fun _ _ => -1) (own_k1 kf) kf (own_bi bw)) kf (own_k1 kf)), .unset, .unset, .unset, .unset, .unset, .unset, .unset, .unset, .unset, .unset, .unset] [(.int fr), (.ref a18)] _
      refine XS.iload X148.here hx rfl (hb hby at_218) rfl ?_
      show own_S p e below T148 m 220 #[iv xk, iv xa, iv xs, iv xv, iv xw, rv a2, iv ff, iv fr, iv t1, iv t2, iv (3 : Int32), iv (own_bi bv), iv (own_bi bw), iv (own_K b0 b1 b2 kf), iv (own_K b0 b1 b2 (own_k1 kf)), rv a18, iv ress3, own_lv cns3, .second, iv (own_val (own_aT (own_K b0 b1 b2) (fun _ => -1) (own_pO (own_K b0 b1 b2) (fun _ => -1) (fun _ => 0) (fun _ _ => -1) (own_k1 kf) kf) kf (own_bi bv)) (own_pR (own_K b0 b1 b2) (fun _ => -1) (fun _ _ => -1) (own_k1 kf) kf (own_bi bw)) kf (own_k1 kf)), .unset, .unset, .unset, .unset, .unset, .unset, .unset, .unset, .unset, .unset, .unset] [(.int t2), (.int fr), (.ref a18)] _
      rw [hvas3] at kt
      exact kt
    refine own_st sg149 ?_
    obtain ⟨_, T150, L150, X150, hQ150, st150⟩ := own_callV (y := (⟨"com/example/kingsround/kingsround/engine/Deliveries", "value", "(II)I"⟩ : MethodName)) (y0 := (⟨"com/example/kingsround/kingsround/engine/Deliveries", "value", "(II)I"⟩ : MethodName)) (a := a18) (C := "com/example/kingsround/kingsround/engine/Deliveries") X148 hx hZ hown HD144.1 (hw _ (List.mem_of_getElem? (i := 89) rfl)) (hw _ (List.mem_of_getElem? (i := 90) rfl)) (hw _ (List.mem_of_getElem? (i := 92) rfl)) (notFace_of_selects (args := #[]) (mvT hZ (hw _ (List.mem_of_getElem? (i := 92) rfl)))) (hw _ (List.mem_of_getElem? (i := 91) rfl)) (hw _ (List.mem_of_getElem? (i := 4) rfl)) (hw _ (List.mem_of_getElem? (i := 93) rfl)) (by decide) (own_rmval l Z a0 hw a18 fr t2 ib kp ta ob q r (own_K b0 b1 b2) (own_aT (own_K b0 b1 b2) (fun _ => -1) (own_pO (own_K b0 b1 b2) (fun _ => -1) (fun _ => 0) (fun _ _ => -1) (own_k1 kf) kf) kf (own_bi bv)) (own_pO (own_K b0 b1 b2) (fun _ => -1) (fun _ => 0) (fun _ _ => -1) (own_k1 kf) kf) (own_pR (own_K b0 b1 b2) (fun _ => -1) (fun _ _ => -1) (own_k1 kf) kf (own_bi bw)) (own_ac (own_K b0 b1 b2) (fun _ => -1) (own_pO (own_K b0 b1 b2) (fun _ => -1) (fun _ => 0) (fun _ _ => -1) (own_k1 kf) kf) kf (own_pc (own_K b0 b1 b2) (fun _ => -1) (fun _ _ => -1) (own_k1 kf) kf 0)) kf (own_k2 kf) T144.heap n0 Z144 HA HD144 hkf hk2.1 hf3 hk2.2) e148 (g := (mkF m 220 #[iv xk, iv xa, iv xs, iv xv, iv xw, rv a2, iv ff, iv fr, iv t1, iv t2, iv (3 : Int32), iv (own_bi bv), iv (own_bi bw), iv (own_K b0 b1 b2 kf), iv (own_K b0 b1 b2 (own_k1 kf)), rv a18, iv ress3, own_lv cns3, .second, iv vas3, .unset, .unset, .unset, .unset, .unset, .unset, .unset, .unset, .unset, .unset, .unset] [(.int t2), (.int fr), (.ref a18)])) rfl (by rw [hml]; rfl) (argsL := [(.int fr), (.int t2)]) (rest := []) (lenOf own_pd9 rfl) rfl (W := 0) (by show 2 * 0 + _ ≤ _; exact Nat.le_of_eq rfl) (hb hby at_220) (by decide) (by decide) (by decide) (by decide)
    obtain ⟨rfl, Nq150, e150⟩ := hQ150
    refine own_st st150 ?_
    have N150 := Fr.app N148 Nq150
    show own_Go p e below _ T150 (mkF m 223 #[iv xk, iv xa, iv xs, iv xv, iv xw, rv a2, iv ff, iv fr, iv t1, iv t2, iv (3 : Int32), iv (own_bi bv), iv (own_bi bw), iv (own_K b0 b1 b2 kf), iv (own_K b0 b1 b2 (own_k1 kf)), rv a18, iv ress3, own_lv cns3, .second, iv vas3, .unset, .unset, .unset, .unset, .unset, .unset, .unset, .unset, .unset, .unset, .unset] [(.int (own_val (own_aT (own_K b0 b1 b2) (fun _ => -1) (own_pO (own_K b0 b1 b2) (fun _ => -1) (fun _ => 0) (fun _ _ => -1) (own_k1 kf) kf) kf (own_bi bv)) (own_pR (own_K b0 b1 b2) (fun _ => -1) (fun _ _ => -1) (own_k1 kf) kf (own_bi bw)) kf (own_k2 kf)))])
    obtain ⟨vbs3, hvbs3⟩ : ∃ z : Int32, z = (own_val (own_aT (own_K b0 b1 b2) (fun _ => -1) (own_pO (own_K b0 b1 b2) (fun _ => -1) (fun _ => 0) (fun _ _ => -1) (own_k1 kf) kf) kf (own_bi bv)) (own_pR (own_K b0 b1 b2) (fun _ => -1) (fun _ _ => -1) (own_k1 kf) kf (own_bi bw)) kf (own_k2 kf)) := ⟨_, rfl⟩
    have sg151 : own_V p e below T150 (mkF m 231 #[iv xk, iv xa, iv xs, iv xv, iv xw, rv a2, iv ff, iv fr, iv t1, iv t2, iv (3 : Int32), iv (own_bi bv), iv (own_bi bw), iv (own_K b0 b1 b2 kf), iv (own_K b0 b1 b2 (own_k1 kf)), rv a18, iv ress3, own_lv cns3, .second, iv vas3, iv vbs3, .unset, .unset, .unset, .unset, .unset, .unset, .unset, .unset, .unset, .unset] [(.int fr), (.int fr), (.ref a18)]) (mkF m 223 #[iv xk, iv xa, iv xs, iv xv, iv xw, rv a2, iv ff, iv fr, iv t1, iv t2, iv (3 : Int32), iv (own_bi bv), iv (own_bi bw), iv (own_K b0 b1 b2 kf), iv (own_K b0 b1 b2 (own_k1 kf)), rv a18, iv ress3, own_lv cns3, .second, iv vas3, .unset, .unset, .unset, .unset, .unset, .unset, .unset, .unset, .unset, .unset, .unset] [(.int (own_val (own_aT (own_K b0 b1 b2) (fun _ => -1) (own_pO (own_K b0 b1 b2) (fun _ => -1) (fun _ => 0) (fun _ _ => -1) (own_k1 kf) kf) kf (own_bi bv)) (own_pR (own_K b0 b1 b2) (fun _ => -1) (fun _ _ => -1) (own_k1 kf) kf (own_bi bw)) kf (own_k2 kf)))]) := by
      intro t kt
      refine XS.istore X150.here hx rfl (hb hby at_223) rfl (l' := #[iv xk, iv xa, iv xs, iv xv, iv xw, rv a2, iv ff, iv fr, iv t1, iv t2, iv (3 : Int32), iv (own_bi bv), iv (own_bi bw), iv (own_K b0 b1 b2 kf), iv (own_K b0 b1 b2 (own_k1 kf)), rv a18, iv ress3, own_lv cns3, .second, iv vas3, iv (own_val (own_aT (own_K b0 b1 b2) (fun _ => -1) (own_pO (own_K b0 b1 b2) (fun _ => -1) (fun _ => 0) (fun _ _ => -1) (own_k1 kf) kf) kf (own_bi bv)) (own_pR (own_K b0 b1 b2) (fun _ => -1) (fun _ _ => -1) (own_k1 kf) kf (own_bi bw)) kf (own_k2 kf)), .unset, .unset, .unset, .unset, .unset, .unset, .unset, .unset, .unset, .unset]) rfl ?_
      show own_S p e below T150 m 225 #[iv xk, iv xa, iv xs, iv xv, iv xw, rv a2, iv ff, iv fr, iv t1, iv t2, iv (3 : Int32), iv (own_bi bv), iv (own_bi bw), iv (own_K b0 b1 b2 kf), iv (own_K b0 b1 b2 (own_k1 kf)), rv a18, iv ress3, own_lv cns3, .second, iv vas3, iv (own_val (own_aT (own_K b0 b1 b2) (fun _ => -1) (own_pO (own_K b0 b1 b2) (fun _ => -1) (fun _ => 0) (fun _ _ => -1) (own_k1 kf) kf) kf (own_bi bv)) (own_pR (own_K b0 b1 b2) (fun _ => -1) (fun _ _ => -1) (own_k1 kf) kf (own_bi bw)) kf (own_k2 kf)), .unset, .unset, .unset, .unset, .unset, .unset, .unset, .unset, .unset, .unset] [] _
      refine XS.aload X150.here hx rfl (hb hby at_225) rfl rfl ?_
      show own_S p e below T150 m 227 #[iv xk, iv xa, iv xs, iv xv, iv xw, rv a2, iv ff, iv fr, iv t1, iv t2, iv (3 : Int32), iv (own_bi bv), iv (own_bi bw), iv (own_K b0 b1 b2 kf), iv (own_K b0 b1 b2 (own_k1 kf)), rv a18, iv ress3, own_lv cns3, .second, iv vas3, iv (own_val (own_aT (own_K b0 b1 b2) (fun _ => -1) (own_pO (own_K b0 b1 b2) (fun _ => -1) (fun _ => 0) (fun _ _ => -1) (own_k1 kf) kf) kf (own_bi bv)) (own_pR (own_K b0 b1 b2) (fun _ => -1) (fun _ _ => -1) (own_k1 kf) kf (own_bi bw)) kf (own_k2 kf)), .unset, .unset, .unset, .unset, .unset, .unset, .unset, .unset, .unset, .unset] [(.ref a18)] _
      refine XS.iload X150.here hx rfl (hb hby at_227) rfl ?_
      show own_S p e below T150 m 229 #[iv xk, iv xa, iv xs, iv xv, iv xw, rv a2, iv ff, iv fr, iv t1, iv t2, iv (3 : Int32), iv (own_bi bv), iv (own_bi bw), iv (own_K b0 b1 b2 kf), iv (own_K b0 b1 b2 (own_k1 kf)), rv a18, iv ress3, own_lv cns3, .second, iv vas3, iv (own_val (own_aT (own_K b0 b1 b2) (fun _ => -1) (own_pO (own_K b0 b1 b2) (fun _ => -1) (fun _ => 0) (fun _ _ => -1) (own_k1 kf) kf) kf (own_bi bv)) (own_pR (own_K b0 b1 b2) (fun _ => -1) (fun _ _ => -1) (own_k1 kf) kf (own_bi bw)) kf (own_k2 kf)), .unset, .unset, .unset, .unset, .unset, .unset, .unset, .unset, .unset, .unset] [(.int fr), (.ref a18)] _
      refine XS.iload X150.here hx rfl (hb hby at_229) rfl ?_
      show own_S p e below T150 m 231 #[iv xk, iv xa, iv xs, iv xv, iv xw, rv a2, iv ff, iv fr, iv t1, iv t2, iv (3 : Int32), iv (own_bi bv), iv (own_bi bw), iv (own_K b0 b1 b2 kf), iv (own_K b0 b1 b2 (own_k1 kf)), rv a18, iv ress3, own_lv cns3, .second, iv vas3, iv (own_val (own_aT (own_K b0 b1 b2) (fun _ => -1) (own_pO (own_K b0 b1 b2) (fun _ => -1) (fun _ => 0) (fun _ _ => -1) (own_k1 kf) kf) kf (own_bi bv)) (own_pR (own_K b0 b1 b2) (fun _ => -1) (fun _ _ => -1) (own_k1 kf) kf (own_bi bw)) kf (own_k2 kf)), .unset, .unset, .unset, .unset, .unset, .unset, .unset, .unset, .unset, .unset] [(.int fr), (.int fr), (.ref a18)] _
      rw [hvbs3] at kt
      exact kt
    refine own_st sg151 ?_
    obtain ⟨_, T152, L152, X152, hQ152, st152⟩ := own_callV (y := (⟨"com/example/kingsround/kingsround/engine/Deliveries", "value", "(II)I"⟩ : MethodName)) (y0 := (⟨"com/example/kingsround/kingsround/engine/Deliveries", "value", "(II)I"⟩ : MethodName)) (a := a18) (C := "com/example/kingsround/kingsround/engine/Deliveries") X150 hx hZ hown HD144.1 (hw _ (List.mem_of_getElem? (i := 89) rfl)) (hw _ (List.mem_of_getElem? (i := 90) rfl)) (hw _ (List.mem_of_getElem? (i := 92) rfl)) (notFace_of_selects (args := #[]) (mvT hZ (hw _ (List.mem_of_getElem? (i := 92) rfl)))) (hw _ (List.mem_of_getElem? (i := 91) rfl)) (hw _ (List.mem_of_getElem? (i := 4) rfl)) (hw _ (List.mem_of_getElem? (i := 93) rfl)) (by decide) (own_rmval l Z a0 hw a18 fr fr ib kp ta ob q r (own_K b0 b1 b2) (own_aT (own_K b0 b1 b2) (fun _ => -1) (own_pO (own_K b0 b1 b2) (fun _ => -1) (fun _ => 0) (fun _ _ => -1) (own_k1 kf) kf) kf (own_bi bv)) (own_pO (own_K b0 b1 b2) (fun _ => -1) (fun _ => 0) (fun _ _ => -1) (own_k1 kf) kf) (own_pR (own_K b0 b1 b2) (fun _ => -1) (fun _ _ => -1) (own_k1 kf) kf (own_bi bw)) (own_ac (own_K b0 b1 b2) (fun _ => -1) (own_pO (own_K b0 b1 b2) (fun _ => -1) (fun _ => 0) (fun _ _ => -1) (own_k1 kf) kf) kf (own_pc (own_K b0 b1 b2) (fun _ => -1) (fun _ _ => -1) (own_k1 kf) kf 0)) kf kf T144.heap n0 Z144 HA HD144 hkf hkf hf3 hf3) e150 (g := (mkF m 231 #[iv xk, iv xa, iv xs, iv xv, iv xw, rv a2, iv ff, iv fr, iv t1, iv t2, iv (3 : Int32), iv (own_bi bv), iv (own_bi bw), iv (own_K b0 b1 b2 kf), iv (own_K b0 b1 b2 (own_k1 kf)), rv a18, iv ress3, own_lv cns3, .second, iv vas3, iv vbs3, .unset, .unset, .unset, .unset, .unset, .unset, .unset, .unset, .unset, .unset] [(.int fr), (.int fr), (.ref a18)])) rfl (by rw [hml]; rfl) (argsL := [(.int fr), (.int fr)]) (rest := []) (lenOf own_pd9 rfl) rfl (W := 0) (by show 2 * 0 + _ ≤ _; exact Nat.le_of_eq rfl) (hb hby at_231) (by decide) (by decide) (by decide) (by decide)
    obtain ⟨rfl, Nq152, e152⟩ := hQ152
    refine own_st st152 ?_
    have N152 := Fr.app N150 Nq152
    show own_Go p e below _ T152 (mkF m 234 #[iv xk, iv xa, iv xs, iv xv, iv xw, rv a2, iv ff, iv fr, iv t1, iv t2, iv (3 : Int32), iv (own_bi bv), iv (own_bi bw), iv (own_K b0 b1 b2 kf), iv (own_K b0 b1 b2 (own_k1 kf)), rv a18, iv ress3, own_lv cns3, .second, iv vas3, iv vbs3, .unset, .unset, .unset, .unset, .unset, .unset, .unset, .unset, .unset, .unset] [(.int (own_val (own_aT (own_K b0 b1 b2) (fun _ => -1) (own_pO (own_K b0 b1 b2) (fun _ => -1) (fun _ => 0) (fun _ _ => -1) (own_k1 kf) kf) kf (own_bi bv)) (own_pR (own_K b0 b1 b2) (fun _ => -1) (fun _ _ => -1) (own_k1 kf) kf (own_bi bw)) kf kf))])
    obtain ⟨vcs3, hvcs3⟩ : ∃ z : Int32, z = (own_val (own_aT (own_K b0 b1 b2) (fun _ => -1) (own_pO (own_K b0 b1 b2) (fun _ => -1) (fun _ => 0) (fun _ _ => -1) (own_k1 kf) kf) kf (own_bi bv)) (own_pR (own_K b0 b1 b2) (fun _ => -1) (fun _ _ => -1) (own_k1 kf) kf (own_bi bw)) kf kf) := ⟨_, rfl⟩
    have sg153 : own_V p e below T152 (mkF m 242 #[iv xk, iv xa, iv xs, iv xv, iv xw, rv a2, iv ff, iv fr, iv t1, iv t2, iv (3 : Int32), iv (own_bi bv), iv (own_bi bw), iv (own_K b0 b1 b2 kf), iv (own_K b0 b1 b2 (own_k1 kf)), rv a18, iv ress3, own_lv cns3, .second, iv vas3, iv vbs3, iv vcs3, .unset, .unset, .unset, .unset, .unset, .unset, .unset, .unset, .unset] [(.int fr), (.int t1), (.ref a18)]) (mkF m 234 #[iv xk, iv xa, iv xs, iv xv, iv xw, rv a2, iv ff, iv fr, iv t1, iv t2, iv (3 : Int32), iv (own_bi bv), iv (own_bi bw), iv (own_K b0 b1 b2 kf), iv (own_K b0 b1 b2 (own_k1 kf)), rv a18, iv ress3, own_lv cns3, .second, iv vas3, iv vbs3, .unset, .unset, .unset, .unset, .unset, .unset, .unset, .unset, .unset, .unset] [(.int (own_val (own_aT (own_K b0 b1 b2) (fun _ => -1) (own_pO (own_K b0 b1 b2) (fun _ => -1) (fun _ => 0) (fun _ _ => -1) (own_k1 kf) kf) kf (own_bi bv)) (own_pR (own_K b0 b1 b2) (fun _ => -1) (fun _ _ => -1) (own_k1 kf) kf (own_bi bw)) kf kf))]) := by
      intro t kt
      refine XS.istore X152.here hx rfl (hb hby at_234) rfl (l' := #[iv xk, iv xa, iv xs, iv xv, iv xw, rv a2, iv ff, iv fr, iv t1, iv t2, iv (3 : Int32), iv (own_bi bv), iv (own_bi bw), iv (own_K b0 b1 b2 kf), iv (own_K b0 b1 b2 (own_k1 kf)), rv a18, iv ress3, own_lv cns3, .second, iv vas3, iv vbs3, iv (own_val (own_aT (own_K b0 b1 b2) (fun _ => -1) (own_pO (own_K b0 b1 b2) (fun _ => -1) (fun _ => 0) (fun _ _ => -1) (own_k1 kf) kf) kf (own_bi bv)) (own_pR (own_K b0 b1 b2) (fun _ => -1) (fun _ _ => -1) (own_k1 kf) kf (own_bi bw)) kf kf), .unset, .unset, .unset, .unset, .unset, .unset, .unset, .unset, .unset]) rfl ?_
      show own_S p e below T152 m 236 #[iv xk, iv xa, iv xs, iv xv, iv xw, rv a2, iv ff, iv fr, iv t1, iv t2, iv (3 : Int32), iv (own_bi bv), iv (own_bi bw), iv (own_K b0 b1 b2 kf), iv (own_K b0 b1 b2 (own_k1 kf)), rv a18, iv ress3, own_lv cns3, .second, iv vas3, iv vbs3, iv (own_val (own_aT (own_K b0 b1 b2) (fun _ => -1) (own_pO (own_K b0 b1 b2) (fun _ => -1) (fun _ => 0) (fun _ _ => -1) (own_k1 kf) kf) kf (own_bi bv)) (own_pR (own_K b0 b1 b2) (fun _ => -1) (fun _ _ => -1) (own_k1 kf) kf (own_bi bw)) kf kf), .unset, .unset, .unset, .unset, .unset, .unset, .unset, .unset, .unset] [] _
      refine XS.aload X152.here hx rfl (hb hby at_236) rfl rfl ?_
      show own_S p e below T152 m 238 #[iv xk, iv xa, iv xs, iv xv, iv xw, rv a2, iv ff, iv fr, iv t1, iv t2, iv (3 : Int32), iv (own_bi bv), iv (own_bi bw), iv (own_K b0 b1 b2 kf), iv (own_K b0 b1 b2 (own_k1 kf)), rv a18, iv ress3, own_lv cns3, .second, iv vas3, iv vbs3, iv (own_val (own_aT (own_K b0 b1 b2) (fun _ => -1) (own_pO (own_K b0 b1 b2) (fun _ => -1) (fun _ => 0) (fun _ _ => -1) (own_k1 kf) kf) kf (own_bi bv)) (own_pR (own_K b0 b1 b2) (fun _ => -1) (fun _ _ => -1) (own_k1 kf) kf (own_bi bw)) kf kf), .unset, .unset, .unset, .unset, .unset, .unset, .unset, .unset, .unset] [(.ref a18)] _
      refine XS.iload X152.here hx rfl (hb hby at_238) rfl ?_
      show own_S p e below T152 m 240 #[iv xk, iv xa, iv xs, iv xv, iv xw, rv a2, iv ff, iv fr, iv t1, iv t2, iv (3 : Int32), iv (own_bi bv), iv (own_bi bw), iv (own_K b0 b1 b2 kf), iv (own_K b0 b1 b2 (own_k1 kf)), rv a18, iv ress3, own_lv cns3, .second, iv vas3, iv vbs3, iv (own_val (own_aT (own_K b0 b1 b2) (fun _ => -1) (own_pO (own_K b0 b1 b2) (fun _ => -1) (fun _ => 0) (fun _ _ => -1) (own_k1 kf) kf) kf (own_bi bv)) (own_pR (own_K b0 b1 b2) (fun _ => -1) (fun _ _ => -1) (own_k1 kf) kf (own_bi bw)) kf kf), .unset, .unset, .unset, .unset, .unset, .unset, .unset, .unset, .unset] [(.int t1), (.ref a18)] _
      refine XS.iload X152.here hx rfl (hb hby at_240) rfl ?_
      show own_S p e below T152 m 242 #[iv xk, iv xa, iv xs, iv xv, iv xw, rv a2, iv ff, iv fr, iv t1, iv t2, iv (3 : Int32), iv (own_bi bv), iv (own_bi bw), iv (own_K b0 b1 b2 kf), iv (own_K b0 b1 b2 (own_k1 kf)), rv a18, iv ress3, own_lv cns3, .second, iv vas3, iv vbs3, iv (own_val (own_aT (own_K b0 b1 b2) (fun _ => -1) (own_pO (own_K b0 b1 b2) (fun _ => -1) (fun _ => 0) (fun _ _ => -1) (own_k1 kf) kf) kf (own_bi bv)) (own_pR (own_K b0 b1 b2) (fun _ => -1) (fun _ _ => -1) (own_k1 kf) kf (own_bi bw)) kf kf), .unset, .unset, .unset, .unset, .unset, .unset, .unset, .unset, .unset] [(.int fr), (.int t1), (.ref a18)] _
      rw [hvcs3] at kt
      exact kt
    refine own_st sg153 ?_
    obtain ⟨_, T154, L154, X154, hQ154, st154⟩ := own_callV (y := (⟨"com/example/kingsround/kingsround/engine/Deliveries", "value", "(II)I"⟩ : MethodName)) (y0 := (⟨"com/example/kingsround/kingsround/engine/Deliveries", "value", "(II)I"⟩ : MethodName)) (a := a18) (C := "com/example/kingsround/kingsround/engine/Deliveries") X152 hx hZ hown HD144.1 (hw _ (List.mem_of_getElem? (i := 89) rfl)) (hw _ (List.mem_of_getElem? (i := 90) rfl)) (hw _ (List.mem_of_getElem? (i := 92) rfl)) (notFace_of_selects (args := #[]) (mvT hZ (hw _ (List.mem_of_getElem? (i := 92) rfl)))) (hw _ (List.mem_of_getElem? (i := 91) rfl)) (hw _ (List.mem_of_getElem? (i := 4) rfl)) (hw _ (List.mem_of_getElem? (i := 93) rfl)) (by decide) (own_rmval l Z a0 hw a18 t1 fr ib kp ta ob q r (own_K b0 b1 b2) (own_aT (own_K b0 b1 b2) (fun _ => -1) (own_pO (own_K b0 b1 b2) (fun _ => -1) (fun _ => 0) (fun _ _ => -1) (own_k1 kf) kf) kf (own_bi bv)) (own_pO (own_K b0 b1 b2) (fun _ => -1) (fun _ => 0) (fun _ _ => -1) (own_k1 kf) kf) (own_pR (own_K b0 b1 b2) (fun _ => -1) (fun _ _ => -1) (own_k1 kf) kf (own_bi bw)) (own_ac (own_K b0 b1 b2) (fun _ => -1) (own_pO (own_K b0 b1 b2) (fun _ => -1) (fun _ => 0) (fun _ _ => -1) (own_k1 kf) kf) kf (own_pc (own_K b0 b1 b2) (fun _ => -1) (fun _ _ => -1) (own_k1 kf) kf 0)) (own_k1 kf) kf T144.heap n0 Z144 HA HD144 hk1.1 hkf hk1.2 hf3) e152 (g := (mkF m 242 #[iv xk, iv xa, iv xs, iv xv, iv xw, rv a2, iv ff, iv fr, iv t1, iv t2, iv (3 : Int32), iv (own_bi bv), iv (own_bi bw), iv (own_K b0 b1 b2 kf), iv (own_K b0 b1 b2 (own_k1 kf)), rv a18, iv ress3, own_lv cns3, .second, iv vas3, iv vbs3, iv vcs3, .unset, .unset, .unset, .unset, .unset, .unset, .unset, .unset, .unset] [(.int fr), (.int t1), (.ref a18)])) rfl (by rw [hml]; rfl) (argsL := [(.int t1), (.int fr)]) (rest := []) (lenOf own_pd9 rfl) rfl (W := 0) (by show 2 * 0 + _ ≤ _; exact Nat.le_of_eq rfl) (hb hby at_242) (by decide) (by decide) (by decide) (by decide)
    obtain ⟨rfl, Nq154, e154⟩ := hQ154
    refine own_st st154 ?_
    have N154 := Fr.app N152 Nq154
    show own_Go p e below _ T154 (mkF m 245 #[iv xk, iv xa, iv xs, iv xv, iv xw, rv a2, iv ff, iv fr, iv t1, iv t2, iv (3 : Int32), iv (own_bi bv), iv (own_bi bw), iv (own_K b0 b1 b2 kf), iv (own_K b0 b1 b2 (own_k1 kf)), rv a18, iv ress3, own_lv cns3, .second, iv vas3, iv vbs3, iv vcs3, .unset, .unset, .unset, .unset, .unset, .unset, .unset, .unset, .unset] [(.int (own_val (own_aT (own_K b0 b1 b2) (fun _ => -1) (own_pO (own_K b0 b1 b2) (fun _ => -1) (fun _ => 0) (fun _ _ => -1) (own_k1 kf) kf) kf (own_bi bv)) (own_pR (own_K b0 b1 b2) (fun _ => -1) (fun _ _ => -1) (own_k1 kf) kf (own_bi bw)) (own_k1 kf) kf))])
    obtain ⟨vds3, hvds3⟩ : ∃ z : Int32, z = (own_val (own_aT (own_K b0 b1 b2) (fun _ => -1) (own_pO (own_K b0 b1 b2) (fun _ => -1) (fun _ => 0) (fun _ _ => -1) (own_k1 kf) kf) kf (own_bi bv)) (own_pR (own_K b0 b1 b2) (fun _ => -1) (fun _ _ => -1) (own_k1 kf) kf (own_bi bw)) (own_k1 kf) kf) := ⟨_, rfl⟩
    have sg155 : own_V p e below T154 (mkF m 247 #[iv xk, iv xa, iv xs, iv xv, iv xw, rv a2, iv ff, iv fr, iv t1, iv t2, iv (3 : Int32), iv (own_bi bv), iv (own_bi bw), iv (own_K b0 b1 b2 kf), iv (own_K b0 b1 b2 (own_k1 kf)), rv a18, iv ress3, own_lv cns3, .second, iv vas3, iv vbs3, iv vcs3, iv vds3, .unset, .unset, .unset, .unset, .unset, .unset, .unset, .unset] []) (mkF m 245 #[iv xk, iv xa, iv xs, iv xv, iv xw, rv a2, iv ff, iv fr, iv t1, iv t2, iv (3 : Int32), iv (own_bi bv), iv (own_bi bw), iv (own_K b0 b1 b2 kf), iv (own_K b0 b1 b2 (own_k1 kf)), rv a18, iv ress3, own_lv cns3, .second, iv vas3, iv vbs3, iv vcs3, .unset, .unset, .unset, .unset, .unset, .unset, .unset, .unset, .unset] [(.int (own_val (own_aT (own_K b0 b1 b2) (fun _ => -1) (own_pO (own_K b0 b1 b2) (fun _ => -1) (fun _ => 0) (fun _ _ => -1) (own_k1 kf) kf) kf (own_bi bv)) (own_pR (own_K b0 b1 b2) (fun _ => -1) (fun _ _ => -1) (own_k1 kf) kf (own_bi bw)) (own_k1 kf) kf))]) := by
      intro t kt
      refine XS.istore X154.here hx rfl (hb hby at_245) rfl (l' := #[iv xk, iv xa, iv xs, iv xv, iv xw, rv a2, iv ff, iv fr, iv t1, iv t2, iv (3 : Int32), iv (own_bi bv), iv (own_bi bw), iv (own_K b0 b1 b2 kf), iv (own_K b0 b1 b2 (own_k1 kf)), rv a18, iv ress3, own_lv cns3, .second, iv vas3, iv vbs3, iv vcs3, iv (own_val (own_aT (own_K b0 b1 b2) (fun _ => -1) (own_pO (own_K b0 b1 b2) (fun _ => -1) (fun _ => 0) (fun _ _ => -1) (own_k1 kf) kf) kf (own_bi bv)) (own_pR (own_K b0 b1 b2) (fun _ => -1) (fun _ _ => -1) (own_k1 kf) kf (own_bi bw)) (own_k1 kf) kf), .unset, .unset, .unset, .unset, .unset, .unset, .unset, .unset]) rfl ?_
      show own_S p e below T154 m 247 #[iv xk, iv xa, iv xs, iv xv, iv xw, rv a2, iv ff, iv fr, iv t1, iv t2, iv (3 : Int32), iv (own_bi bv), iv (own_bi bw), iv (own_K b0 b1 b2 kf), iv (own_K b0 b1 b2 (own_k1 kf)), rv a18, iv ress3, own_lv cns3, .second, iv vas3, iv vbs3, iv vcs3, iv (own_val (own_aT (own_K b0 b1 b2) (fun _ => -1) (own_pO (own_K b0 b1 b2) (fun _ => -1) (fun _ => 0) (fun _ _ => -1) (own_k1 kf) kf) kf (own_bi bv)) (own_pR (own_K b0 b1 b2) (fun _ => -1) (fun _ _ => -1) (own_k1 kf) kf (own_bi bw)) (own_k1 kf) kf), .unset, .unset, .unset, .unset, .unset, .unset, .unset, .unset] [] _
      rw [hvds3] at kt
      exact kt
    refine own_st sg155 ?_
    obtain ⟨pos3, hpos3⟩ : ∃ z : Int32, z = (if (own_K b0 b1 b2 kf) = (0 : Int32) then (if (own_K b0 b1 b2 (own_k1 kf)) = (0 : Int32) then (0 : Int32) else (1 : Int32)) else (1 : Int32)) := ⟨_, rfl⟩
    have sg158 : own_V p e below T154 (mkF m 274 #[iv xk, iv xa, iv xs, iv xv, iv xw, rv a2, iv ff, iv fr, iv t1, iv t2, iv (3 : Int32), iv (own_bi bv), iv (own_bi bw), iv (own_K b0 b1 b2 kf), iv (own_K b0 b1 b2 (own_k1 kf)), rv a18, iv ress3, own_lv cns3, .second, iv vas3, iv vbs3, iv vcs3, iv vds3, .unset, .unset, .unset, .unset, .unset, .unset, .unset, .unset] [(.int pos3)]) (mkF m 247 #[iv xk, iv xa, iv xs, iv xv, iv xw, rv a2, iv ff, iv fr, iv t1, iv t2, iv (3 : Int32), iv (own_bi bv), iv (own_bi bw), iv (own_K b0 b1 b2 kf), iv (own_K b0 b1 b2 (own_k1 kf)), rv a18, iv ress3, own_lv cns3, .second, iv vas3, iv vbs3, iv vcs3, iv vds3, .unset, .unset, .unset, .unset, .unset, .unset, .unset, .unset] []) := by
      intro t kt
      refine XS.iload X154.here hx rfl (hb hby at_247) rfl ?_
      show own_S p e below T154 m 249 #[iv xk, iv xa, iv xs, iv xv, iv xw, rv a2, iv ff, iv fr, iv t1, iv t2, iv (3 : Int32), iv (own_bi bv), iv (own_bi bw), iv (own_K b0 b1 b2 kf), iv (own_K b0 b1 b2 (own_k1 kf)), rv a18, iv ress3, own_lv cns3, .second, iv vas3, iv vbs3, iv vcs3, iv vds3, .unset, .unset, .unset, .unset, .unset, .unset, .unset, .unset] [(.int (3 : Int32))] _
      refine XS.iconst X154.here hx rfl (hb hby at_249) ?_
      show own_S p e below T154 m 250 #[iv xk, iv xa, iv xs, iv xv, iv xw, rv a2, iv ff, iv fr, iv t1, iv t2, iv (3 : Int32), iv (own_bi bv), iv (own_bi bw), iv (own_K b0 b1 b2 kf), iv (own_K b0 b1 b2 (own_k1 kf)), rv a18, iv ress3, own_lv cns3, .second, iv vas3, iv vbs3, iv vcs3, iv vds3, .unset, .unset, .unset, .unset, .unset, .unset, .unset, .unset] [(.int (1 : Int32)), (.int (3 : Int32))] _
      refine XS.icmpNo X154.here hx rfl (hb hby at_250) rfl (feq (by decide : ¬ (3 : Int32) = (1 : Int32))).1 ?_
      show own_S p e below T154 m 253 #[iv xk, iv xa, iv xs, iv xv, iv xw, rv a2, iv ff, iv fr, iv t1, iv t2, iv (3 : Int32), iv (own_bi bv), iv (own_bi bw), iv (own_K b0 b1 b2 kf), iv (own_K b0 b1 b2 (own_k1 kf)), rv a18, iv ress3, own_lv cns3, .second, iv vas3, iv vbs3, iv vcs3, iv vds3, .unset, .unset, .unset, .unset, .unset, .unset, .unset, .unset] [] _
      refine XS.iload X154.here hx rfl (hb hby at_253) rfl ?_
      show own_S p e below T154 m 255 #[iv xk, iv xa, iv xs, iv xv, iv xw, rv a2, iv ff, iv fr, iv t1, iv t2, iv (3 : Int32), iv (own_bi bv), iv (own_bi bw), iv (own_K b0 b1 b2 kf), iv (own_K b0 b1 b2 (own_k1 kf)), rv a18, iv ress3, own_lv cns3, .second, iv vas3, iv vbs3, iv vcs3, iv vds3, .unset, .unset, .unset, .unset, .unset, .unset, .unset, .unset] [(.int (3 : Int32))] _
      refine XS.iconst X154.here hx rfl (hb hby at_255) ?_
      show own_S p e below T154 m 256 #[iv xk, iv xa, iv xs, iv xv, iv xw, rv a2, iv ff, iv fr, iv t1, iv t2, iv (3 : Int32), iv (own_bi bv), iv (own_bi bw), iv (own_K b0 b1 b2 kf), iv (own_K b0 b1 b2 (own_k1 kf)), rv a18, iv ress3, own_lv cns3, .second, iv vas3, iv vbs3, iv vcs3, iv vds3, .unset, .unset, .unset, .unset, .unset, .unset, .unset, .unset] [(.int (3 : Int32)), (.int (3 : Int32))] _
      refine XS.icmpNo X154.here hx rfl (hb hby at_256) rfl (teq (by decide : (3 : Int32) = (3 : Int32))).2 ?_
      show own_S p e below T154 m 259 #[iv xk, iv xa, iv xs, iv xv, iv xw, rv a2, iv ff, iv fr, iv t1, iv t2, iv (3 : Int32), iv (own_bi bv), iv (own_bi bw), iv (own_K b0 b1 b2 kf), iv (own_K b0 b1 b2 (own_k1 kf)), rv a18, iv ress3, own_lv cns3, .second, iv vas3, iv vbs3, iv vcs3, iv vds3, .unset, .unset, .unset, .unset, .unset, .unset, .unset, .unset] [] _
      refine XS.iload X154.here hx rfl (hb hby at_259) rfl ?_
      show own_S p e below T154 m 261 #[iv xk, iv xa, iv xs, iv xv, iv xw, rv a2, iv ff, iv fr, iv t1, iv t2, iv (3 : Int32), iv (own_bi bv), iv (own_bi bw), iv (own_K b0 b1 b2 kf), iv (own_K b0 b1 b2 (own_k1 kf)), rv a18, iv ress3, own_lv cns3, .second, iv vas3, iv vbs3, iv vcs3, iv vds3, .unset, .unset, .unset, .unset, .unset, .unset, .unset, .unset] [(.int (own_K b0 b1 b2 kf))] _
      by_cases hc156 : (own_K b0 b1 b2 kf) = (0 : Int32)
      · refine XS.ifNo X154.here hx rfl (hb hby at_261) rfl ((if0 _ _).trans (teq hc156).2) ?_
        show own_S p e below T154 m 264 #[iv xk, iv xa, iv xs, iv xv, iv xw, rv a2, iv ff, iv fr, iv t1, iv t2, iv (3 : Int32), iv (own_bi bv), iv (own_bi bw), iv (own_K b0 b1 b2 kf), iv (own_K b0 b1 b2 (own_k1 kf)), rv a18, iv ress3, own_lv cns3, .second, iv vas3, iv vbs3, iv vcs3, iv vds3, .unset, .unset, .unset, .unset, .unset, .unset, .unset, .unset] [] _
        refine XS.iload X154.here hx rfl (hb hby at_264) rfl ?_
        show own_S p e below T154 m 266 #[iv xk, iv xa, iv xs, iv xv, iv xw, rv a2, iv ff, iv fr, iv t1, iv t2, iv (3 : Int32), iv (own_bi bv), iv (own_bi bw), iv (own_K b0 b1 b2 kf), iv (own_K b0 b1 b2 (own_k1 kf)), rv a18, iv ress3, own_lv cns3, .second, iv vas3, iv vbs3, iv vcs3, iv vds3, .unset, .unset, .unset, .unset, .unset, .unset, .unset, .unset] [(.int (own_K b0 b1 b2 (own_k1 kf)))] _
        by_cases hc157 : (own_K b0 b1 b2 (own_k1 kf)) = (0 : Int32)
        · refine XS.ifYes X154.here hx rfl (pc0 := 266) (pc' := 273) rfl (hb hby at_266) rfl ((if0 _ _).trans (teq hc157).1) (by decide) (by decide) ?_
          show own_S p e below T154 m 273 #[iv xk, iv xa, iv xs, iv xv, iv xw, rv a2, iv ff, iv fr, iv t1, iv t2, iv (3 : Int32), iv (own_bi bv), iv (own_bi bw), iv (own_K b0 b1 b2 kf), iv (own_K b0 b1 b2 (own_k1 kf)), rv a18, iv ress3, own_lv cns3, .second, iv vas3, iv vbs3, iv vcs3, iv vds3, .unset, .unset, .unset, .unset, .unset, .unset, .unset, .unset] [] _
          refine XS.iconst X154.here hx rfl (hb hby at_273) ?_
          show own_S p e below T154 m 274 #[iv xk, iv xa, iv xs, iv xv, iv xw, rv a2, iv ff, iv fr, iv t1, iv t2, iv (3 : Int32), iv (own_bi bv), iv (own_bi bw), iv (own_K b0 b1 b2 kf), iv (own_K b0 b1 b2 (own_k1 kf)), rv a18, iv ress3, own_lv cns3, .second, iv vas3, iv vbs3, iv vcs3, iv vds3, .unset, .unset, .unset, .unset, .unset, .unset, .unset, .unset] [(.int (0 : Int32))] _
          rw [show pos3 = (0 : Int32) from by rw [hpos3, if_pos hc156, if_pos hc157]] at kt
          exact kt
        · refine XS.ifNo X154.here hx rfl (hb hby at_266) rfl ((if0 _ _).trans (feq hc157).1) ?_
          show own_S p e below T154 m 269 #[iv xk, iv xa, iv xs, iv xv, iv xw, rv a2, iv ff, iv fr, iv t1, iv t2, iv (3 : Int32), iv (own_bi bv), iv (own_bi bw), iv (own_K b0 b1 b2 kf), iv (own_K b0 b1 b2 (own_k1 kf)), rv a18, iv ress3, own_lv cns3, .second, iv vas3, iv vbs3, iv vcs3, iv vds3, .unset, .unset, .unset, .unset, .unset, .unset, .unset, .unset] [] _
          refine XS.iconst X154.here hx rfl (hb hby at_269) ?_
          show own_S p e below T154 m 270 #[iv xk, iv xa, iv xs, iv xv, iv xw, rv a2, iv ff, iv fr, iv t1, iv t2, iv (3 : Int32), iv (own_bi bv), iv (own_bi bw), iv (own_K b0 b1 b2 kf), iv (own_K b0 b1 b2 (own_k1 kf)), rv a18, iv ress3, own_lv cns3, .second, iv vas3, iv vbs3, iv vcs3, iv vds3, .unset, .unset, .unset, .unset, .unset, .unset, .unset, .unset] [(.int (1 : Int32))] _
          refine XS.goto X154.here hx rfl (pc0 := 270) (pc' := 274) rfl (hb hby at_270) (by decide) (by decide) ?_
          show own_S p e below T154 m 274 #[iv xk, iv xa, iv xs, iv xv, iv xw, rv a2, iv ff, iv fr, iv t1, iv t2, iv (3 : Int32), iv (own_bi bv), iv (own_bi bw), iv (own_K b0 b1 b2 kf), iv (own_K b0 b1 b2 (own_k1 kf)), rv a18, iv ress3, own_lv cns3, .second, iv vas3, iv vbs3, iv vcs3, iv vds3, .unset, .unset, .unset, .unset, .unset, .unset, .unset, .unset] [(.int (1 : Int32))] _
          rw [show pos3 = (1 : Int32) from by rw [hpos3, if_pos hc156, if_neg hc157]] at kt
          exact kt
      · refine XS.ifYes X154.here hx rfl (pc0 := 261) (pc' := 269) rfl (hb hby at_261) rfl ((if0 _ _).trans (feq hc156).2) (by decide) (by decide) ?_
        show own_S p e below T154 m 269 #[iv xk, iv xa, iv xs, iv xv, iv xw, rv a2, iv ff, iv fr, iv t1, iv t2, iv (3 : Int32), iv (own_bi bv), iv (own_bi bw), iv (own_K b0 b1 b2 kf), iv (own_K b0 b1 b2 (own_k1 kf)), rv a18, iv ress3, own_lv cns3, .second, iv vas3, iv vbs3, iv vcs3, iv vds3, .unset, .unset, .unset, .unset, .unset, .unset, .unset, .unset] [] _
        refine XS.iconst X154.here hx rfl (hb hby at_269) ?_
        show own_S p e below T154 m 270 #[iv xk, iv xa, iv xs, iv xv, iv xw, rv a2, iv ff, iv fr, iv t1, iv t2, iv (3 : Int32), iv (own_bi bv), iv (own_bi bw), iv (own_K b0 b1 b2 kf), iv (own_K b0 b1 b2 (own_k1 kf)), rv a18, iv ress3, own_lv cns3, .second, iv vas3, iv vbs3, iv vcs3, iv vds3, .unset, .unset, .unset, .unset, .unset, .unset, .unset, .unset] [(.int (1 : Int32))] _
        refine XS.goto X154.here hx rfl (pc0 := 270) (pc' := 274) rfl (hb hby at_270) (by decide) (by decide) ?_
        show own_S p e below T154 m 274 #[iv xk, iv xa, iv xs, iv xv, iv xw, rv a2, iv ff, iv fr, iv t1, iv t2, iv (3 : Int32), iv (own_bi bv), iv (own_bi bw), iv (own_K b0 b1 b2 kf), iv (own_K b0 b1 b2 (own_k1 kf)), rv a18, iv ress3, own_lv cns3, .second, iv vas3, iv vbs3, iv vcs3, iv vds3, .unset, .unset, .unset, .unset, .unset, .unset, .unset, .unset] [(.int (1 : Int32))] _
        rw [show pos3 = (1 : Int32) from by rw [hpos3, if_neg hc156]] at kt
        exact kt
    refine own_st sg158 ?_
    obtain ⟨pas3, hpas3⟩ : ∃ z : Int32, z = (0 : Int32) := ⟨_, rfl⟩
    have sg159 : own_V p e below T154 (mkF m 292 #[iv xk, iv xa, iv xs, iv xv, iv xw, rv a2, iv ff, iv fr, iv t1, iv t2, iv (3 : Int32), iv (own_bi bv), iv (own_bi bw), iv (own_K b0 b1 b2 kf), iv (own_K b0 b1 b2 (own_k1 kf)), rv a18, iv ress3, own_lv cns3, .second, iv vas3, iv vbs3, iv vcs3, iv vds3, iv pos3, .unset, .unset, .unset, .unset, .unset, .unset, .unset] [(.int pas3)]) (mkF m 274 #[iv xk, iv xa, iv xs, iv xv, iv xw, rv a2, iv ff, iv fr, iv t1, iv t2, iv (3 : Int32), iv (own_bi bv), iv (own_bi bw), iv (own_K b0 b1 b2 kf), iv (own_K b0 b1 b2 (own_k1 kf)), rv a18, iv ress3, own_lv cns3, .second, iv vas3, iv vbs3, iv vcs3, iv vds3, .unset, .unset, .unset, .unset, .unset, .unset, .unset, .unset] [(.int pos3)]) := by
      intro t kt
      refine XS.istore X154.here hx rfl (hb hby at_274) rfl (l' := #[iv xk, iv xa, iv xs, iv xv, iv xw, rv a2, iv ff, iv fr, iv t1, iv t2, iv (3 : Int32), iv (own_bi bv), iv (own_bi bw), iv (own_K b0 b1 b2 kf), iv (own_K b0 b1 b2 (own_k1 kf)), rv a18, iv ress3, own_lv cns3, .second, iv vas3, iv vbs3, iv vcs3, iv vds3, iv pos3, .unset, .unset, .unset, .unset, .unset, .unset, .unset]) rfl ?_
      show own_S p e below T154 m 276 #[iv xk, iv xa, iv xs, iv xv, iv xw, rv a2, iv ff, iv fr, iv t1, iv t2, iv (3 : Int32), iv (own_bi bv), iv (own_bi bw), iv (own_K b0 b1 b2 kf), iv (own_K b0 b1 b2 (own_k1 kf)), rv a18, iv ress3, own_lv cns3, .second, iv vas3, iv vbs3, iv vcs3, iv vds3, iv pos3, .unset, .unset, .unset, .unset, .unset, .unset, .unset] [] _
      refine XS.iload X154.here hx rfl (hb hby at_276) rfl ?_
      show own_S p e below T154 m 278 #[iv xk, iv xa, iv xs, iv xv, iv xw, rv a2, iv ff, iv fr, iv t1, iv t2, iv (3 : Int32), iv (own_bi bv), iv (own_bi bw), iv (own_K b0 b1 b2 kf), iv (own_K b0 b1 b2 (own_k1 kf)), rv a18, iv ress3, own_lv cns3, .second, iv vas3, iv vbs3, iv vcs3, iv vds3, iv pos3, .unset, .unset, .unset, .unset, .unset, .unset, .unset] [(.int (3 : Int32))] _
      refine XS.iconst X154.here hx rfl (hb hby at_278) ?_
      show own_S p e below T154 m 279 #[iv xk, iv xa, iv xs, iv xv, iv xw, rv a2, iv ff, iv fr, iv t1, iv t2, iv (3 : Int32), iv (own_bi bv), iv (own_bi bw), iv (own_K b0 b1 b2 kf), iv (own_K b0 b1 b2 (own_k1 kf)), rv a18, iv ress3, own_lv cns3, .second, iv vas3, iv vbs3, iv vcs3, iv vds3, iv pos3, .unset, .unset, .unset, .unset, .unset, .unset, .unset] [(.int (2 : Int32)), (.int (3 : Int32))] _
      refine XS.icmpYes X154.here hx rfl (pc0 := 279) (pc' := 291) rfl (hb hby at_279) rfl (feq (by decide : ¬ (3 : Int32) = (2 : Int32))).2 (by decide) (by decide) ?_
      show own_S p e below T154 m 291 #[iv xk, iv xa, iv xs, iv xv, iv xw, rv a2, iv ff, iv fr, iv t1, iv t2, iv (3 : Int32), iv (own_bi bv), iv (own_bi bw), iv (own_K b0 b1 b2 kf), iv (own_K b0 b1 b2 (own_k1 kf)), rv a18, iv ress3, own_lv cns3, .second, iv vas3, iv vbs3, iv vcs3, iv vds3, iv pos3, .unset, .unset, .unset, .unset, .unset, .unset, .unset] [] _
      refine XS.iconst X154.here hx rfl (hb hby at_291) ?_
      show own_S p e below T154 m 292 #[iv xk, iv xa, iv xs, iv xv, iv xw, rv a2, iv ff, iv fr, iv t1, iv t2, iv (3 : Int32), iv (own_bi bv), iv (own_bi bw), iv (own_K b0 b1 b2 kf), iv (own_K b0 b1 b2 (own_k1 kf)), rv a18, iv ress3, own_lv cns3, .second, iv vas3, iv vbs3, iv vcs3, iv vds3, iv pos3, .unset, .unset, .unset, .unset, .unset, .unset, .unset] [(.int (0 : Int32))] _
      rw [hpas3] at kt
      exact kt
    refine own_st sg159 ?_
    obtain ⟨ers3, hers3⟩ : ∃ z : Int32, z = (if (own_K b0 b1 b2 kf) = (0 : Int32) then (0 : Int32) else (1 : Int32)) := ⟨_, rfl⟩
    have sg161 : own_V p e below T154 (mkF m 315 #[iv xk, iv xa, iv xs, iv xv, iv xw, rv a2, iv ff, iv fr, iv t1, iv t2, iv (3 : Int32), iv (own_bi bv), iv (own_bi bw), iv (own_K b0 b1 b2 kf), iv (own_K b0 b1 b2 (own_k1 kf)), rv a18, iv ress3, own_lv cns3, .second, iv vas3, iv vbs3, iv vcs3, iv vds3, iv pos3, iv pas3, .unset, .unset, .unset, .unset, .unset, .unset] [(.int ers3)]) (mkF m 292 #[iv xk, iv xa, iv xs, iv xv, iv xw, rv a2, iv ff, iv fr, iv t1, iv t2, iv (3 : Int32), iv (own_bi bv), iv (own_bi bw), iv (own_K b0 b1 b2 kf), iv (own_K b0 b1 b2 (own_k1 kf)), rv a18, iv ress3, own_lv cns3, .second, iv vas3, iv vbs3, iv vcs3, iv vds3, iv pos3, .unset, .unset, .unset, .unset, .unset, .unset, .unset] [(.int pas3)]) := by
      intro t kt
      refine XS.istore X154.here hx rfl (hb hby at_292) rfl (l' := #[iv xk, iv xa, iv xs, iv xv, iv xw, rv a2, iv ff, iv fr, iv t1, iv t2, iv (3 : Int32), iv (own_bi bv), iv (own_bi bw), iv (own_K b0 b1 b2 kf), iv (own_K b0 b1 b2 (own_k1 kf)), rv a18, iv ress3, own_lv cns3, .second, iv vas3, iv vbs3, iv vcs3, iv vds3, iv pos3, iv pas3, .unset, .unset, .unset, .unset, .unset, .unset]) rfl ?_
      show own_S p e below T154 m 294 #[iv xk, iv xa, iv xs, iv xv, iv xw, rv a2, iv ff, iv fr, iv t1, iv t2, iv (3 : Int32), iv (own_bi bv), iv (own_bi bw), iv (own_K b0 b1 b2 kf), iv (own_K b0 b1 b2 (own_k1 kf)), rv a18, iv ress3, own_lv cns3, .second, iv vas3, iv vbs3, iv vcs3, iv vds3, iv pos3, iv pas3, .unset, .unset, .unset, .unset, .unset, .unset] [] _
      refine XS.iload X154.here hx rfl (hb hby at_294) rfl ?_
      show own_S p e below T154 m 296 #[iv xk, iv xa, iv xs, iv xv, iv xw, rv a2, iv ff, iv fr, iv t1, iv t2, iv (3 : Int32), iv (own_bi bv), iv (own_bi bw), iv (own_K b0 b1 b2 kf), iv (own_K b0 b1 b2 (own_k1 kf)), rv a18, iv ress3, own_lv cns3, .second, iv vas3, iv vbs3, iv vcs3, iv vds3, iv pos3, iv pas3, .unset, .unset, .unset, .unset, .unset, .unset] [(.int (own_K b0 b1 b2 kf))] _
      by_cases hc160 : (own_K b0 b1 b2 kf) = (0 : Int32)
      · refine XS.ifYes X154.here hx rfl (pc0 := 296) (pc' := 314) rfl (hb hby at_296) rfl ((if0 _ _).trans (teq hc160).1) (by decide) (by decide) ?_
        show own_S p e below T154 m 314 #[iv xk, iv xa, iv xs, iv xv, iv xw, rv a2, iv ff, iv fr, iv t1, iv t2, iv (3 : Int32), iv (own_bi bv), iv (own_bi bw), iv (own_K b0 b1 b2 kf), iv (own_K b0 b1 b2 (own_k1 kf)), rv a18, iv ress3, own_lv cns3, .second, iv vas3, iv vbs3, iv vcs3, iv vds3, iv pos3, iv pas3, .unset, .unset, .unset, .unset, .unset, .unset] [] _
        refine XS.iconst X154.here hx rfl (hb hby at_314) ?_
        show own_S p e below T154 m 315 #[iv xk, iv xa, iv xs, iv xv, iv xw, rv a2, iv ff, iv fr, iv t1, iv t2, iv (3 : Int32), iv (own_bi bv), iv (own_bi bw), iv (own_K b0 b1 b2 kf), iv (own_K b0 b1 b2 (own_k1 kf)), rv a18, iv ress3, own_lv cns3, .second, iv vas3, iv vbs3, iv vcs3, iv vds3, iv pos3, iv pas3, .unset, .unset, .unset, .unset, .unset, .unset] [(.int (0 : Int32))] _
        rw [show ers3 = (0 : Int32) from by rw [hers3, if_pos hc160]] at kt
        exact kt
      · refine XS.ifNo X154.here hx rfl (hb hby at_296) rfl ((if0 _ _).trans (feq hc160).1) ?_
        show own_S p e below T154 m 299 #[iv xk, iv xa, iv xs, iv xv, iv xw, rv a2, iv ff, iv fr, iv t1, iv t2, iv (3 : Int32), iv (own_bi bv), iv (own_bi bw), iv (own_K b0 b1 b2 kf), iv (own_K b0 b1 b2 (own_k1 kf)), rv a18, iv ress3, own_lv cns3, .second, iv vas3, iv vbs3, iv vcs3, iv vds3, iv pos3, iv pas3, .unset, .unset, .unset, .unset, .unset, .unset] [] _
        refine XS.iload X154.here hx rfl (hb hby at_299) rfl ?_
        show own_S p e below T154 m 301 #[iv xk, iv xa, iv xs, iv xv, iv xw, rv a2, iv ff, iv fr, iv t1, iv t2, iv (3 : Int32), iv (own_bi bv), iv (own_bi bw), iv (own_K b0 b1 b2 kf), iv (own_K b0 b1 b2 (own_k1 kf)), rv a18, iv ress3, own_lv cns3, .second, iv vas3, iv vbs3, iv vcs3, iv vds3, iv pos3, iv pas3, .unset, .unset, .unset, .unset, .unset, .unset] [(.int (3 : Int32))] _
        refine XS.ifNo X154.here hx rfl (hb hby at_301) rfl ((if0 _ _).trans (feq (by decide : ¬ (3 : Int32) = (0 : Int32))).1) ?_
        show own_S p e below T154 m 304 #[iv xk, iv xa, iv xs, iv xv, iv xw, rv a2, iv ff, iv fr, iv t1, iv t2, iv (3 : Int32), iv (own_bi bv), iv (own_bi bw), iv (own_K b0 b1 b2 kf), iv (own_K b0 b1 b2 (own_k1 kf)), rv a18, iv ress3, own_lv cns3, .second, iv vas3, iv vbs3, iv vcs3, iv vds3, iv pos3, iv pas3, .unset, .unset, .unset, .unset, .unset, .unset] [] _
        refine XS.iload X154.here hx rfl (hb hby at_304) rfl ?_
        show own_S p e below T154 m 306 #[iv xk, iv xa, iv xs, iv xv, iv xw, rv a2, iv ff, iv fr, iv t1, iv t2, iv (3 : Int32), iv (own_bi bv), iv (own_bi bw), iv (own_K b0 b1 b2 kf), iv (own_K b0 b1 b2 (own_k1 kf)), rv a18, iv ress3, own_lv cns3, .second, iv vas3, iv vbs3, iv vcs3, iv vds3, iv pos3, iv pas3, .unset, .unset, .unset, .unset, .unset, .unset] [(.int (3 : Int32))] _
        refine XS.iconst X154.here hx rfl (hb hby at_306) ?_
        show own_S p e below T154 m 307 #[iv xk, iv xa, iv xs, iv xv, iv xw, rv a2, iv ff, iv fr, iv t1, iv t2, iv (3 : Int32), iv (own_bi bv), iv (own_bi bw), iv (own_K b0 b1 b2 kf), iv (own_K b0 b1 b2 (own_k1 kf)), rv a18, iv ress3, own_lv cns3, .second, iv vas3, iv vbs3, iv vcs3, iv vds3, iv pos3, iv pas3, .unset, .unset, .unset, .unset, .unset, .unset] [(.int (3 : Int32)), (.int (3 : Int32))] _
        refine XS.icmpNo X154.here hx rfl (hb hby at_307) rfl (teq (by decide : (3 : Int32) = (3 : Int32))).2 ?_
        show own_S p e below T154 m 310 #[iv xk, iv xa, iv xs, iv xv, iv xw, rv a2, iv ff, iv fr, iv t1, iv t2, iv (3 : Int32), iv (own_bi bv), iv (own_bi bw), iv (own_K b0 b1 b2 kf), iv (own_K b0 b1 b2 (own_k1 kf)), rv a18, iv ress3, own_lv cns3, .second, iv vas3, iv vbs3, iv vcs3, iv vds3, iv pos3, iv pas3, .unset, .unset, .unset, .unset, .unset, .unset] [] _
        refine XS.iconst X154.here hx rfl (hb hby at_310) ?_
        show own_S p e below T154 m 311 #[iv xk, iv xa, iv xs, iv xv, iv xw, rv a2, iv ff, iv fr, iv t1, iv t2, iv (3 : Int32), iv (own_bi bv), iv (own_bi bw), iv (own_K b0 b1 b2 kf), iv (own_K b0 b1 b2 (own_k1 kf)), rv a18, iv ress3, own_lv cns3, .second, iv vas3, iv vbs3, iv vcs3, iv vds3, iv pos3, iv pas3, .unset, .unset, .unset, .unset, .unset, .unset] [(.int (1 : Int32))] _
        refine XS.goto X154.here hx rfl (pc0 := 311) (pc' := 315) rfl (hb hby at_311) (by decide) (by decide) ?_
        show own_S p e below T154 m 315 #[iv xk, iv xa, iv xs, iv xv, iv xw, rv a2, iv ff, iv fr, iv t1, iv t2, iv (3 : Int32), iv (own_bi bv), iv (own_bi bw), iv (own_K b0 b1 b2 kf), iv (own_K b0 b1 b2 (own_k1 kf)), rv a18, iv ress3, own_lv cns3, .second, iv vas3, iv vbs3, iv vcs3, iv vds3, iv pos3, iv pas3, .unset, .unset, .unset, .unset, .unset, .unset] [(.int (1 : Int32))] _
        rw [show ers3 = (1 : Int32) from by rw [hers3, if_neg hc160]] at kt
        exact kt
    refine own_st sg161 ?_
    obtain ⟨e1s3, he1s3⟩ : ∃ z : Int64, z = (if pos3 = (0 : Int32) then (0 : Int64) else (1 : Int64)) := ⟨_, rfl⟩
    have sg163 : own_V p e below T154 (mkF m 327 #[iv xk, iv xa, iv xs, iv xv, iv xw, rv a2, iv ff, iv fr, iv t1, iv t2, iv (3 : Int32), iv (own_bi bv), iv (own_bi bw), iv (own_K b0 b1 b2 kf), iv (own_K b0 b1 b2 (own_k1 kf)), rv a18, iv ress3, own_lv cns3, .second, iv vas3, iv vbs3, iv vcs3, iv vds3, iv pos3, iv pas3, iv ers3, .unset, .unset, .unset, .unset, .unset] [(.long e1s3)]) (mkF m 315 #[iv xk, iv xa, iv xs, iv xv, iv xw, rv a2, iv ff, iv fr, iv t1, iv t2, iv (3 : Int32), iv (own_bi bv), iv (own_bi bw), iv (own_K b0 b1 b2 kf), iv (own_K b0 b1 b2 (own_k1 kf)), rv a18, iv ress3, own_lv cns3, .second, iv vas3, iv vbs3, iv vcs3, iv vds3, iv pos3, iv pas3, .unset, .unset, .unset, .unset, .unset, .unset] [(.int ers3)]) := by
      intro t kt
      refine XS.istore X154.here hx rfl (hb hby at_315) rfl (l' := #[iv xk, iv xa, iv xs, iv xv, iv xw, rv a2, iv ff, iv fr, iv t1, iv t2, iv (3 : Int32), iv (own_bi bv), iv (own_bi bw), iv (own_K b0 b1 b2 kf), iv (own_K b0 b1 b2 (own_k1 kf)), rv a18, iv ress3, own_lv cns3, .second, iv vas3, iv vbs3, iv vcs3, iv vds3, iv pos3, iv pas3, iv ers3, .unset, .unset, .unset, .unset, .unset]) rfl ?_
      show own_S p e below T154 m 317 #[iv xk, iv xa, iv xs, iv xv, iv xw, rv a2, iv ff, iv fr, iv t1, iv t2, iv (3 : Int32), iv (own_bi bv), iv (own_bi bw), iv (own_K b0 b1 b2 kf), iv (own_K b0 b1 b2 (own_k1 kf)), rv a18, iv ress3, own_lv cns3, .second, iv vas3, iv vbs3, iv vcs3, iv vds3, iv pos3, iv pas3, iv ers3, .unset, .unset, .unset, .unset, .unset] [] _
      refine XS.iload X154.here hx rfl (hb hby at_317) rfl ?_
      show own_S p e below T154 m 319 #[iv xk, iv xa, iv xs, iv xv, iv xw, rv a2, iv ff, iv fr, iv t1, iv t2, iv (3 : Int32), iv (own_bi bv), iv (own_bi bw), iv (own_K b0 b1 b2 kf), iv (own_K b0 b1 b2 (own_k1 kf)), rv a18, iv ress3, own_lv cns3, .second, iv vas3, iv vbs3, iv vcs3, iv vds3, iv pos3, iv pas3, iv ers3, .unset, .unset, .unset, .unset, .unset] [(.int pos3)] _
      by_cases hc162 : pos3 = (0 : Int32)
      · refine XS.ifYes X154.here hx rfl (pc0 := 319) (pc' := 326) rfl (hb hby at_319) rfl ((if0 _ _).trans (teq hc162).1) (by decide) (by decide) ?_
        show own_S p e below T154 m 326 #[iv xk, iv xa, iv xs, iv xv, iv xw, rv a2, iv ff, iv fr, iv t1, iv t2, iv (3 : Int32), iv (own_bi bv), iv (own_bi bw), iv (own_K b0 b1 b2 kf), iv (own_K b0 b1 b2 (own_k1 kf)), rv a18, iv ress3, own_lv cns3, .second, iv vas3, iv vbs3, iv vcs3, iv vds3, iv pos3, iv pas3, iv ers3, .unset, .unset, .unset, .unset, .unset] [] _
        refine XS.lconst X154.here hx rfl (hb hby at_326) ?_
        show own_S p e below T154 m 327 #[iv xk, iv xa, iv xs, iv xv, iv xw, rv a2, iv ff, iv fr, iv t1, iv t2, iv (3 : Int32), iv (own_bi bv), iv (own_bi bw), iv (own_K b0 b1 b2 kf), iv (own_K b0 b1 b2 (own_k1 kf)), rv a18, iv ress3, own_lv cns3, .second, iv vas3, iv vbs3, iv vcs3, iv vds3, iv pos3, iv pas3, iv ers3, .unset, .unset, .unset, .unset, .unset] [(.long (0 : Int64))] _
        rw [show e1s3 = (0 : Int64) from by rw [he1s3, if_pos hc162]] at kt
        exact kt
      · refine XS.ifNo X154.here hx rfl (hb hby at_319) rfl ((if0 _ _).trans (feq hc162).1) ?_
        show own_S p e below T154 m 322 #[iv xk, iv xa, iv xs, iv xv, iv xw, rv a2, iv ff, iv fr, iv t1, iv t2, iv (3 : Int32), iv (own_bi bv), iv (own_bi bw), iv (own_K b0 b1 b2 kf), iv (own_K b0 b1 b2 (own_k1 kf)), rv a18, iv ress3, own_lv cns3, .second, iv vas3, iv vbs3, iv vcs3, iv vds3, iv pos3, iv pas3, iv ers3, .unset, .unset, .unset, .unset, .unset] [] _
        refine XS.lconst X154.here hx rfl (hb hby at_322) ?_
        show own_S p e below T154 m 323 #[iv xk, iv xa, iv xs, iv xv, iv xw, rv a2, iv ff, iv fr, iv t1, iv t2, iv (3 : Int32), iv (own_bi bv), iv (own_bi bw), iv (own_K b0 b1 b2 kf), iv (own_K b0 b1 b2 (own_k1 kf)), rv a18, iv ress3, own_lv cns3, .second, iv vas3, iv vbs3, iv vcs3, iv vds3, iv pos3, iv pas3, iv ers3, .unset, .unset, .unset, .unset, .unset] [(.long (1 : Int64))] _
        refine XS.goto X154.here hx rfl (pc0 := 323) (pc' := 327) rfl (hb hby at_323) (by decide) (by decide) ?_
        show own_S p e below T154 m 327 #[iv xk, iv xa, iv xs, iv xv, iv xw, rv a2, iv ff, iv fr, iv t1, iv t2, iv (3 : Int32), iv (own_bi bv), iv (own_bi bw), iv (own_K b0 b1 b2 kf), iv (own_K b0 b1 b2 (own_k1 kf)), rv a18, iv ress3, own_lv cns3, .second, iv vas3, iv vbs3, iv vcs3, iv vds3, iv pos3, iv pas3, iv ers3, .unset, .unset, .unset, .unset, .unset] [(.long (1 : Int64))] _
        rw [show e1s3 = (1 : Int64) from by rw [he1s3, if_neg hc162]] at kt
        exact kt
    refine own_st sg163 ?_
    obtain ⟨e2s3, he2s3⟩ : ∃ z : Int64, z = (if pas3 = (0 : Int32) then (0 : Int64) else (2 : Int64)) := ⟨_, rfl⟩
    have sg165 : own_V p e below T154 (mkF m 339 #[iv xk, iv xa, iv xs, iv xv, iv xw, rv a2, iv ff, iv fr, iv t1, iv t2, iv (3 : Int32), iv (own_bi bv), iv (own_bi bw), iv (own_K b0 b1 b2 kf), iv (own_K b0 b1 b2 (own_k1 kf)), rv a18, iv ress3, own_lv cns3, .second, iv vas3, iv vbs3, iv vcs3, iv vds3, iv pos3, iv pas3, iv ers3, .unset, .unset, .unset, .unset, .unset] [(.long e2s3), (.long e1s3)]) (mkF m 327 #[iv xk, iv xa, iv xs, iv xv, iv xw, rv a2, iv ff, iv fr, iv t1, iv t2, iv (3 : Int32), iv (own_bi bv), iv (own_bi bw), iv (own_K b0 b1 b2 kf), iv (own_K b0 b1 b2 (own_k1 kf)), rv a18, iv ress3, own_lv cns3, .second, iv vas3, iv vbs3, iv vcs3, iv vds3, iv pos3, iv pas3, iv ers3, .unset, .unset, .unset, .unset, .unset] [(.long e1s3)]) := by
      intro t kt
      refine XS.iload X154.here hx rfl (hb hby at_327) rfl ?_
      show own_S p e below T154 m 329 #[iv xk, iv xa, iv xs, iv xv, iv xw, rv a2, iv ff, iv fr, iv t1, iv t2, iv (3 : Int32), iv (own_bi bv), iv (own_bi bw), iv (own_K b0 b1 b2 kf), iv (own_K b0 b1 b2 (own_k1 kf)), rv a18, iv ress3, own_lv cns3, .second, iv vas3, iv vbs3, iv vcs3, iv vds3, iv pos3, iv pas3, iv ers3, .unset, .unset, .unset, .unset, .unset] [(.int pas3), (.long e1s3)] _
      by_cases hc164 : pas3 = (0 : Int32)
      · refine XS.ifYes X154.here hx rfl (pc0 := 329) (pc' := 338) rfl (hb hby at_329) rfl ((if0 _ _).trans (teq hc164).1) (by decide) (by decide) ?_
        show own_S p e below T154 m 338 #[iv xk, iv xa, iv xs, iv xv, iv xw, rv a2, iv ff, iv fr, iv t1, iv t2, iv (3 : Int32), iv (own_bi bv), iv (own_bi bw), iv (own_K b0 b1 b2 kf), iv (own_K b0 b1 b2 (own_k1 kf)), rv a18, iv ress3, own_lv cns3, .second, iv vas3, iv vbs3, iv vcs3, iv vds3, iv pos3, iv pas3, iv ers3, .unset, .unset, .unset, .unset, .unset] [(.long e1s3)] _
        refine XS.lconst X154.here hx rfl (hb hby at_338) ?_
        show own_S p e below T154 m 339 #[iv xk, iv xa, iv xs, iv xv, iv xw, rv a2, iv ff, iv fr, iv t1, iv t2, iv (3 : Int32), iv (own_bi bv), iv (own_bi bw), iv (own_K b0 b1 b2 kf), iv (own_K b0 b1 b2 (own_k1 kf)), rv a18, iv ress3, own_lv cns3, .second, iv vas3, iv vbs3, iv vcs3, iv vds3, iv pos3, iv pas3, iv ers3, .unset, .unset, .unset, .unset, .unset] [(.long (0 : Int64)), (.long e1s3)] _
        rw [show e2s3 = (0 : Int64) from by rw [he2s3, if_pos hc164]] at kt
        exact kt
      · refine XS.ifNo X154.here hx rfl (hb hby at_329) rfl ((if0 _ _).trans (feq hc164).1) ?_
        show own_S p e below T154 m 332 #[iv xk, iv xa, iv xs, iv xv, iv xw, rv a2, iv ff, iv fr, iv t1, iv t2, iv (3 : Int32), iv (own_bi bv), iv (own_bi bw), iv (own_K b0 b1 b2 kf), iv (own_K b0 b1 b2 (own_k1 kf)), rv a18, iv ress3, own_lv cns3, .second, iv vas3, iv vbs3, iv vcs3, iv vds3, iv pos3, iv pas3, iv ers3, .unset, .unset, .unset, .unset, .unset] [(.long e1s3)] _
        refine X154.ldc2Long hx hown (mvT hZ (hw _ (List.mem_of_getElem? (i := 100) rfl))) (g := (mkF m 332 #[iv xk, iv xa, iv xs, iv xv, iv xw, rv a2, iv ff, iv fr, iv t1, iv t2, iv (3 : Int32), iv (own_bi bv), iv (own_bi bw), iv (own_K b0 b1 b2 kf), iv (own_K b0 b1 b2 (own_k1 kf)), rv a18, iv ress3, own_lv cns3, .second, iv vas3, iv vbs3, iv vcs3, iv vds3, iv pos3, iv pas3, iv ers3, .unset, .unset, .unset, .unset, .unset] [(.long e1s3)])) rfl (hb hby at_332) _ ?_
        show own_S p e below T154 m 335 #[iv xk, iv xa, iv xs, iv xv, iv xw, rv a2, iv ff, iv fr, iv t1, iv t2, iv (3 : Int32), iv (own_bi bv), iv (own_bi bw), iv (own_K b0 b1 b2 kf), iv (own_K b0 b1 b2 (own_k1 kf)), rv a18, iv ress3, own_lv cns3, .second, iv vas3, iv vbs3, iv vcs3, iv vds3, iv pos3, iv pas3, iv ers3, .unset, .unset, .unset, .unset, .unset] [(.long (2 : Int64)), (.long e1s3)] _
        refine XS.goto X154.here hx rfl (pc0 := 335) (pc' := 339) rfl (hb hby at_335) (by decide) (by decide) ?_
        show own_S p e below T154 m 339 #[iv xk, iv xa, iv xs, iv xv, iv xw, rv a2, iv ff, iv fr, iv t1, iv t2, iv (3 : Int32), iv (own_bi bv), iv (own_bi bw), iv (own_K b0 b1 b2 kf), iv (own_K b0 b1 b2 (own_k1 kf)), rv a18, iv ress3, own_lv cns3, .second, iv vas3, iv vbs3, iv vcs3, iv vds3, iv pos3, iv pas3, iv ers3, .unset, .unset, .unset, .unset, .unset] [(.long (2 : Int64)), (.long e1s3)] _
        rw [show e2s3 = (2 : Int64) from by rw [he2s3, if_neg hc164]] at kt
        exact kt
    refine own_st sg165 ?_
    obtain ⟨e3s3, he3s3⟩ : ∃ z : Int64, z = (if ers3 = (0 : Int32) then (0 : Int64) else (2 : Int64)) := ⟨_, rfl⟩
    have sg167 : own_V p e below T154 (mkF m 352 #[iv xk, iv xa, iv xs, iv xv, iv xw, rv a2, iv ff, iv fr, iv t1, iv t2, iv (3 : Int32), iv (own_bi bv), iv (own_bi bw), iv (own_K b0 b1 b2 kf), iv (own_K b0 b1 b2 (own_k1 kf)), rv a18, iv ress3, own_lv cns3, .second, iv vas3, iv vbs3, iv vcs3, iv vds3, iv pos3, iv pas3, iv ers3, .unset, .unset, .unset, .unset, .unset] [(.long e3s3), (.long (e1s3 + e2s3))]) (mkF m 339 #[iv xk, iv xa, iv xs, iv xv, iv xw, rv a2, iv ff, iv fr, iv t1, iv t2, iv (3 : Int32), iv (own_bi bv), iv (own_bi bw), iv (own_K b0 b1 b2 kf), iv (own_K b0 b1 b2 (own_k1 kf)), rv a18, iv ress3, own_lv cns3, .second, iv vas3, iv vbs3, iv vcs3, iv vds3, iv pos3, iv pas3, iv ers3, .unset, .unset, .unset, .unset, .unset] [(.long e2s3), (.long e1s3)]) := by
      intro t kt
      refine XS.ladd X154.here hx rfl (hb hby at_339) rfl ?_
      show own_S p e below T154 m 340 #[iv xk, iv xa, iv xs, iv xv, iv xw, rv a2, iv ff, iv fr, iv t1, iv t2, iv (3 : Int32), iv (own_bi bv), iv (own_bi bw), iv (own_K b0 b1 b2 kf), iv (own_K b0 b1 b2 (own_k1 kf)), rv a18, iv ress3, own_lv cns3, .second, iv vas3, iv vbs3, iv vcs3, iv vds3, iv pos3, iv pas3, iv ers3, .unset, .unset, .unset, .unset, .unset] [(.long (e1s3 + e2s3))] _
      refine XS.iload X154.here hx rfl (hb hby at_340) rfl ?_
      show own_S p e below T154 m 342 #[iv xk, iv xa, iv xs, iv xv, iv xw, rv a2, iv ff, iv fr, iv t1, iv t2, iv (3 : Int32), iv (own_bi bv), iv (own_bi bw), iv (own_K b0 b1 b2 kf), iv (own_K b0 b1 b2 (own_k1 kf)), rv a18, iv ress3, own_lv cns3, .second, iv vas3, iv vbs3, iv vcs3, iv vds3, iv pos3, iv pas3, iv ers3, .unset, .unset, .unset, .unset, .unset] [(.int ers3), (.long (e1s3 + e2s3))] _
      by_cases hc166 : ers3 = (0 : Int32)
      · refine XS.ifYes X154.here hx rfl (pc0 := 342) (pc' := 351) rfl (hb hby at_342) rfl ((if0 _ _).trans (teq hc166).1) (by decide) (by decide) ?_
        show own_S p e below T154 m 351 #[iv xk, iv xa, iv xs, iv xv, iv xw, rv a2, iv ff, iv fr, iv t1, iv t2, iv (3 : Int32), iv (own_bi bv), iv (own_bi bw), iv (own_K b0 b1 b2 kf), iv (own_K b0 b1 b2 (own_k1 kf)), rv a18, iv ress3, own_lv cns3, .second, iv vas3, iv vbs3, iv vcs3, iv vds3, iv pos3, iv pas3, iv ers3, .unset, .unset, .unset, .unset, .unset] [(.long (e1s3 + e2s3))] _
        refine XS.lconst X154.here hx rfl (hb hby at_351) ?_
        show own_S p e below T154 m 352 #[iv xk, iv xa, iv xs, iv xv, iv xw, rv a2, iv ff, iv fr, iv t1, iv t2, iv (3 : Int32), iv (own_bi bv), iv (own_bi bw), iv (own_K b0 b1 b2 kf), iv (own_K b0 b1 b2 (own_k1 kf)), rv a18, iv ress3, own_lv cns3, .second, iv vas3, iv vbs3, iv vcs3, iv vds3, iv pos3, iv pas3, iv ers3, .unset, .unset, .unset, .unset, .unset] [(.long (0 : Int64)), (.long (e1s3 + e2s3))] _
        rw [show e3s3 = (0 : Int64) from by rw [he3s3, if_pos hc166]] at kt
        exact kt
      · refine XS.ifNo X154.here hx rfl (hb hby at_342) rfl ((if0 _ _).trans (feq hc166).1) ?_
        show own_S p e below T154 m 345 #[iv xk, iv xa, iv xs, iv xv, iv xw, rv a2, iv ff, iv fr, iv t1, iv t2, iv (3 : Int32), iv (own_bi bv), iv (own_bi bw), iv (own_K b0 b1 b2 kf), iv (own_K b0 b1 b2 (own_k1 kf)), rv a18, iv ress3, own_lv cns3, .second, iv vas3, iv vbs3, iv vcs3, iv vds3, iv pos3, iv pas3, iv ers3, .unset, .unset, .unset, .unset, .unset] [(.long (e1s3 + e2s3))] _
        refine X154.ldc2Long hx hown (mvT hZ (hw _ (List.mem_of_getElem? (i := 100) rfl))) (g := (mkF m 345 #[iv xk, iv xa, iv xs, iv xv, iv xw, rv a2, iv ff, iv fr, iv t1, iv t2, iv (3 : Int32), iv (own_bi bv), iv (own_bi bw), iv (own_K b0 b1 b2 kf), iv (own_K b0 b1 b2 (own_k1 kf)), rv a18, iv ress3, own_lv cns3, .second, iv vas3, iv vbs3, iv vcs3, iv vds3, iv pos3, iv pas3, iv ers3, .unset, .unset, .unset, .unset, .unset] [(.long (e1s3 + e2s3))])) rfl (hb hby at_345) _ ?_
        show own_S p e below T154 m 348 #[iv xk, iv xa, iv xs, iv xv, iv xw, rv a2, iv ff, iv fr, iv t1, iv t2, iv (3 : Int32), iv (own_bi bv), iv (own_bi bw), iv (own_K b0 b1 b2 kf), iv (own_K b0 b1 b2 (own_k1 kf)), rv a18, iv ress3, own_lv cns3, .second, iv vas3, iv vbs3, iv vcs3, iv vds3, iv pos3, iv pas3, iv ers3, .unset, .unset, .unset, .unset, .unset] [(.long (2 : Int64)), (.long (e1s3 + e2s3))] _
        refine XS.goto X154.here hx rfl (pc0 := 348) (pc' := 352) rfl (hb hby at_348) (by decide) (by decide) ?_
        show own_S p e below T154 m 352 #[iv xk, iv xa, iv xs, iv xv, iv xw, rv a2, iv ff, iv fr, iv t1, iv t2, iv (3 : Int32), iv (own_bi bv), iv (own_bi bw), iv (own_K b0 b1 b2 kf), iv (own_K b0 b1 b2 (own_k1 kf)), rv a18, iv ress3, own_lv cns3, .second, iv vas3, iv vbs3, iv vcs3, iv vds3, iv pos3, iv pas3, iv ers3, .unset, .unset, .unset, .unset, .unset] [(.long (2 : Int64)), (.long (e1s3 + e2s3))] _
        rw [show e3s3 = (2 : Int64) from by rw [he3s3, if_neg hc166]] at kt
        exact kt
    refine own_st sg167 ?_
    obtain ⟨ecs3, hecs3⟩ : ∃ z : Int64, z = ((e1s3 + e2s3) + e3s3) := ⟨_, rfl⟩
    obtain ⟨x1s3, hx1s3⟩ : ∃ z : Int32, z = (if pas3 = (0 : Int32) then (if ers3 = (0 : Int32) then (-1 : Int32) else (own_bi bv)) else (own_bi bw)) := ⟨_, rfl⟩
    have sg170 : own_V p e below T154 (mkF m 400 #[iv xk, iv xa, iv xs, iv xv, iv xw, rv a2, iv ff, iv fr, iv t1, iv t2, iv (3 : Int32), iv (own_bi bv), iv (own_bi bw), iv (own_K b0 b1 b2 kf), iv (own_K b0 b1 b2 (own_k1 kf)), rv a18, iv ress3, own_lv cns3, .second, iv vas3, iv vbs3, iv vcs3, iv vds3, iv pos3, iv pas3, iv ers3, own_lv ecs3, .second, iv x1s3, .unset, .unset] []) (mkF m 352 #[iv xk, iv xa, iv xs, iv xv, iv xw, rv a2, iv ff, iv fr, iv t1, iv t2, iv (3 : Int32), iv (own_bi bv), iv (own_bi bw), iv (own_K b0 b1 b2 kf), iv (own_K b0 b1 b2 (own_k1 kf)), rv a18, iv ress3, own_lv cns3, .second, iv vas3, iv vbs3, iv vcs3, iv vds3, iv pos3, iv pas3, iv ers3, .unset, .unset, .unset, .unset, .unset] [(.long e3s3), (.long (e1s3 + e2s3))]) := by
      intro t kt
      refine XS.ladd X154.here hx rfl (hb hby at_352) rfl ?_
      show own_S p e below T154 m 353 #[iv xk, iv xa, iv xs, iv xv, iv xw, rv a2, iv ff, iv fr, iv t1, iv t2, iv (3 : Int32), iv (own_bi bv), iv (own_bi bw), iv (own_K b0 b1 b2 kf), iv (own_K b0 b1 b2 (own_k1 kf)), rv a18, iv ress3, own_lv cns3, .second, iv vas3, iv vbs3, iv vcs3, iv vds3, iv pos3, iv pas3, iv ers3, .unset, .unset, .unset, .unset, .unset] [(.long ((e1s3 + e2s3) + e3s3))] _
      refine XS.lstore X154.here hx rfl (hb hby at_353) rfl (l' := #[iv xk, iv xa, iv xs, iv xv, iv xw, rv a2, iv ff, iv fr, iv t1, iv t2, iv (3 : Int32), iv (own_bi bv), iv (own_bi bw), iv (own_K b0 b1 b2 kf), iv (own_K b0 b1 b2 (own_k1 kf)), rv a18, iv ress3, own_lv cns3, .second, iv vas3, iv vbs3, iv vcs3, iv vds3, iv pos3, iv pas3, iv ers3, own_lv ((e1s3 + e2s3) + e3s3), .second, .unset, .unset, .unset]) rfl ?_
      show own_S p e below T154 m 355 #[iv xk, iv xa, iv xs, iv xv, iv xw, rv a2, iv ff, iv fr, iv t1, iv t2, iv (3 : Int32), iv (own_bi bv), iv (own_bi bw), iv (own_K b0 b1 b2 kf), iv (own_K b0 b1 b2 (own_k1 kf)), rv a18, iv ress3, own_lv cns3, .second, iv vas3, iv vbs3, iv vcs3, iv vds3, iv pos3, iv pas3, iv ers3, own_lv ((e1s3 + e2s3) + e3s3), .second, .unset, .unset, .unset] [] _
      refine XS.iload X154.here hx rfl (hb hby at_355) rfl ?_
      show own_S p e below T154 m 357 #[iv xk, iv xa, iv xs, iv xv, iv xw, rv a2, iv ff, iv fr, iv t1, iv t2, iv (3 : Int32), iv (own_bi bv), iv (own_bi bw), iv (own_K b0 b1 b2 kf), iv (own_K b0 b1 b2 (own_k1 kf)), rv a18, iv ress3, own_lv cns3, .second, iv vas3, iv vbs3, iv vcs3, iv vds3, iv pos3, iv pas3, iv ers3, own_lv ((e1s3 + e2s3) + e3s3), .second, .unset, .unset, .unset] [(.int pas3)] _
      by_cases hc168 : pas3 = (0 : Int32)
      · refine XS.ifYes X154.here hx rfl (pc0 := 357) (pc' := 367) rfl (hb hby at_357) rfl ((if0 _ _).trans (teq hc168).1) (by decide) (by decide) ?_
        show own_S p e below T154 m 367 #[iv xk, iv xa, iv xs, iv xv, iv xw, rv a2, iv ff, iv fr, iv t1, iv t2, iv (3 : Int32), iv (own_bi bv), iv (own_bi bw), iv (own_K b0 b1 b2 kf), iv (own_K b0 b1 b2 (own_k1 kf)), rv a18, iv ress3, own_lv cns3, .second, iv vas3, iv vbs3, iv vcs3, iv vds3, iv pos3, iv pas3, iv ers3, own_lv ((e1s3 + e2s3) + e3s3), .second, .unset, .unset, .unset] [] _
        refine XS.iload X154.here hx rfl (hb hby at_367) rfl ?_
        show own_S p e below T154 m 369 #[iv xk, iv xa, iv xs, iv xv, iv xw, rv a2, iv ff, iv fr, iv t1, iv t2, iv (3 : Int32), iv (own_bi bv), iv (own_bi bw), iv (own_K b0 b1 b2 kf), iv (own_K b0 b1 b2 (own_k1 kf)), rv a18, iv ress3, own_lv cns3, .second, iv vas3, iv vbs3, iv vcs3, iv vds3, iv pos3, iv pas3, iv ers3, own_lv ((e1s3 + e2s3) + e3s3), .second, .unset, .unset, .unset] [(.int ers3)] _
        by_cases hc169 : ers3 = (0 : Int32)
        · refine XS.ifYes X154.here hx rfl (pc0 := 369) (pc' := 379) rfl (hb hby at_369) rfl ((if0 _ _).trans (teq hc169).1) (by decide) (by decide) ?_
          show own_S p e below T154 m 379 #[iv xk, iv xa, iv xs, iv xv, iv xw, rv a2, iv ff, iv fr, iv t1, iv t2, iv (3 : Int32), iv (own_bi bv), iv (own_bi bw), iv (own_K b0 b1 b2 kf), iv (own_K b0 b1 b2 (own_k1 kf)), rv a18, iv ress3, own_lv cns3, .second, iv vas3, iv vbs3, iv vcs3, iv vds3, iv pos3, iv pas3, iv ers3, own_lv ((e1s3 + e2s3) + e3s3), .second, .unset, .unset, .unset] [] _
          refine XS.iload X154.here hx rfl (hb hby at_379) rfl ?_
          show own_S p e below T154 m 381 #[iv xk, iv xa, iv xs, iv xv, iv xw, rv a2, iv ff, iv fr, iv t1, iv t2, iv (3 : Int32), iv (own_bi bv), iv (own_bi bw), iv (own_K b0 b1 b2 kf), iv (own_K b0 b1 b2 (own_k1 kf)), rv a18, iv ress3, own_lv cns3, .second, iv vas3, iv vbs3, iv vcs3, iv vds3, iv pos3, iv pas3, iv ers3, own_lv ((e1s3 + e2s3) + e3s3), .second, .unset, .unset, .unset] [(.int (3 : Int32))] _
          refine XS.iconst X154.here hx rfl (hb hby at_381) ?_
          show own_S p e below T154 m 382 #[iv xk, iv xa, iv xs, iv xv, iv xw, rv a2, iv ff, iv fr, iv t1, iv t2, iv (3 : Int32), iv (own_bi bv), iv (own_bi bw), iv (own_K b0 b1 b2 kf), iv (own_K b0 b1 b2 (own_k1 kf)), rv a18, iv ress3, own_lv cns3, .second, iv vas3, iv vbs3, iv vcs3, iv vds3, iv pos3, iv pas3, iv ers3, own_lv ((e1s3 + e2s3) + e3s3), .second, .unset, .unset, .unset] [(.int (1 : Int32)), (.int (3 : Int32))] _
          refine XS.icmpYes X154.here hx rfl (pc0 := 382) (pc' := 397) rfl (hb hby at_382) rfl (feq (by decide : ¬ (3 : Int32) = (1 : Int32))).2 (by decide) (by decide) ?_
          show own_S p e below T154 m 397 #[iv xk, iv xa, iv xs, iv xv, iv xw, rv a2, iv ff, iv fr, iv t1, iv t2, iv (3 : Int32), iv (own_bi bv), iv (own_bi bw), iv (own_K b0 b1 b2 kf), iv (own_K b0 b1 b2 (own_k1 kf)), rv a18, iv ress3, own_lv cns3, .second, iv vas3, iv vbs3, iv vcs3, iv vds3, iv pos3, iv pas3, iv ers3, own_lv ((e1s3 + e2s3) + e3s3), .second, .unset, .unset, .unset] [] _
          refine XS.iconst X154.here hx rfl (hb hby at_397) ?_
          show own_S p e below T154 m 398 #[iv xk, iv xa, iv xs, iv xv, iv xw, rv a2, iv ff, iv fr, iv t1, iv t2, iv (3 : Int32), iv (own_bi bv), iv (own_bi bw), iv (own_K b0 b1 b2 kf), iv (own_K b0 b1 b2 (own_k1 kf)), rv a18, iv ress3, own_lv cns3, .second, iv vas3, iv vbs3, iv vcs3, iv vds3, iv pos3, iv pas3, iv ers3, own_lv ((e1s3 + e2s3) + e3s3), .second, .unset, .unset, .unset] [(.int (-1 : Int32))] _
          refine XS.istore X154.here hx rfl (hb hby at_398) rfl (l' := #[iv xk, iv xa, iv xs, iv xv, iv xw, rv a2, iv ff, iv fr, iv t1, iv t2, iv (3 : Int32), iv (own_bi bv), iv (own_bi bw), iv (own_K b0 b1 b2 kf), iv (own_K b0 b1 b2 (own_k1 kf)), rv a18, iv ress3, own_lv cns3, .second, iv vas3, iv vbs3, iv vcs3, iv vds3, iv pos3, iv pas3, iv ers3, own_lv ((e1s3 + e2s3) + e3s3), .second, iv (-1 : Int32), .unset, .unset]) rfl ?_
          show own_S p e below T154 m 400 #[iv xk, iv xa, iv xs, iv xv, iv xw, rv a2, iv ff, iv fr, iv t1, iv t2, iv (3 : Int32), iv (own_bi bv), iv (own_bi bw), iv (own_K b0 b1 b2 kf), iv (own_K b0 b1 b2 (own_k1 kf)), rv a18, iv ress3, own_lv cns3, .second, iv vas3, iv vbs3, iv vcs3, iv vds3, iv pos3, iv pas3, iv ers3, own_lv ((e1s3 + e2s3) + e3s3), .second, iv (-1 : Int32), .unset, .unset] [] _
          rw [hecs3] at kt
          rw [show x1s3 = (-1 : Int32) from by rw [hx1s3, if_pos hc168, if_pos hc169]] at kt
          exact kt
        · refine XS.ifNo X154.here hx rfl (hb hby at_369) rfl ((if0 _ _).trans (feq hc169).1) ?_
          show own_S p e below T154 m 372 #[iv xk, iv xa, iv xs, iv xv, iv xw, rv a2, iv ff, iv fr, iv t1, iv t2, iv (3 : Int32), iv (own_bi bv), iv (own_bi bw), iv (own_K b0 b1 b2 kf), iv (own_K b0 b1 b2 (own_k1 kf)), rv a18, iv ress3, own_lv cns3, .second, iv vas3, iv vbs3, iv vcs3, iv vds3, iv pos3, iv pas3, iv ers3, own_lv ((e1s3 + e2s3) + e3s3), .second, .unset, .unset, .unset] [] _
          refine XS.iload X154.here hx rfl (hb hby at_372) rfl ?_
          show own_S p e below T154 m 374 #[iv xk, iv xa, iv xs, iv xv, iv xw, rv a2, iv ff, iv fr, iv t1, iv t2, iv (3 : Int32), iv (own_bi bv), iv (own_bi bw), iv (own_K b0 b1 b2 kf), iv (own_K b0 b1 b2 (own_k1 kf)), rv a18, iv ress3, own_lv cns3, .second, iv vas3, iv vbs3, iv vcs3, iv vds3, iv pos3, iv pas3, iv ers3, own_lv ((e1s3 + e2s3) + e3s3), .second, .unset, .unset, .unset] [(.int (own_bi bv))] _
          refine XS.istore X154.here hx rfl (hb hby at_374) rfl (l' := #[iv xk, iv xa, iv xs, iv xv, iv xw, rv a2, iv ff, iv fr, iv t1, iv t2, iv (3 : Int32), iv (own_bi bv), iv (own_bi bw), iv (own_K b0 b1 b2 kf), iv (own_K b0 b1 b2 (own_k1 kf)), rv a18, iv ress3, own_lv cns3, .second, iv vas3, iv vbs3, iv vcs3, iv vds3, iv pos3, iv pas3, iv ers3, own_lv ((e1s3 + e2s3) + e3s3), .second, iv (own_bi bv), .unset, .unset]) rfl ?_
          show own_S p e below T154 m 376 #[iv xk, iv xa, iv xs, iv xv, iv xw, rv a2, iv ff, iv fr, iv t1, iv t2, iv (3 : Int32), iv (own_bi bv), iv (own_bi bw), iv (own_K b0 b1 b2 kf), iv (own_K b0 b1 b2 (own_k1 kf)), rv a18, iv ress3, own_lv cns3, .second, iv vas3, iv vbs3, iv vcs3, iv vds3, iv pos3, iv pas3, iv ers3, own_lv ((e1s3 + e2s3) + e3s3), .second, iv (own_bi bv), .unset, .unset] [] _
          refine XS.goto X154.here hx rfl (pc0 := 376) (pc' := 400) rfl (hb hby at_376) (by decide) (by decide) ?_
          show own_S p e below T154 m 400 #[iv xk, iv xa, iv xs, iv xv, iv xw, rv a2, iv ff, iv fr, iv t1, iv t2, iv (3 : Int32), iv (own_bi bv), iv (own_bi bw), iv (own_K b0 b1 b2 kf), iv (own_K b0 b1 b2 (own_k1 kf)), rv a18, iv ress3, own_lv cns3, .second, iv vas3, iv vbs3, iv vcs3, iv vds3, iv pos3, iv pas3, iv ers3, own_lv ((e1s3 + e2s3) + e3s3), .second, iv (own_bi bv), .unset, .unset] [] _
          rw [hecs3] at kt
          rw [show x1s3 = (own_bi bv) from by rw [hx1s3, if_pos hc168, if_neg hc169]] at kt
          exact kt
      · refine XS.ifNo X154.here hx rfl (hb hby at_357) rfl ((if0 _ _).trans (feq hc168).1) ?_
        show own_S p e below T154 m 360 #[iv xk, iv xa, iv xs, iv xv, iv xw, rv a2, iv ff, iv fr, iv t1, iv t2, iv (3 : Int32), iv (own_bi bv), iv (own_bi bw), iv (own_K b0 b1 b2 kf), iv (own_K b0 b1 b2 (own_k1 kf)), rv a18, iv ress3, own_lv cns3, .second, iv vas3, iv vbs3, iv vcs3, iv vds3, iv pos3, iv pas3, iv ers3, own_lv ((e1s3 + e2s3) + e3s3), .second, .unset, .unset, .unset] [] _
        refine XS.iload X154.here hx rfl (hb hby at_360) rfl ?_
        show own_S p e below T154 m 362 #[iv xk, iv xa, iv xs, iv xv, iv xw, rv a2, iv ff, iv fr, iv t1, iv t2, iv (3 : Int32), iv (own_bi bv), iv (own_bi bw), iv (own_K b0 b1 b2 kf), iv (own_K b0 b1 b2 (own_k1 kf)), rv a18, iv ress3, own_lv cns3, .second, iv vas3, iv vbs3, iv vcs3, iv vds3, iv pos3, iv pas3, iv ers3, own_lv ((e1s3 + e2s3) + e3s3), .second, .unset, .unset, .unset] [(.int (own_bi bw))] _
        refine XS.istore X154.here hx rfl (hb hby at_362) rfl (l' := #[iv xk, iv xa, iv xs, iv xv, iv xw, rv a2, iv ff, iv fr, iv t1, iv t2, iv (3 : Int32), iv (own_bi bv), iv (own_bi bw), iv (own_K b0 b1 b2 kf), iv (own_K b0 b1 b2 (own_k1 kf)), rv a18, iv ress3, own_lv cns3, .second, iv vas3, iv vbs3, iv vcs3, iv vds3, iv pos3, iv pas3, iv ers3, own_lv ((e1s3 + e2s3) + e3s3), .second, iv (own_bi bw), .unset, .unset]) rfl ?_
        show own_S p e below T154 m 364 #[iv xk, iv xa, iv xs, iv xv, iv xw, rv a2, iv ff, iv fr, iv t1, iv t2, iv (3 : Int32), iv (own_bi bv), iv (own_bi bw), iv (own_K b0 b1 b2 kf), iv (own_K b0 b1 b2 (own_k1 kf)), rv a18, iv ress3, own_lv cns3, .second, iv vas3, iv vbs3, iv vcs3, iv vds3, iv pos3, iv pas3, iv ers3, own_lv ((e1s3 + e2s3) + e3s3), .second, iv (own_bi bw), .unset, .unset] [] _
        refine XS.goto X154.here hx rfl (pc0 := 364) (pc' := 400) rfl (hb hby at_364) (by decide) (by decide) ?_
        show own_S p e below T154 m 400 #[iv xk, iv xa, iv xs, iv xv, iv xw, rv a2, iv ff, iv fr, iv t1, iv t2, iv (3 : Int32), iv (own_bi bv), iv (own_bi bw), iv (own_K b0 b1 b2 kf), iv (own_K b0 b1 b2 (own_k1 kf)), rv a18, iv ress3, own_lv cns3, .second, iv vas3, iv vbs3, iv vcs3, iv vds3, iv pos3, iv pas3, iv ers3, own_lv ((e1s3 + e2s3) + e3s3), .second, iv (own_bi bw), .unset, .unset] [] _
        rw [hecs3] at kt
        rw [show x1s3 = (own_bi bw) from by rw [hx1s3, if_neg hc168]] at kt
        exact kt
    refine own_st sg170 ?_
    obtain ⟨x2s3, hx2s3⟩ : ∃ z : Int32, z = (if pas3 = (0 : Int32) then (if ers3 = (0 : Int32) then (-1 : Int32) else (own_bi bv)) else (own_bi bw)) := ⟨_, rfl⟩
    have sg173 : own_V p e below T154 (mkF m 427 #[iv xk, iv xa, iv xs, iv xv, iv xw, rv a2, iv ff, iv fr, iv t1, iv t2, iv (3 : Int32), iv (own_bi bv), iv (own_bi bw), iv (own_K b0 b1 b2 kf), iv (own_K b0 b1 b2 (own_k1 kf)), rv a18, iv ress3, own_lv cns3, .second, iv vas3, iv vbs3, iv vcs3, iv vds3, iv pos3, iv pas3, iv ers3, own_lv ecs3, .second, iv x1s3, iv x2s3, .unset] []) (mkF m 400 #[iv xk, iv xa, iv xs, iv xv, iv xw, rv a2, iv ff, iv fr, iv t1, iv t2, iv (3 : Int32), iv (own_bi bv), iv (own_bi bw), iv (own_K b0 b1 b2 kf), iv (own_K b0 b1 b2 (own_k1 kf)), rv a18, iv ress3, own_lv cns3, .second, iv vas3, iv vbs3, iv vcs3, iv vds3, iv pos3, iv pas3, iv ers3, own_lv ecs3, .second, iv x1s3, .unset, .unset] []) := by
      intro t kt
      refine XS.iload X154.here hx rfl (hb hby at_400) rfl ?_
      show own_S p e below T154 m 402 #[iv xk, iv xa, iv xs, iv xv, iv xw, rv a2, iv ff, iv fr, iv t1, iv t2, iv (3 : Int32), iv (own_bi bv), iv (own_bi bw), iv (own_K b0 b1 b2 kf), iv (own_K b0 b1 b2 (own_k1 kf)), rv a18, iv ress3, own_lv cns3, .second, iv vas3, iv vbs3, iv vcs3, iv vds3, iv pos3, iv pas3, iv ers3, own_lv ecs3, .second, iv x1s3, .unset, .unset] [(.int pas3)] _
      by_cases hc171 : pas3 = (0 : Int32)
      · refine XS.ifYes X154.here hx rfl (pc0 := 402) (pc' := 412) rfl (hb hby at_402) rfl ((if0 _ _).trans (teq hc171).1) (by decide) (by decide) ?_
        show own_S p e below T154 m 412 #[iv xk, iv xa, iv xs, iv xv, iv xw, rv a2, iv ff, iv fr, iv t1, iv t2, iv (3 : Int32), iv (own_bi bv), iv (own_bi bw), iv (own_K b0 b1 b2 kf), iv (own_K b0 b1 b2 (own_k1 kf)), rv a18, iv ress3, own_lv cns3, .second, iv vas3, iv vbs3, iv vcs3, iv vds3, iv pos3, iv pas3, iv ers3, own_lv ecs3, .second, iv x1s3, .unset, .unset] [] _
        refine XS.iload X154.here hx rfl (hb hby at_412) rfl ?_
        show own_S p e below T154 m 414 #[iv xk, iv xa, iv xs, iv xv, iv xw, rv a2, iv ff, iv fr, iv t1, iv t2, iv (3 : Int32), iv (own_bi bv), iv (own_bi bw), iv (own_K b0 b1 b2 kf), iv (own_K b0 b1 b2 (own_k1 kf)), rv a18, iv ress3, own_lv cns3, .second, iv vas3, iv vbs3, iv vcs3, iv vds3, iv pos3, iv pas3, iv ers3, own_lv ecs3, .second, iv x1s3, .unset, .unset] [(.int ers3)] _
        by_cases hc172 : ers3 = (0 : Int32)
        · refine XS.ifYes X154.here hx rfl (pc0 := 414) (pc' := 424) rfl (hb hby at_414) rfl ((if0 _ _).trans (teq hc172).1) (by decide) (by decide) ?_
          show own_S p e below T154 m 424 #[iv xk, iv xa, iv xs, iv xv, iv xw, rv a2, iv ff, iv fr, iv t1, iv t2, iv (3 : Int32), iv (own_bi bv), iv (own_bi bw), iv (own_K b0 b1 b2 kf), iv (own_K b0 b1 b2 (own_k1 kf)), rv a18, iv ress3, own_lv cns3, .second, iv vas3, iv vbs3, iv vcs3, iv vds3, iv pos3, iv pas3, iv ers3, own_lv ecs3, .second, iv x1s3, .unset, .unset] [] _
          refine XS.iconst X154.here hx rfl (hb hby at_424) ?_
          show own_S p e below T154 m 425 #[iv xk, iv xa, iv xs, iv xv, iv xw, rv a2, iv ff, iv fr, iv t1, iv t2, iv (3 : Int32), iv (own_bi bv), iv (own_bi bw), iv (own_K b0 b1 b2 kf), iv (own_K b0 b1 b2 (own_k1 kf)), rv a18, iv ress3, own_lv cns3, .second, iv vas3, iv vbs3, iv vcs3, iv vds3, iv pos3, iv pas3, iv ers3, own_lv ecs3, .second, iv x1s3, .unset, .unset] [(.int (-1 : Int32))] _
          refine XS.istore X154.here hx rfl (hb hby at_425) rfl (l' := #[iv xk, iv xa, iv xs, iv xv, iv xw, rv a2, iv ff, iv fr, iv t1, iv t2, iv (3 : Int32), iv (own_bi bv), iv (own_bi bw), iv (own_K b0 b1 b2 kf), iv (own_K b0 b1 b2 (own_k1 kf)), rv a18, iv ress3, own_lv cns3, .second, iv vas3, iv vbs3, iv vcs3, iv vds3, iv pos3, iv pas3, iv ers3, own_lv ecs3, .second, iv x1s3, iv (-1 : Int32), .unset]) rfl ?_
          show own_S p e below T154 m 427 #[iv xk, iv xa, iv xs, iv xv, iv xw, rv a2, iv ff, iv fr, iv t1, iv t2, iv (3 : Int32), iv (own_bi bv), iv (own_bi bw), iv (own_K b0 b1 b2 kf), iv (own_K b0 b1 b2 (own_k1 kf)), rv a18, iv ress3, own_lv cns3, .second, iv vas3, iv vbs3, iv vcs3, iv vds3, iv pos3, iv pas3, iv ers3, own_lv ecs3, .second, iv x1s3, iv (-1 : Int32), .unset] [] _
          rw [show x2s3 = (-1 : Int32) from by rw [hx2s3, if_pos hc171, if_pos hc172]] at kt
          exact kt
        · refine XS.ifNo X154.here hx rfl (hb hby at_414) rfl ((if0 _ _).trans (feq hc172).1) ?_
          show own_S p e below T154 m 417 #[iv xk, iv xa, iv xs, iv xv, iv xw, rv a2, iv ff, iv fr, iv t1, iv t2, iv (3 : Int32), iv (own_bi bv), iv (own_bi bw), iv (own_K b0 b1 b2 kf), iv (own_K b0 b1 b2 (own_k1 kf)), rv a18, iv ress3, own_lv cns3, .second, iv vas3, iv vbs3, iv vcs3, iv vds3, iv pos3, iv pas3, iv ers3, own_lv ecs3, .second, iv x1s3, .unset, .unset] [] _
          refine XS.iload X154.here hx rfl (hb hby at_417) rfl ?_
          show own_S p e below T154 m 419 #[iv xk, iv xa, iv xs, iv xv, iv xw, rv a2, iv ff, iv fr, iv t1, iv t2, iv (3 : Int32), iv (own_bi bv), iv (own_bi bw), iv (own_K b0 b1 b2 kf), iv (own_K b0 b1 b2 (own_k1 kf)), rv a18, iv ress3, own_lv cns3, .second, iv vas3, iv vbs3, iv vcs3, iv vds3, iv pos3, iv pas3, iv ers3, own_lv ecs3, .second, iv x1s3, .unset, .unset] [(.int (own_bi bv))] _
          refine XS.istore X154.here hx rfl (hb hby at_419) rfl (l' := #[iv xk, iv xa, iv xs, iv xv, iv xw, rv a2, iv ff, iv fr, iv t1, iv t2, iv (3 : Int32), iv (own_bi bv), iv (own_bi bw), iv (own_K b0 b1 b2 kf), iv (own_K b0 b1 b2 (own_k1 kf)), rv a18, iv ress3, own_lv cns3, .second, iv vas3, iv vbs3, iv vcs3, iv vds3, iv pos3, iv pas3, iv ers3, own_lv ecs3, .second, iv x1s3, iv (own_bi bv), .unset]) rfl ?_
          show own_S p e below T154 m 421 #[iv xk, iv xa, iv xs, iv xv, iv xw, rv a2, iv ff, iv fr, iv t1, iv t2, iv (3 : Int32), iv (own_bi bv), iv (own_bi bw), iv (own_K b0 b1 b2 kf), iv (own_K b0 b1 b2 (own_k1 kf)), rv a18, iv ress3, own_lv cns3, .second, iv vas3, iv vbs3, iv vcs3, iv vds3, iv pos3, iv pas3, iv ers3, own_lv ecs3, .second, iv x1s3, iv (own_bi bv), .unset] [] _
          refine XS.goto X154.here hx rfl (pc0 := 421) (pc' := 427) rfl (hb hby at_421) (by decide) (by decide) ?_
          show own_S p e below T154 m 427 #[iv xk, iv xa, iv xs, iv xv, iv xw, rv a2, iv ff, iv fr, iv t1, iv t2, iv (3 : Int32), iv (own_bi bv), iv (own_bi bw), iv (own_K b0 b1 b2 kf), iv (own_K b0 b1 b2 (own_k1 kf)), rv a18, iv ress3, own_lv cns3, .second, iv vas3, iv vbs3, iv vcs3, iv vds3, iv pos3, iv pas3, iv ers3, own_lv ecs3, .second, iv x1s3, iv (own_bi bv), .unset] [] _
          rw [show x2s3 = (own_bi bv) from by rw [hx2s3, if_pos hc171, if_neg hc172]] at kt
          exact kt
      · refine XS.ifNo X154.here hx rfl (hb hby at_402) rfl ((if0 _ _).trans (feq hc171).1) ?_
        show own_S p e below T154 m 405 #[iv xk, iv xa, iv xs, iv xv, iv xw, rv a2, iv ff, iv fr, iv t1, iv t2, iv (3 : Int32), iv (own_bi bv), iv (own_bi bw), iv (own_K b0 b1 b2 kf), iv (own_K b0 b1 b2 (own_k1 kf)), rv a18, iv ress3, own_lv cns3, .second, iv vas3, iv vbs3, iv vcs3, iv vds3, iv pos3, iv pas3, iv ers3, own_lv ecs3, .second, iv x1s3, .unset, .unset] [] _
        refine XS.iload X154.here hx rfl (hb hby at_405) rfl ?_
        show own_S p e below T154 m 407 #[iv xk, iv xa, iv xs, iv xv, iv xw, rv a2, iv ff, iv fr, iv t1, iv t2, iv (3 : Int32), iv (own_bi bv), iv (own_bi bw), iv (own_K b0 b1 b2 kf), iv (own_K b0 b1 b2 (own_k1 kf)), rv a18, iv ress3, own_lv cns3, .second, iv vas3, iv vbs3, iv vcs3, iv vds3, iv pos3, iv pas3, iv ers3, own_lv ecs3, .second, iv x1s3, .unset, .unset] [(.int (own_bi bw))] _
        refine XS.istore X154.here hx rfl (hb hby at_407) rfl (l' := #[iv xk, iv xa, iv xs, iv xv, iv xw, rv a2, iv ff, iv fr, iv t1, iv t2, iv (3 : Int32), iv (own_bi bv), iv (own_bi bw), iv (own_K b0 b1 b2 kf), iv (own_K b0 b1 b2 (own_k1 kf)), rv a18, iv ress3, own_lv cns3, .second, iv vas3, iv vbs3, iv vcs3, iv vds3, iv pos3, iv pas3, iv ers3, own_lv ecs3, .second, iv x1s3, iv (own_bi bw), .unset]) rfl ?_
        show own_S p e below T154 m 409 #[iv xk, iv xa, iv xs, iv xv, iv xw, rv a2, iv ff, iv fr, iv t1, iv t2, iv (3 : Int32), iv (own_bi bv), iv (own_bi bw), iv (own_K b0 b1 b2 kf), iv (own_K b0 b1 b2 (own_k1 kf)), rv a18, iv ress3, own_lv cns3, .second, iv vas3, iv vbs3, iv vcs3, iv vds3, iv pos3, iv pas3, iv ers3, own_lv ecs3, .second, iv x1s3, iv (own_bi bw), .unset] [] _
        refine XS.goto X154.here hx rfl (pc0 := 409) (pc' := 427) rfl (hb hby at_409) (by decide) (by decide) ?_
        show own_S p e below T154 m 427 #[iv xk, iv xa, iv xs, iv xv, iv xw, rv a2, iv ff, iv fr, iv t1, iv t2, iv (3 : Int32), iv (own_bi bv), iv (own_bi bw), iv (own_K b0 b1 b2 kf), iv (own_K b0 b1 b2 (own_k1 kf)), rv a18, iv ress3, own_lv cns3, .second, iv vas3, iv vbs3, iv vcs3, iv vds3, iv pos3, iv pas3, iv ers3, own_lv ecs3, .second, iv x1s3, iv (own_bi bw), .unset] [] _
        rw [show x2s3 = (own_bi bw) from by rw [hx2s3, if_neg hc171]] at kt
        exact kt
    refine own_st sg173 ?_
    obtain ⟨xbs3, hxbs3⟩ : ∃ z : Int32, z = (if pos3 = (0 : Int32) then (-1 : Int32) else (own_bi bw)) := ⟨_, rfl⟩
    have sg175 : own_V p e below T154 (mkF m 444 #[iv xk, iv xa, iv xs, iv xv, iv xw, rv a2, iv ff, iv fr, iv t1, iv t2, iv (3 : Int32), iv (own_bi bv), iv (own_bi bw), iv (own_K b0 b1 b2 kf), iv (own_K b0 b1 b2 (own_k1 kf)), rv a18, iv ress3, own_lv cns3, .second, iv vas3, iv vbs3, iv vcs3, iv vds3, iv pos3, iv pas3, iv ers3, own_lv ecs3, .second, iv x1s3, iv x2s3, .unset] [(.int xbs3)]) (mkF m 427 #[iv xk, iv xa, iv xs, iv xv, iv xw, rv a2, iv ff, iv fr, iv t1, iv t2, iv (3 : Int32), iv (own_bi bv), iv (own_bi bw), iv (own_K b0 b1 b2 kf), iv (own_K b0 b1 b2 (own_k1 kf)), rv a18, iv ress3, own_lv cns3, .second, iv vas3, iv vbs3, iv vcs3, iv vds3, iv pos3, iv pas3, iv ers3, own_lv ecs3, .second, iv x1s3, iv x2s3, .unset] []) := by
      intro t kt
      refine XS.iload X154.here hx rfl (hb hby at_427) rfl ?_
      show own_S p e below T154 m 429 #[iv xk, iv xa, iv xs, iv xv, iv xw, rv a2, iv ff, iv fr, iv t1, iv t2, iv (3 : Int32), iv (own_bi bv), iv (own_bi bw), iv (own_K b0 b1 b2 kf), iv (own_K b0 b1 b2 (own_k1 kf)), rv a18, iv ress3, own_lv cns3, .second, iv vas3, iv vbs3, iv vcs3, iv vds3, iv pos3, iv pas3, iv ers3, own_lv ecs3, .second, iv x1s3, iv x2s3, .unset] [(.int (3 : Int32))] _
      refine XS.iconst X154.here hx rfl (hb hby at_429) ?_
      show own_S p e below T154 m 430 #[iv xk, iv xa, iv xs, iv xv, iv xw, rv a2, iv ff, iv fr, iv t1, iv t2, iv (3 : Int32), iv (own_bi bv), iv (own_bi bw), iv (own_K b0 b1 b2 kf), iv (own_K b0 b1 b2 (own_k1 kf)), rv a18, iv ress3, own_lv cns3, .second, iv vas3, iv vbs3, iv vcs3, iv vds3, iv pos3, iv pas3, iv ers3, own_lv ecs3, .second, iv x1s3, iv x2s3, .unset] [(.int (3 : Int32)), (.int (3 : Int32))] _
      refine XS.icmpNo X154.here hx rfl (hb hby at_430) rfl (teq (by decide : (3 : Int32) = (3 : Int32))).2 ?_
      show own_S p e below T154 m 433 #[iv xk, iv xa, iv xs, iv xv, iv xw, rv a2, iv ff, iv fr, iv t1, iv t2, iv (3 : Int32), iv (own_bi bv), iv (own_bi bw), iv (own_K b0 b1 b2 kf), iv (own_K b0 b1 b2 (own_k1 kf)), rv a18, iv ress3, own_lv cns3, .second, iv vas3, iv vbs3, iv vcs3, iv vds3, iv pos3, iv pas3, iv ers3, own_lv ecs3, .second, iv x1s3, iv x2s3, .unset] [] _
      refine XS.iload X154.here hx rfl (hb hby at_433) rfl ?_
      show own_S p e below T154 m 435 #[iv xk, iv xa, iv xs, iv xv, iv xw, rv a2, iv ff, iv fr, iv t1, iv t2, iv (3 : Int32), iv (own_bi bv), iv (own_bi bw), iv (own_K b0 b1 b2 kf), iv (own_K b0 b1 b2 (own_k1 kf)), rv a18, iv ress3, own_lv cns3, .second, iv vas3, iv vbs3, iv vcs3, iv vds3, iv pos3, iv pas3, iv ers3, own_lv ecs3, .second, iv x1s3, iv x2s3, .unset] [(.int pos3)] _
      by_cases hc174 : pos3 = (0 : Int32)
      · refine XS.ifYes X154.here hx rfl (pc0 := 435) (pc' := 443) rfl (hb hby at_435) rfl ((if0 _ _).trans (teq hc174).1) (by decide) (by decide) ?_
        show own_S p e below T154 m 443 #[iv xk, iv xa, iv xs, iv xv, iv xw, rv a2, iv ff, iv fr, iv t1, iv t2, iv (3 : Int32), iv (own_bi bv), iv (own_bi bw), iv (own_K b0 b1 b2 kf), iv (own_K b0 b1 b2 (own_k1 kf)), rv a18, iv ress3, own_lv cns3, .second, iv vas3, iv vbs3, iv vcs3, iv vds3, iv pos3, iv pas3, iv ers3, own_lv ecs3, .second, iv x1s3, iv x2s3, .unset] [] _
        refine XS.iconst X154.here hx rfl (hb hby at_443) ?_
        show own_S p e below T154 m 444 #[iv xk, iv xa, iv xs, iv xv, iv xw, rv a2, iv ff, iv fr, iv t1, iv t2, iv (3 : Int32), iv (own_bi bv), iv (own_bi bw), iv (own_K b0 b1 b2 kf), iv (own_K b0 b1 b2 (own_k1 kf)), rv a18, iv ress3, own_lv cns3, .second, iv vas3, iv vbs3, iv vcs3, iv vds3, iv pos3, iv pas3, iv ers3, own_lv ecs3, .second, iv x1s3, iv x2s3, .unset] [(.int (-1 : Int32))] _
        rw [show xbs3 = (-1 : Int32) from by rw [hxbs3, if_pos hc174]] at kt
        exact kt
      · refine XS.ifNo X154.here hx rfl (hb hby at_435) rfl ((if0 _ _).trans (feq hc174).1) ?_
        show own_S p e below T154 m 438 #[iv xk, iv xa, iv xs, iv xv, iv xw, rv a2, iv ff, iv fr, iv t1, iv t2, iv (3 : Int32), iv (own_bi bv), iv (own_bi bw), iv (own_K b0 b1 b2 kf), iv (own_K b0 b1 b2 (own_k1 kf)), rv a18, iv ress3, own_lv cns3, .second, iv vas3, iv vbs3, iv vcs3, iv vds3, iv pos3, iv pas3, iv ers3, own_lv ecs3, .second, iv x1s3, iv x2s3, .unset] [] _
        refine XS.iload X154.here hx rfl (hb hby at_438) rfl ?_
        show own_S p e below T154 m 440 #[iv xk, iv xa, iv xs, iv xv, iv xw, rv a2, iv ff, iv fr, iv t1, iv t2, iv (3 : Int32), iv (own_bi bv), iv (own_bi bw), iv (own_K b0 b1 b2 kf), iv (own_K b0 b1 b2 (own_k1 kf)), rv a18, iv ress3, own_lv cns3, .second, iv vas3, iv vbs3, iv vcs3, iv vds3, iv pos3, iv pas3, iv ers3, own_lv ecs3, .second, iv x1s3, iv x2s3, .unset] [(.int (own_bi bw))] _
        refine XS.goto X154.here hx rfl (pc0 := 440) (pc' := 444) rfl (hb hby at_440) (by decide) (by decide) ?_
        show own_S p e below T154 m 444 #[iv xk, iv xa, iv xs, iv xv, iv xw, rv a2, iv ff, iv fr, iv t1, iv t2, iv (3 : Int32), iv (own_bi bv), iv (own_bi bw), iv (own_K b0 b1 b2 kf), iv (own_K b0 b1 b2 (own_k1 kf)), rv a18, iv ress3, own_lv cns3, .second, iv vas3, iv vbs3, iv vcs3, iv vds3, iv pos3, iv pas3, iv ers3, own_lv ecs3, .second, iv x1s3, iv x2s3, .unset] [(.int (own_bi bw))] _
        rw [show xbs3 = (own_bi bw) from by rw [hxbs3, if_neg hc174]] at kt
        exact kt
    refine own_st sg175 ?_
    obtain ⟨rrs3, hrrs3⟩ : ∃ z : Int32, z = (if ress3 = ers3 then (if cns3 = ecs3 then (if vas3 = x1s3 then (if vbs3 = x2s3 then (if vcs3 = (-1 : Int32) then (if vds3 = xbs3 then (1 : Int32) else (0 : Int32)) else (0 : Int32)) else (0 : Int32)) else (0 : Int32)) else (0 : Int32)) else (0 : Int32)) := ⟨_, rfl⟩
    have sg182 : own_V p e below T154 (mkF m 493 #[iv xk, iv xa, iv xs, iv xv, iv xw, rv a2, iv ff, iv fr, iv t1, iv t2, iv (3 : Int32), iv (own_bi bv), iv (own_bi bw), iv (own_K b0 b1 b2 kf), iv (own_K b0 b1 b2 (own_k1 kf)), rv a18, iv ress3, own_lv cns3, .second, iv vas3, iv vbs3, iv vcs3, iv vds3, iv pos3, iv pas3, iv ers3, own_lv ecs3, .second, iv x1s3, iv x2s3, iv xbs3] [(.int rrs3)]) (mkF m 444 #[iv xk, iv xa, iv xs, iv xv, iv xw, rv a2, iv ff, iv fr, iv t1, iv t2, iv (3 : Int32), iv (own_bi bv), iv (own_bi bw), iv (own_K b0 b1 b2 kf), iv (own_K b0 b1 b2 (own_k1 kf)), rv a18, iv ress3, own_lv cns3, .second, iv vas3, iv vbs3, iv vcs3, iv vds3, iv pos3, iv pas3, iv ers3, own_lv ecs3, .second, iv x1s3, iv x2s3, .unset] [(.int xbs3)]) := by
      intro t kt
      refine XS.istore X154.here hx rfl (hb hby at_444) rfl (l' := #[iv xk, iv xa, iv xs, iv xv, iv xw, rv a2, iv ff, iv fr, iv t1, iv t2, iv (3 : Int32), iv (own_bi bv), iv (own_bi bw), iv (own_K b0 b1 b2 kf), iv (own_K b0 b1 b2 (own_k1 kf)), rv a18, iv ress3, own_lv cns3, .second, iv vas3, iv vbs3, iv vcs3, iv vds3, iv pos3, iv pas3, iv ers3, own_lv ecs3, .second, iv x1s3, iv x2s3, iv xbs3]) rfl ?_
      show own_S p e below T154 m 446 #[iv xk, iv xa, iv xs, iv xv, iv xw, rv a2, iv ff, iv fr, iv t1, iv t2, iv (3 : Int32), iv (own_bi bv), iv (own_bi bw), iv (own_K b0 b1 b2 kf), iv (own_K b0 b1 b2 (own_k1 kf)), rv a18, iv ress3, own_lv cns3, .second, iv vas3, iv vbs3, iv vcs3, iv vds3, iv pos3, iv pas3, iv ers3, own_lv ecs3, .second, iv x1s3, iv x2s3, iv xbs3] [] _
      refine XS.iload X154.here hx rfl (hb hby at_446) rfl ?_
      show own_S p e below T154 m 448 #[iv xk, iv xa, iv xs, iv xv, iv xw, rv a2, iv ff, iv fr, iv t1, iv t2, iv (3 : Int32), iv (own_bi bv), iv (own_bi bw), iv (own_K b0 b1 b2 kf), iv (own_K b0 b1 b2 (own_k1 kf)), rv a18, iv ress3, own_lv cns3, .second, iv vas3, iv vbs3, iv vcs3, iv vds3, iv pos3, iv pas3, iv ers3, own_lv ecs3, .second, iv x1s3, iv x2s3, iv xbs3] [(.int ress3)] _
      refine XS.iload X154.here hx rfl (hb hby at_448) rfl ?_
      show own_S p e below T154 m 450 #[iv xk, iv xa, iv xs, iv xv, iv xw, rv a2, iv ff, iv fr, iv t1, iv t2, iv (3 : Int32), iv (own_bi bv), iv (own_bi bw), iv (own_K b0 b1 b2 kf), iv (own_K b0 b1 b2 (own_k1 kf)), rv a18, iv ress3, own_lv cns3, .second, iv vas3, iv vbs3, iv vcs3, iv vds3, iv pos3, iv pas3, iv ers3, own_lv ecs3, .second, iv x1s3, iv x2s3, iv xbs3] [(.int ers3), (.int ress3)] _
      by_cases hc176 : ress3 = ers3
      · refine XS.icmpNo X154.here hx rfl (hb hby at_450) rfl (teq hc176).2 ?_
        show own_S p e below T154 m 453 #[iv xk, iv xa, iv xs, iv xv, iv xw, rv a2, iv ff, iv fr, iv t1, iv t2, iv (3 : Int32), iv (own_bi bv), iv (own_bi bw), iv (own_K b0 b1 b2 kf), iv (own_K b0 b1 b2 (own_k1 kf)), rv a18, iv ress3, own_lv cns3, .second, iv vas3, iv vbs3, iv vcs3, iv vds3, iv pos3, iv pas3, iv ers3, own_lv ecs3, .second, iv x1s3, iv x2s3, iv xbs3] [] _
        refine XS.lload X154.here hx rfl (hb hby at_453) rfl ?_
        show own_S p e below T154 m 455 #[iv xk, iv xa, iv xs, iv xv, iv xw, rv a2, iv ff, iv fr, iv t1, iv t2, iv (3 : Int32), iv (own_bi bv), iv (own_bi bw), iv (own_K b0 b1 b2 kf), iv (own_K b0 b1 b2 (own_k1 kf)), rv a18, iv ress3, own_lv cns3, .second, iv vas3, iv vbs3, iv vcs3, iv vds3, iv pos3, iv pas3, iv ers3, own_lv ecs3, .second, iv x1s3, iv x2s3, iv xbs3] [(.long cns3)] _
        refine XS.lload X154.here hx rfl (hb hby at_455) rfl ?_
        show own_S p e below T154 m 457 #[iv xk, iv xa, iv xs, iv xv, iv xw, rv a2, iv ff, iv fr, iv t1, iv t2, iv (3 : Int32), iv (own_bi bv), iv (own_bi bw), iv (own_K b0 b1 b2 kf), iv (own_K b0 b1 b2 (own_k1 kf)), rv a18, iv ress3, own_lv cns3, .second, iv vas3, iv vbs3, iv vcs3, iv vds3, iv pos3, iv pas3, iv ers3, own_lv ecs3, .second, iv x1s3, iv x2s3, iv xbs3] [(.long ecs3), (.long cns3)] _
        refine XS.lcmp X154.here hx rfl (hb hby at_457) rfl ?_
        show own_S p e below T154 m 458 #[iv xk, iv xa, iv xs, iv xv, iv xw, rv a2, iv ff, iv fr, iv t1, iv t2, iv (3 : Int32), iv (own_bi bv), iv (own_bi bw), iv (own_K b0 b1 b2 kf), iv (own_K b0 b1 b2 (own_k1 kf)), rv a18, iv ress3, own_lv cns3, .second, iv vas3, iv vbs3, iv vcs3, iv vds3, iv pos3, iv pas3, iv ers3, own_lv ecs3, .second, iv x1s3, iv x2s3, iv xbs3] [(.int (lcmpW cns3 ecs3))] _
        by_cases hc177 : cns3 = ecs3
        · refine XS.ifNo X154.here hx rfl (hb hby at_458) rfl (own_teqL hc177).2 ?_
          show own_S p e below T154 m 461 #[iv xk, iv xa, iv xs, iv xv, iv xw, rv a2, iv ff, iv fr, iv t1, iv t2, iv (3 : Int32), iv (own_bi bv), iv (own_bi bw), iv (own_K b0 b1 b2 kf), iv (own_K b0 b1 b2 (own_k1 kf)), rv a18, iv ress3, own_lv cns3, .second, iv vas3, iv vbs3, iv vcs3, iv vds3, iv pos3, iv pas3, iv ers3, own_lv ecs3, .second, iv x1s3, iv x2s3, iv xbs3] [] _
          refine XS.iload X154.here hx rfl (hb hby at_461) rfl ?_
          show own_S p e below T154 m 463 #[iv xk, iv xa, iv xs, iv xv, iv xw, rv a2, iv ff, iv fr, iv t1, iv t2, iv (3 : Int32), iv (own_bi bv), iv (own_bi bw), iv (own_K b0 b1 b2 kf), iv (own_K b0 b1 b2 (own_k1 kf)), rv a18, iv ress3, own_lv cns3, .second, iv vas3, iv vbs3, iv vcs3, iv vds3, iv pos3, iv pas3, iv ers3, own_lv ecs3, .second, iv x1s3, iv x2s3, iv xbs3] [(.int vas3)] _
          refine XS.iload X154.here hx rfl (hb hby at_463) rfl ?_
          show own_S p e below T154 m 465 #[iv xk, iv xa, iv xs, iv xv, iv xw, rv a2, iv ff, iv fr, iv t1, iv t2, iv (3 : Int32), iv (own_bi bv), iv (own_bi bw), iv (own_K b0 b1 b2 kf), iv (own_K b0 b1 b2 (own_k1 kf)), rv a18, iv ress3, own_lv cns3, .second, iv vas3, iv vbs3, iv vcs3, iv vds3, iv pos3, iv pas3, iv ers3, own_lv ecs3, .second, iv x1s3, iv x2s3, iv xbs3] [(.int x1s3), (.int vas3)] _
          by_cases hc178 : vas3 = x1s3
          · refine XS.icmpNo X154.here hx rfl (hb hby at_465) rfl (teq hc178).2 ?_
            show own_S p e below T154 m 468 #[iv xk, iv xa, iv xs, iv xv, iv xw, rv a2, iv ff, iv fr, iv t1, iv t2, iv (3 : Int32), iv (own_bi bv), iv (own_bi bw), iv (own_K b0 b1 b2 kf), iv (own_K b0 b1 b2 (own_k1 kf)), rv a18, iv ress3, own_lv cns3, .second, iv vas3, iv vbs3, iv vcs3, iv vds3, iv pos3, iv pas3, iv ers3, own_lv ecs3, .second, iv x1s3, iv x2s3, iv xbs3] [] _
            refine XS.iload X154.here hx rfl (hb hby at_468) rfl ?_
            show own_S p e below T154 m 470 #[iv xk, iv xa, iv xs, iv xv, iv xw, rv a2, iv ff, iv fr, iv t1, iv t2, iv (3 : Int32), iv (own_bi bv), iv (own_bi bw), iv (own_K b0 b1 b2 kf), iv (own_K b0 b1 b2 (own_k1 kf)), rv a18, iv ress3, own_lv cns3, .second, iv vas3, iv vbs3, iv vcs3, iv vds3, iv pos3, iv pas3, iv ers3, own_lv ecs3, .second, iv x1s3, iv x2s3, iv xbs3] [(.int vbs3)] _
            refine XS.iload X154.here hx rfl (hb hby at_470) rfl ?_
            show own_S p e below T154 m 472 #[iv xk, iv xa, iv xs, iv xv, iv xw, rv a2, iv ff, iv fr, iv t1, iv t2, iv (3 : Int32), iv (own_bi bv), iv (own_bi bw), iv (own_K b0 b1 b2 kf), iv (own_K b0 b1 b2 (own_k1 kf)), rv a18, iv ress3, own_lv cns3, .second, iv vas3, iv vbs3, iv vcs3, iv vds3, iv pos3, iv pas3, iv ers3, own_lv ecs3, .second, iv x1s3, iv x2s3, iv xbs3] [(.int x2s3), (.int vbs3)] _
            by_cases hc179 : vbs3 = x2s3
            · refine XS.icmpNo X154.here hx rfl (hb hby at_472) rfl (teq hc179).2 ?_
              show own_S p e below T154 m 475 #[iv xk, iv xa, iv xs, iv xv, iv xw, rv a2, iv ff, iv fr, iv t1, iv t2, iv (3 : Int32), iv (own_bi bv), iv (own_bi bw), iv (own_K b0 b1 b2 kf), iv (own_K b0 b1 b2 (own_k1 kf)), rv a18, iv ress3, own_lv cns3, .second, iv vas3, iv vbs3, iv vcs3, iv vds3, iv pos3, iv pas3, iv ers3, own_lv ecs3, .second, iv x1s3, iv x2s3, iv xbs3] [] _
              refine XS.iload X154.here hx rfl (hb hby at_475) rfl ?_
              show own_S p e below T154 m 477 #[iv xk, iv xa, iv xs, iv xv, iv xw, rv a2, iv ff, iv fr, iv t1, iv t2, iv (3 : Int32), iv (own_bi bv), iv (own_bi bw), iv (own_K b0 b1 b2 kf), iv (own_K b0 b1 b2 (own_k1 kf)), rv a18, iv ress3, own_lv cns3, .second, iv vas3, iv vbs3, iv vcs3, iv vds3, iv pos3, iv pas3, iv ers3, own_lv ecs3, .second, iv x1s3, iv x2s3, iv xbs3] [(.int vcs3)] _
              refine XS.iconst X154.here hx rfl (hb hby at_477) ?_
              show own_S p e below T154 m 478 #[iv xk, iv xa, iv xs, iv xv, iv xw, rv a2, iv ff, iv fr, iv t1, iv t2, iv (3 : Int32), iv (own_bi bv), iv (own_bi bw), iv (own_K b0 b1 b2 kf), iv (own_K b0 b1 b2 (own_k1 kf)), rv a18, iv ress3, own_lv cns3, .second, iv vas3, iv vbs3, iv vcs3, iv vds3, iv pos3, iv pas3, iv ers3, own_lv ecs3, .second, iv x1s3, iv x2s3, iv xbs3] [(.int (-1 : Int32)), (.int vcs3)] _
              by_cases hc180 : vcs3 = (-1 : Int32)
              · refine XS.icmpNo X154.here hx rfl (hb hby at_478) rfl (teq hc180).2 ?_
                show own_S p e below T154 m 481 #[iv xk, iv xa, iv xs, iv xv, iv xw, rv a2, iv ff, iv fr, iv t1, iv t2, iv (3 : Int32), iv (own_bi bv), iv (own_bi bw), iv (own_K b0 b1 b2 kf), iv (own_K b0 b1 b2 (own_k1 kf)), rv a18, iv ress3, own_lv cns3, .second, iv vas3, iv vbs3, iv vcs3, iv vds3, iv pos3, iv pas3, iv ers3, own_lv ecs3, .second, iv x1s3, iv x2s3, iv xbs3] [] _
                refine XS.iload X154.here hx rfl (hb hby at_481) rfl ?_
                show own_S p e below T154 m 483 #[iv xk, iv xa, iv xs, iv xv, iv xw, rv a2, iv ff, iv fr, iv t1, iv t2, iv (3 : Int32), iv (own_bi bv), iv (own_bi bw), iv (own_K b0 b1 b2 kf), iv (own_K b0 b1 b2 (own_k1 kf)), rv a18, iv ress3, own_lv cns3, .second, iv vas3, iv vbs3, iv vcs3, iv vds3, iv pos3, iv pas3, iv ers3, own_lv ecs3, .second, iv x1s3, iv x2s3, iv xbs3] [(.int vds3)] _
                refine XS.iload X154.here hx rfl (hb hby at_483) rfl ?_
                show own_S p e below T154 m 485 #[iv xk, iv xa, iv xs, iv xv, iv xw, rv a2, iv ff, iv fr, iv t1, iv t2, iv (3 : Int32), iv (own_bi bv), iv (own_bi bw), iv (own_K b0 b1 b2 kf), iv (own_K b0 b1 b2 (own_k1 kf)), rv a18, iv ress3, own_lv cns3, .second, iv vas3, iv vbs3, iv vcs3, iv vds3, iv pos3, iv pas3, iv ers3, own_lv ecs3, .second, iv x1s3, iv x2s3, iv xbs3] [(.int xbs3), (.int vds3)] _
                by_cases hc181 : vds3 = xbs3
                · refine XS.icmpNo X154.here hx rfl (hb hby at_485) rfl (teq hc181).2 ?_
                  show own_S p e below T154 m 488 #[iv xk, iv xa, iv xs, iv xv, iv xw, rv a2, iv ff, iv fr, iv t1, iv t2, iv (3 : Int32), iv (own_bi bv), iv (own_bi bw), iv (own_K b0 b1 b2 kf), iv (own_K b0 b1 b2 (own_k1 kf)), rv a18, iv ress3, own_lv cns3, .second, iv vas3, iv vbs3, iv vcs3, iv vds3, iv pos3, iv pas3, iv ers3, own_lv ecs3, .second, iv x1s3, iv x2s3, iv xbs3] [] _
                  refine XS.iconst X154.here hx rfl (hb hby at_488) ?_
                  show own_S p e below T154 m 489 #[iv xk, iv xa, iv xs, iv xv, iv xw, rv a2, iv ff, iv fr, iv t1, iv t2, iv (3 : Int32), iv (own_bi bv), iv (own_bi bw), iv (own_K b0 b1 b2 kf), iv (own_K b0 b1 b2 (own_k1 kf)), rv a18, iv ress3, own_lv cns3, .second, iv vas3, iv vbs3, iv vcs3, iv vds3, iv pos3, iv pas3, iv ers3, own_lv ecs3, .second, iv x1s3, iv x2s3, iv xbs3] [(.int (1 : Int32))] _
                  refine XS.goto X154.here hx rfl (pc0 := 489) (pc' := 493) rfl (hb hby at_489) (by decide) (by decide) ?_
                  show own_S p e below T154 m 493 #[iv xk, iv xa, iv xs, iv xv, iv xw, rv a2, iv ff, iv fr, iv t1, iv t2, iv (3 : Int32), iv (own_bi bv), iv (own_bi bw), iv (own_K b0 b1 b2 kf), iv (own_K b0 b1 b2 (own_k1 kf)), rv a18, iv ress3, own_lv cns3, .second, iv vas3, iv vbs3, iv vcs3, iv vds3, iv pos3, iv pas3, iv ers3, own_lv ecs3, .second, iv x1s3, iv x2s3, iv xbs3] [(.int (1 : Int32))] _
                  rw [show rrs3 = (1 : Int32) from by rw [hrrs3, if_pos hc176, if_pos hc177, if_pos hc178, if_pos hc179, if_pos hc180, if_pos hc181]] at kt
                  exact kt
                · refine XS.icmpYes X154.here hx rfl (pc0 := 485) (pc' := 492) rfl (hb hby at_485) rfl (feq hc181).2 (by decide) (by decide) ?_
                  show own_S p e below T154 m 492 #[iv xk, iv xa, iv xs, iv xv, iv xw, rv a2, iv ff, iv fr, iv t1, iv t2, iv (3 : Int32), iv (own_bi bv), iv (own_bi bw), iv (own_K b0 b1 b2 kf), iv (own_K b0 b1 b2 (own_k1 kf)), rv a18, iv ress3, own_lv cns3, .second, iv vas3, iv vbs3, iv vcs3, iv vds3, iv pos3, iv pas3, iv ers3, own_lv ecs3, .second, iv x1s3, iv x2s3, iv xbs3] [] _
                  refine XS.iconst X154.here hx rfl (hb hby at_492) ?_
                  show own_S p e below T154 m 493 #[iv xk, iv xa, iv xs, iv xv, iv xw, rv a2, iv ff, iv fr, iv t1, iv t2, iv (3 : Int32), iv (own_bi bv), iv (own_bi bw), iv (own_K b0 b1 b2 kf), iv (own_K b0 b1 b2 (own_k1 kf)), rv a18, iv ress3, own_lv cns3, .second, iv vas3, iv vbs3, iv vcs3, iv vds3, iv pos3, iv pas3, iv ers3, own_lv ecs3, .second, iv x1s3, iv x2s3, iv xbs3] [(.int (0 : Int32))] _
                  rw [show rrs3 = (0 : Int32) from by rw [hrrs3, if_pos hc176, if_pos hc177, if_pos hc178, if_pos hc179, if_pos hc180, if_neg hc181]] at kt
                  exact kt
              · refine XS.icmpYes X154.here hx rfl (pc0 := 478) (pc' := 492) rfl (hb hby at_478) rfl (feq hc180).2 (by decide) (by decide) ?_
                show own_S p e below T154 m 492 #[iv xk, iv xa, iv xs, iv xv, iv xw, rv a2, iv ff, iv fr, iv t1, iv t2, iv (3 : Int32), iv (own_bi bv), iv (own_bi bw), iv (own_K b0 b1 b2 kf), iv (own_K b0 b1 b2 (own_k1 kf)), rv a18, iv ress3, own_lv cns3, .second, iv vas3, iv vbs3, iv vcs3, iv vds3, iv pos3, iv pas3, iv ers3, own_lv ecs3, .second, iv x1s3, iv x2s3, iv xbs3] [] _
                refine XS.iconst X154.here hx rfl (hb hby at_492) ?_
                show own_S p e below T154 m 493 #[iv xk, iv xa, iv xs, iv xv, iv xw, rv a2, iv ff, iv fr, iv t1, iv t2, iv (3 : Int32), iv (own_bi bv), iv (own_bi bw), iv (own_K b0 b1 b2 kf), iv (own_K b0 b1 b2 (own_k1 kf)), rv a18, iv ress3, own_lv cns3, .second, iv vas3, iv vbs3, iv vcs3, iv vds3, iv pos3, iv pas3, iv ers3, own_lv ecs3, .second, iv x1s3, iv x2s3, iv xbs3] [(.int (0 : Int32))] _
                rw [show rrs3 = (0 : Int32) from by rw [hrrs3, if_pos hc176, if_pos hc177, if_pos hc178, if_pos hc179, if_neg hc180]] at kt
                exact kt
            · refine XS.icmpYes X154.here hx rfl (pc0 := 472) (pc' := 492) rfl (hb hby at_472) rfl (feq hc179).2 (by decide) (by decide) ?_
              show own_S p e below T154 m 492 #[iv xk, iv xa, iv xs, iv xv, iv xw, rv a2, iv ff, iv fr, iv t1, iv t2, iv (3 : Int32), iv (own_bi bv), iv (own_bi bw), iv (own_K b0 b1 b2 kf), iv (own_K b0 b1 b2 (own_k1 kf)), rv a18, iv ress3, own_lv cns3, .second, iv vas3, iv vbs3, iv vcs3, iv vds3, iv pos3, iv pas3, iv ers3, own_lv ecs3, .second, iv x1s3, iv x2s3, iv xbs3] [] _
              refine XS.iconst X154.here hx rfl (hb hby at_492) ?_
              show own_S p e below T154 m 493 #[iv xk, iv xa, iv xs, iv xv, iv xw, rv a2, iv ff, iv fr, iv t1, iv t2, iv (3 : Int32), iv (own_bi bv), iv (own_bi bw), iv (own_K b0 b1 b2 kf), iv (own_K b0 b1 b2 (own_k1 kf)), rv a18, iv ress3, own_lv cns3, .second, iv vas3, iv vbs3, iv vcs3, iv vds3, iv pos3, iv pas3, iv ers3, own_lv ecs3, .second, iv x1s3, iv x2s3, iv xbs3] [(.int (0 : Int32))] _
              rw [show rrs3 = (0 : Int32) from by rw [hrrs3, if_pos hc176, if_pos hc177, if_pos hc178, if_neg hc179]] at kt
              exact kt
          · refine XS.icmpYes X154.here hx rfl (pc0 := 465) (pc' := 492) rfl (hb hby at_465) rfl (feq hc178).2 (by decide) (by decide) ?_
            show own_S p e below T154 m 492 #[iv xk, iv xa, iv xs, iv xv, iv xw, rv a2, iv ff, iv fr, iv t1, iv t2, iv (3 : Int32), iv (own_bi bv), iv (own_bi bw), iv (own_K b0 b1 b2 kf), iv (own_K b0 b1 b2 (own_k1 kf)), rv a18, iv ress3, own_lv cns3, .second, iv vas3, iv vbs3, iv vcs3, iv vds3, iv pos3, iv pas3, iv ers3, own_lv ecs3, .second, iv x1s3, iv x2s3, iv xbs3] [] _
            refine XS.iconst X154.here hx rfl (hb hby at_492) ?_
            show own_S p e below T154 m 493 #[iv xk, iv xa, iv xs, iv xv, iv xw, rv a2, iv ff, iv fr, iv t1, iv t2, iv (3 : Int32), iv (own_bi bv), iv (own_bi bw), iv (own_K b0 b1 b2 kf), iv (own_K b0 b1 b2 (own_k1 kf)), rv a18, iv ress3, own_lv cns3, .second, iv vas3, iv vbs3, iv vcs3, iv vds3, iv pos3, iv pas3, iv ers3, own_lv ecs3, .second, iv x1s3, iv x2s3, iv xbs3] [(.int (0 : Int32))] _
            rw [show rrs3 = (0 : Int32) from by rw [hrrs3, if_pos hc176, if_pos hc177, if_neg hc178]] at kt
            exact kt
        · refine XS.ifYes X154.here hx rfl (pc0 := 458) (pc' := 492) rfl (hb hby at_458) rfl (own_feqL hc177).2 (by decide) (by decide) ?_
          show own_S p e below T154 m 492 #[iv xk, iv xa, iv xs, iv xv, iv xw, rv a2, iv ff, iv fr, iv t1, iv t2, iv (3 : Int32), iv (own_bi bv), iv (own_bi bw), iv (own_K b0 b1 b2 kf), iv (own_K b0 b1 b2 (own_k1 kf)), rv a18, iv ress3, own_lv cns3, .second, iv vas3, iv vbs3, iv vcs3, iv vds3, iv pos3, iv pas3, iv ers3, own_lv ecs3, .second, iv x1s3, iv x2s3, iv xbs3] [] _
          refine XS.iconst X154.here hx rfl (hb hby at_492) ?_
          show own_S p e below T154 m 493 #[iv xk, iv xa, iv xs, iv xv, iv xw, rv a2, iv ff, iv fr, iv t1, iv t2, iv (3 : Int32), iv (own_bi bv), iv (own_bi bw), iv (own_K b0 b1 b2 kf), iv (own_K b0 b1 b2 (own_k1 kf)), rv a18, iv ress3, own_lv cns3, .second, iv vas3, iv vbs3, iv vcs3, iv vds3, iv pos3, iv pas3, iv ers3, own_lv ecs3, .second, iv x1s3, iv x2s3, iv xbs3] [(.int (0 : Int32))] _
          rw [show rrs3 = (0 : Int32) from by rw [hrrs3, if_pos hc176, if_neg hc177]] at kt
          exact kt
      · refine XS.icmpYes X154.here hx rfl (pc0 := 450) (pc' := 492) rfl (hb hby at_450) rfl (feq hc176).2 (by decide) (by decide) ?_
        show own_S p e below T154 m 492 #[iv xk, iv xa, iv xs, iv xv, iv xw, rv a2, iv ff, iv fr, iv t1, iv t2, iv (3 : Int32), iv (own_bi bv), iv (own_bi bw), iv (own_K b0 b1 b2 kf), iv (own_K b0 b1 b2 (own_k1 kf)), rv a18, iv ress3, own_lv cns3, .second, iv vas3, iv vbs3, iv vcs3, iv vds3, iv pos3, iv pas3, iv ers3, own_lv ecs3, .second, iv x1s3, iv x2s3, iv xbs3] [] _
        refine XS.iconst X154.here hx rfl (hb hby at_492) ?_
        show own_S p e below T154 m 493 #[iv xk, iv xa, iv xs, iv xv, iv xw, rv a2, iv ff, iv fr, iv t1, iv t2, iv (3 : Int32), iv (own_bi bv), iv (own_bi bw), iv (own_K b0 b1 b2 kf), iv (own_K b0 b1 b2 (own_k1 kf)), rv a18, iv ress3, own_lv cns3, .second, iv vas3, iv vbs3, iv vcs3, iv vds3, iv pos3, iv pas3, iv ers3, own_lv ecs3, .second, iv x1s3, iv x2s3, iv xbs3] [(.int (0 : Int32))] _
        rw [show rrs3 = (0 : Int32) from by rw [hrrs3, if_neg hc176]] at kt
        exact kt
    refine own_st sg182 ?_
    have hone : rrs3 = 1 := by
      have hd : rrs3 = own_f_rrs3 b0 b1 b2 kf bv bw := by subst hrrs3 hxbs3 hx2s3 hx1s3 hecs3 he3s3 he2s3 he1s3 hers3 hpas3 hpos3 hvds3 hvcs3 hvbs3 hvas3 hcns3 hress3; rfl
      rw [hd]; exact own_fins3 b0 b1 b2 ⟨kf, hf3⟩ bv bw
    rw [hone]
    show own_Go p e below _ T154 (mkF m 493 #[iv xk, iv xa, iv xs, iv xv, iv xw, rv a2, iv ff, iv fr, iv t1, iv t2, iv (3 : Int32), iv (own_bi bv), iv (own_bi bw), iv (own_K b0 b1 b2 kf), iv (own_K b0 b1 b2 (own_k1 kf)), rv a18, iv ress3, own_lv cns3, .second, iv vas3, iv vbs3, iv vcs3, iv vds3, iv pos3, iv pas3, iv ers3, own_lv ecs3, .second, iv x1s3, iv x2s3, iv xbs3] [(.int (1 : Int32))])
    exact own_retZ X154 hx Bd.notSynchronized Bd.returns (hb hby at_493) (by decide) (by decide) (by decide) e154 ⟨rfl, N154⟩
set_option maxRecDepth 65536 in
set_option maxHeartbeats 40000000 in
theorem comes_1 {Post : Tables → Env → Array Value → State → Outcome → State → Prop} (hpost : ∀ tb e args s v u, (limb_1_1.after args s (.returned v) u = true ∧ limb_1_2.after args s (.returned v) u = true ∧ True) → FrameEnd s (.returned v) u (Jvm.fieldLocs frame_1_writes args s ++ Jvm.arrayLocs frame_1_arrays args s ++ Jvm.staticLocs frame_1_statics s) 40 192 → Post tb e args s (.returned v) u) :
    ArmFor flags0 classFile x code maxLocals ret World_1 tables_1 room_1 Calls_1 rest_1 Pre_1 Post := by
  intro l hfl _ _ p e ha hc hk s m args below hf hA hF happ hP
  obtain ⟨hcalls, hrest, hpre⟩ := hP
  obtain ⟨-, -, -, hnamed, -, -, -, hat⟩ := (Spec.applies_iff hf).mp happ
  obtain ⟨hg, hn⟩ := and_e (Cond.before_iff.mp (show (Jvm.Cond.and given_1 narrow_1).before args s = true from hpre))
  obtain ⟨g1, g2⟩ := and_e hg
  obtain ⟨g3, g4⟩ := and_e g2
  obtain ⟨g5, g6⟩ := and_e g4
  obtain ⟨g7, g8⟩ := and_e g6
  obtain ⟨g9, g10⟩ := and_e g8
  obtain ⟨w0, w1, w2, w3, w4, rfl⟩ : ∃ w0 w1 w2 w3 w4 : Value, args = #[w0, w1, w2, w3, w4] := by
    have hs : args.size = 5 := by simpa [Cond.value, given_1] using g1
    obtain ⟨L⟩ := args
    match L, hs with
    | [w0, w1, w2, w3, w4], _ => exact ⟨w0, w1, w2, w3, w4, rfl⟩
  have hw := fun d (hd : d ∈ tables_1) => atoms_spec (ws := Jvm.Cond.code x code maxLocals ret :: tables_1) hat d (List.mem_cons_of_mem _ hd)
  have hfit : Fit s := fun {y c} hc i hi => by
    obtain ⟨ha, rfl⟩ := Array.getElem?_eq_some_iff.mp hc
    have q := List.all_eq_true.mp ((Array.all_eq_true_iff_forall_mem.mp hF) _ (Array.getElem_mem ha)) i (List.mem_range.mpr hi)
    simpa [Array.getElem?_eq_getElem hi] using q
  obtain ⟨i0, ei0⟩ := is_v g3
  obtain rfl : w0 = (.int i0) := Option.some.inj ei0
  obtain ⟨i1, ei1⟩ := is_v g5
  obtain rfl : w1 = (.int i1) := Option.some.inj ei1
  obtain ⟨i2, ei2⟩ := is_v g7
  obtain rfl : w2 = (.int i2) := Option.some.inj ei2
  obtain ⟨i3, ei3⟩ := is_v g9
  obtain rfl : w3 = (.int i3) := Option.some.inj ei3
  obtain ⟨i4, ei4⟩ := is_v g10
  obtain rfl : w4 = (.int i4) := Option.some.inj ei4
  obtain ⟨n, o, h1, h2, h3, _, L, rfl, ⟨rfl, N⟩, hq⟩ := own_rmlaw l s _ hw i0 i1 i2 i3 i4 s.heap s.heap.size (Nat.le_refl _) p e ha hc hk s m _ below hf ((Spec.applies_iff_loose hf).mp happ).1 ⟨rfl, State.Warmed39.refl s, rfl⟩ trivial
  refine ⟨n, _, h1, h2, h3, hpost _ _ _ _ _ _ ⟨Cond.after_iff.mpr rfl, Cond.after_iff.mpr (eq_i res_at (Term.int_eval (1)) rfl), trivial⟩ ⟨hq.1, hq.2.1, (hq.2.2.sift fun y hy => Or.inr (N y hy)).mono (by decide) (by decide)⟩⟩
theorem main_1_1 : Claimed_1_1 := comes_1 fun _ _ _ _ _ _ h hF => ⟨h.1, hF⟩
theorem main_1_2 : Claimed_1_2 := comes_1 fun _ _ _ _ _ _ h hF => ⟨h.2.1, hF⟩
end Jvm.Pilot.@@N@@
namespace Jvm.Pilot.@@N@@
open Jvm Jvm.ClassFile Sem Op Lib Jvm.Free Jvm.Stand Jvm.Pilot.@@N@@.Jvm.D
/-! MADE BY PROGRAM (witnessworld.py) out of the Statement's table words and the real class files: 20 classes; the members and pool entries that the words name. The judged class is class 1, her method 1. -/
namespace start1
open Jvm.ClassFile
def u (s : String) : CpInfo := .utf8 (stringToUtf16 s)
/-- a pool by its gaps: so many unusable entries, then the entry; so many at the end -/
def gap : Nat → List CpInfo → List CpInfo
  | 0, r => r
  | n + 1, r => .unusable :: gap n r
def poolList (es : List (Nat × CpInfo)) (last : Nat) : List CpInfo := es.foldr (fun e r => gap e.1 (e.2 :: r)) (gap last [])
def pool (es : List (Nat × CpInfo)) (last : Nat) : Array CpInfo := ⟨poolList es last⟩
def fileOf (pool : Array CpInfo) (this : Nat) (attrs : Array Attribute := #[]) (ms : Array MethodInfo := #[]) (fl : Nat := 33) (sup : Nat := 0) (ifs : Array Nat := #[]) (fds : Array FieldInfo := #[]) : ClassFile where
  minorVersion := 0
  majorVersion := 65
  constantPool := pool
  accessFlags := fl
  thisClass := this
  superClass := sup
  interfaces := ifs
  fields := fds
  methods := ms
  attributes := attrs
def plain (name : String) (sup : Option ClassId) : Class where
  name := name
  kind := .ordinary
  loader := none
  accessFlags := 33
  super := sup
  interfaces := #[]
  cf := none
  fields := #[]
  methods := #[]
  instanceTypes := #[]
  staticTypes := #[]
  resolved := #[]
  callSites := []
  init := .initialized
  statics := none
  mirror := none

def pool0 : Array CpInfo := pool [(5, u "<init>"), (0, u "()V"), (1, .class_ 10), (1, u "java/lang/Object"), (85, u "clone"), (0, u "()Ljava/lang/Object;")] 26

def k0c0 : Code := { maxStack := 0, maxLocals := 1, code := object_method_1_code, exceptionTable := #[], attributes := #[] }
def k0m0 : Method := { name := "<init>", desc := "()V", sig := { parameters := [], returnType := none }, accessFlags := 1, code := some k0c0 }
def k0m1 : Method := { name := "clone", desc := "()Ljava/lang/Object;", sig := { parameters := [], returnType := some (.object "java/lang/Object") }, accessFlags := 260, code := none }
/-- java/lang/Object -/
def k0 : Class := { plain "java/lang/Object" none with
  accessFlags := 33
  interfaces := #[]
  cf := some (fileOf pool0 8 #[] #[{ accessFlags := 1, nameIndex := 5, descriptorIndex := 6, attributes := #[] }, { accessFlags := 260, nameIndex := 96, descriptorIndex := 97, attributes := #[] }] 33 0 #[] #[])
  fields := #[]
  methods := #[k0m0, k0m1]
  instanceTypes := #[]
  staticTypes := #[]
  resolved := Array.replicate 124 none
  statics := none }

def pool1 : Array CpInfo := pool [(2, .class_ 4), (1, u "java/lang/Object"), (0, u "<init>"), (0, u "()V"), (0, .integer 2147483647), (0, .class_ 9), (0, u "com/example/kingsround/kingsround/engine/Deliveries"), (0, .methodref 8 11), (0, .nameAndType 5 12), (0, u "([Z)V"), (0, .methodref 8 14), (0, .nameAndType 15 16), (0, u "put"), (0, u "(III)Z"), (0, .methodref 8 18), (0, .nameAndType 19 20), (0, u "putToAll"), (0, u "(II)Z"), (0, .methodref 8 22), (0, .nameAndType 23 24), (0, u "count"), (0, u "()J"), (0, .methodref 8 26), (0, .nameAndType 27 28), (0, u "value"), (0, u "(II)I"), (0, .long 2), (1, .class_ 32), (0, u "com/example/kingsround/kingsround/engine/DeliveriesPutToAllPinLaw"), (2, u "law"), (0, u "(IIIII)Z")] 5

def k1m0 : Method := { name := "<init>", desc := "()V", sig := { parameters := [], returnType := none }, accessFlags := 1, code := none }
def k1c1 : Code := { maxStack := 4, maxLocals := 31, code := code, exceptionTable := #[], attributes := #[] }
def k1m1 : Method := { name := "law", desc := "(IIIII)Z", sig := { parameters := [.int, .int, .int, .int, .int], returnType := some .boolean }, accessFlags := 9, code := some k1c1 }
/-- com/example/kingsround/kingsround/engine/DeliveriesPutToAllPinLaw -/
def k1 : Class := { plain "com/example/kingsround/kingsround/engine/DeliveriesPutToAllPinLaw" (some 0) with
  accessFlags := 49
  interfaces := #[]
  cf := some (fileOf pool1 31 #[] #[{ accessFlags := 1, nameIndex := 5, descriptorIndex := 6, attributes := #[] }, { accessFlags := 9, nameIndex := 35, descriptorIndex := 36, attributes := #[] }] 49 2 #[] #[])
  fields := #[]
  methods := #[k1m0, k1m1]
  instanceTypes := #[]
  staticTypes := #[]
  resolved := Array.replicate 42 none
  statics := none }

def pool2 : Array CpInfo := pool [(1, .class_ 2), (0, u "com/example/kingsround/kingsround/engine/Round"), (0, .class_ 4), (0, u "java/lang/Object")] 20

/-- com/example/kingsround/kingsround/engine/Round -/
def k2 : Class := { plain "com/example/kingsround/kingsround/engine/Round" (some 0) with
  accessFlags := 1536
  interfaces := #[]
  cf := some (fileOf pool2 1 #[] #[] 1536 3 #[] #[])
  fields := #[]
  methods := #[]
  instanceTypes := #[]
  staticTypes := #[]
  resolved := Array.replicate 25 none
  statics := none }

def pool3 : Array CpInfo := pool [(2, .class_ 4), (1, u "com/example/kingsround/kingsround/engine/Deliveries"), (4, u "<init>"), (0, u "([Z)V"), (0, .methodref 12 13), (0, .class_ 14), (0, .nameAndType 9 15), (0, u "java/lang/Object"), (0, u "()V"), (0, .class_ 17), (0, u "com/example/kingsround/kingsround/engine/Deliveries$Delivered"), (0, .fieldref 2 19), (0, .nameAndType 20 21), (0, u "inboxes"), (0, u "[Lcom/example/kingsround/kingsround/engine/Deliveries$Delivered;"), (0, .methodref 16 23), (0, .nameAndType 9 24), (0, u "(Lcom/example/kingsround/kingsround/engine/Deliveries;II)V"), (0, .methodref 26 27), (0, .class_ 28), (0, .nameAndType 29 30), (0, u "[Z"), (0, u "clone"), (0, u "()Ljava/lang/Object;"), (0, .fieldref 2 32), (0, .nameAndType 33 28), (0, u "kept"), (0, .methodref 2 35), (0, .nameAndType 36 37), (0, u "keptParties"), (0, u "([Z)[I"), (0, .fieldref 2 39), (0, .nameAndType 36 40), (0, u "[I"), (0, .fieldref 2 42), (0, .nameAndType 43 44), (0, u "toAll"), (0, u "[B"), (2, .methodref 48 49), (0, .class_ 50), (0, .nameAndType 51 52), (0, u "java/util/Arrays"), (0, u "fill"), (0, u "([BB)V"), (0, .fieldref 2 54), (0, .nameAndType 55 28), (0, u "oneByOne"), (0, .class_ 57), (0, u "com/example/kingsround/kingsround/engine/CheckedOutbox"), (0, .class_ 59), (0, u "com/example/kingsround/kingsround/engine/Deliveries$1"), (0, .methodref 58 61), (0, .nameAndType 9 62), (0, u "(Lcom/example/kingsround/kingsround/engine/Deliveries;)V"), (0, .methodref 56 64), (0, .nameAndType 9 65), (0, u "(ILcom/example/kingsround/kingsround/engine/CheckedOutbox$Sink;)V"), (0, .fieldref 2 67), (0, .nameAndType 68 69), (0, u "outbox"), (0, u "Lcom/example/kingsround/kingsround/engine/CheckedOutbox;"), (0, .fieldref 16 71), (0, .nameAndType 72 44), (0, u "received"), (3, .fieldref 2 77), (0, .nameAndType 78 79), (0, u "count"), (0, u "J"), (0, .methodref 16 81), (0, .nameAndType 82 83), (0, u "value"), (0, u "(I)I"), (2, u "(II)I"), (10, .class_ 98), (0, u "com/example/kingsround/kingsround/engine/Round"), (9, u "()J"), (7, u "put"), (0, u "(III)Z"), (0, u "putToAll"), (0, u "(II)Z")] 11

def k3c0 : Code := { maxStack := 7, maxLocals := 4, code := prog_65_method_2_code, exceptionTable := #[], attributes := #[] }
def k3m0 : Method := { name := "<init>", desc := "([Z)V", sig := { parameters := [(.array .boolean)], returnType := none }, accessFlags := 0, code := some k3c0 }
def k3c1 : Code := { maxStack := 2, maxLocals := 1, code := prog_65_method_4_code, exceptionTable := #[], attributes := #[] }
def k3m1 : Method := { name := "count", desc := "()J", sig := { parameters := [], returnType := some .long }, accessFlags := 1, code := some k3c1 }
def k3c2 : Code := { maxStack := 3, maxLocals := 3, code := prog_65_method_5_code, exceptionTable := #[], attributes := #[] }
def k3m2 : Method := { name := "value", desc := "(II)I", sig := { parameters := [.int, .int], returnType := some .int }, accessFlags := 1, code := some k3c2 }
def k3c3 : Code := { maxStack := 5, maxLocals := 5, code := prog_65_method_9_code, exceptionTable := #[], attributes := #[] }
def k3m3 : Method := { name := "put", desc := "(III)Z", sig := { parameters := [.int, .int, .int], returnType := some .boolean }, accessFlags := 0, code := some k3c3 }
def k3c4 : Code := { maxStack := 5, maxLocals := 3, code := prog_65_method_10_code, exceptionTable := #[], attributes := #[] }
def k3m4 : Method := { name := "putToAll", desc := "(II)Z", sig := { parameters := [.int, .int], returnType := some .boolean }, accessFlags := 0, code := some k3c4 }
def k3c5 : Code := { maxStack := 3, maxLocals := 6, code := prog_65_method_13_code, exceptionTable := #[], attributes := #[] }
def k3m5 : Method := { name := "keptParties", desc := "([Z)[I", sig := { parameters := [(.array .boolean)], returnType := some (.array .int) }, accessFlags := 10, code := some k3c5 }
/-- com/example/kingsround/kingsround/engine/Deliveries -/
def k3 : Class := { plain "com/example/kingsround/kingsround/engine/Deliveries" (some 0) with
  accessFlags := 48
  interfaces := #[2]
  cf := some (fileOf pool3 2 #[.nestMembers #[16, 58]] #[{ accessFlags := 0, nameIndex := 9, descriptorIndex := 10, attributes := #[] }, { accessFlags := 1, nameIndex := 78, descriptorIndex := 108, attributes := #[] }, { accessFlags := 1, nameIndex := 82, descriptorIndex := 86, attributes := #[] }, { accessFlags := 0, nameIndex := 116, descriptorIndex := 117, attributes := #[] }, { accessFlags := 0, nameIndex := 118, descriptorIndex := 119, attributes := #[] }, { accessFlags := 10, nameIndex := 36, descriptorIndex := 37, attributes := #[] }] 48 12 #[97] #[{ accessFlags := 18, nameIndex := 20, descriptorIndex := 21, attributes := #[] }, { accessFlags := 18, nameIndex := 33, descriptorIndex := 28, attributes := #[] }, { accessFlags := 18, nameIndex := 36, descriptorIndex := 40, attributes := #[] }, { accessFlags := 18, nameIndex := 43, descriptorIndex := 44, attributes := #[] }, { accessFlags := 18, nameIndex := 55, descriptorIndex := 28, attributes := #[] }, { accessFlags := 2, nameIndex := 78, descriptorIndex := 79, attributes := #[] }, { accessFlags := 18, nameIndex := 68, descriptorIndex := 69, attributes := #[] }])
  fields := #[{ name := "inboxes", type := (.array (.object "com/example/kingsround/kingsround/engine/Deliveries$Delivered")), accessFlags := 18, slot := 0, constantValue := 0 }, { name := "kept", type := (.array .boolean), accessFlags := 18, slot := 1, constantValue := 0 }, { name := "keptParties", type := (.array .int), accessFlags := 18, slot := 2, constantValue := 0 }, { name := "toAll", type := (.array .byte), accessFlags := 18, slot := 3, constantValue := 0 }, { name := "oneByOne", type := (.array .boolean), accessFlags := 18, slot := 4, constantValue := 0 }, { name := "count", type := .long, accessFlags := 2, slot := 5, constantValue := 0 }, { name := "outbox", type := (.object "com/example/kingsround/kingsround/engine/CheckedOutbox"), accessFlags := 18, slot := 6, constantValue := 0 }]
  methods := #[k3m0, k3m1, k3m2, k3m3, k3m4, k3m5]
  instanceTypes := #[(.array (.object "com/example/kingsround/kingsround/engine/Deliveries$Delivered")), (.array .boolean), (.array .int), (.array .byte), (.array .boolean), .long, (.object "com/example/kingsround/kingsround/engine/CheckedOutbox")]
  staticTypes := #[]
  resolved := (Array.replicate 131 none).set! 70 (some (.field 5 1))
  statics := none }

def pool4 : Array CpInfo := pool [(1, .class_ 2), (0, u "com/example/kingsround/kingsround/engine/Inbox"), (0, .class_ 4), (0, u "java/lang/Object"), (0, u "NONE"), (0, u "I"), (12, .class_ 20), (0, u "com/example/kingsround/kingsround/engine/Inbox$Receiver")] 2

/-- com/example/kingsround/kingsround/engine/Inbox -/
def k4 : Class := { plain "com/example/kingsround/kingsround/engine/Inbox" (some 0) with
  accessFlags := 1537
  interfaces := #[]
  cf := some (fileOf pool4 1 #[.nestMembers #[19]] #[] 1537 3 #[] #[{ accessFlags := 25, nameIndex := 5, descriptorIndex := 6, attributes := #[] }])
  fields := #[{ name := "NONE", type := .int, accessFlags := 25, slot := 0, constantValue := 0 }]
  methods := #[]
  instanceTypes := #[]
  staticTypes := #[.int]
  resolved := Array.replicate 23 none
  statics := none }

def pool5 : Array CpInfo := pool [(1, .fieldref 2 3), (0, .class_ 4), (0, .nameAndType 5 6), (0, u "com/example/kingsround/kingsround/engine/Deliveries$Delivered"), (0, u "this$0"), (0, u "Lcom/example/kingsround/kingsround/engine/Deliveries;"), (0, .methodref 8 9), (0, .class_ 10), (0, .nameAndType 11 12), (0, u "java/lang/Object"), (0, u "<init>"), (0, u "()V"), (0, .fieldref 2 14), (0, .nameAndType 15 16), (0, u "to"), (0, u "I"), (0, .fieldref 2 18), (0, .nameAndType 19 20), (0, u "received"), (0, u "[B"), (0, .class_ 22), (0, u "com/example/kingsround/kingsround/engine/Inbox"), (0, .methodref 24 25), (0, .class_ 26), (0, .nameAndType 27 28), (0, u "java/util/Arrays"), (0, u "fill"), (0, u "([BB)V"), (0, .fieldref 30 31), (0, .class_ 32), (0, .nameAndType 33 20), (0, u "com/example/kingsround/kingsround/engine/Deliveries"), (0, u "toAll"), (2, u "value"), (0, u "(I)I"), (6, u "(Lcom/example/kingsround/kingsround/engine/Deliveries;II)V")] 15

def k5c0 : Code := { maxStack := 2, maxLocals := 4, code := prog_67_method_1_code, exceptionTable := #[], attributes := #[] }
def k5m0 : Method := { name := "<init>", desc := "(Lcom/example/kingsround/kingsround/engine/Deliveries;II)V", sig := { parameters := [(.object "com/example/kingsround/kingsround/engine/Deliveries"), .int, .int], returnType := none }, accessFlags := 0, code := some k5c0 }
def k5c1 : Code := { maxStack := 3, maxLocals := 3, code := prog_67_method_2_code, exceptionTable := #[], attributes := #[] }
def k5m1 : Method := { name := "value", desc := "(I)I", sig := { parameters := [.int], returnType := some .int }, accessFlags := 1, code := some k5c1 }
/-- com/example/kingsround/kingsround/engine/Deliveries$Delivered -/
def k5 : Class := { plain "com/example/kingsround/kingsround/engine/Deliveries$Delivered" (some 0) with
  accessFlags := 48
  interfaces := #[4]
  cf := some (fileOf pool5 2 #[.nestHost 30] #[{ accessFlags := 0, nameIndex := 11, descriptorIndex := 44, attributes := #[] }, { accessFlags := 1, nameIndex := 36, descriptorIndex := 37, attributes := #[] }] 48 8 #[21] #[{ accessFlags := 18, nameIndex := 15, descriptorIndex := 16, attributes := #[] }, { accessFlags := 18, nameIndex := 19, descriptorIndex := 20, attributes := #[] }, { accessFlags := 4112, nameIndex := 5, descriptorIndex := 6, attributes := #[] }])
  fields := #[{ name := "to", type := .int, accessFlags := 18, slot := 0, constantValue := 0 }, { name := "received", type := (.array .byte), accessFlags := 18, slot := 1, constantValue := 0 }, { name := "this$0", type := (.object "com/example/kingsround/kingsround/engine/Deliveries"), accessFlags := 4112, slot := 2, constantValue := 0 }]
  methods := #[k5m0, k5m1]
  instanceTypes := #[.int, (.array .byte), (.object "com/example/kingsround/kingsround/engine/Deliveries")]
  staticTypes := #[]
  resolved := Array.replicate 60 none
  statics := none }

def pool6 : Array CpInfo := pool [(2, .class_ 4), (1, u "java/lang/Object"), (0, u "<init>"), (0, u "()V"), (7, .class_ 16), (1, u "java/util/Arrays"), (57, .class_ 76), (1, u "java/util/Arrays$NaturalOrder"), (36, .class_ 115), (1, u "java/util/Arrays$LegacyMergeSort"), (1, u "Z"), (257, .class_ 376), (0, u "java/util/Arrays$ArrayList"), (68, u "$assertionsDisabled"), (269, u "MIN_ARRAY_SORT_GRAN"), (0, u "I"), (2, u "INSERTIONSORT_THRESHOLD"), (120, u "fill"), (9, u "([BB)V"), (124, .class_ 976), (0, u "java/util/Arrays$ArrayItr")] 52

def k6m0 : Method := { name := "<init>", desc := "()V", sig := { parameters := [], returnType := none }, accessFlags := 2, code := none }
def k6c1 : Code := { maxStack := 3, maxLocals := 4, code := jdk_65_method_109_code, exceptionTable := #[], attributes := #[] }
def k6m1 : Method := { name := "fill", desc := "([BB)V", sig := { parameters := [(.array .byte), .byte], returnType := none }, accessFlags := 9, code := some k6c1 }
/-- java/util/Arrays -/
def k6 : Class := { plain "java/util/Arrays" (some 0) with
  accessFlags := 49
  interfaces := #[]
  cf := some (fileOf pool6 14 #[.nestMembers #[975, 375, 113, 74]] #[{ accessFlags := 2, nameIndex := 5, descriptorIndex := 6, attributes := #[] }, { accessFlags := 9, nameIndex := 840, descriptorIndex := 850, attributes := #[] }] 49 2 #[] #[{ accessFlags := 26, nameIndex := 715, descriptorIndex := 716, attributes := #[] }, { accessFlags := 26, nameIndex := 719, descriptorIndex := 716, attributes := #[] }, { accessFlags := 4120, nameIndex := 445, descriptorIndex := 117, attributes := #[] }])
  fields := #[{ name := "MIN_ARRAY_SORT_GRAN", type := .int, accessFlags := 26, slot := 0, constantValue := 0 }, { name := "INSERTIONSORT_THRESHOLD", type := .int, accessFlags := 26, slot := 1, constantValue := 0 }, { name := "$assertionsDisabled", type := .boolean, accessFlags := 4120, slot := 2, constantValue := 0 }]
  methods := #[k6m0, k6m1]
  instanceTypes := #[]
  staticTypes := #[.int, .int, .boolean]
  resolved := Array.replicate 1029 none
  statics := none }

def pool7 : Array CpInfo := pool [(1, .class_ 2), (0, u "java/lang/Cloneable"), (0, .class_ 4), (0, u "java/lang/Object")] 2

/-- java/lang/Cloneable -/
def k7 : Class := { plain "java/lang/Cloneable" (some 0) with
  accessFlags := 1537
  interfaces := #[]
  cf := some (fileOf pool7 1 #[] #[] 1537 3 #[] #[])
  fields := #[]
  methods := #[]
  instanceTypes := #[]
  staticTypes := #[]
  resolved := Array.replicate 7 none
  statics := none }

def pool8 : Array CpInfo := pool [(2, .class_ 4), (1, u "com/example/kingsround/kingsround/engine/Outbox"), (6, .class_ 12), (0, u "java/lang/Object")] 10

/-- com/example/kingsround/kingsround/engine/Outbox -/
def k8 : Class := { plain "com/example/kingsround/kingsround/engine/Outbox" (some 0) with
  accessFlags := 1537
  interfaces := #[]
  cf := some (fileOf pool8 2 #[] #[] 1537 11 #[] #[])
  fields := #[]
  methods := #[]
  instanceTypes := #[]
  staticTypes := #[]
  resolved := Array.replicate 23 none
  statics := none }

def pool9 : Array CpInfo := pool [(1, .methodref 2 3), (0, .class_ 4), (0, .nameAndType 5 6), (0, u "java/lang/Object"), (0, u "<init>"), (0, u "()V"), (0, .fieldref 8 9), (0, .class_ 10), (0, .nameAndType 11 12), (0, u "com/example/kingsround/kingsround/engine/CheckedOutbox"), (0, u "n"), (0, u "I"), (0, .fieldref 8 14), (0, .nameAndType 15 16), (0, u "sink"), (0, u "Lcom/example/kingsround/kingsround/engine/CheckedOutbox$Sink;"), (2, u "from"), (2, u "round"), (15, .class_ 40), (1, u "com/example/kingsround/kingsround/engine/CheckedOutbox$Sink"), (14, .class_ 56), (0, u "com/example/kingsround/kingsround/engine/Outbox"), (2, u "(ILcom/example/kingsround/kingsround/engine/CheckedOutbox$Sink;)V")] 35

def k9c0 : Code := { maxStack := 2, maxLocals := 3, code := prog_62_method_1_code, exceptionTable := #[], attributes := #[] }
def k9m0 : Method := { name := "<init>", desc := "(ILcom/example/kingsround/kingsround/engine/CheckedOutbox$Sink;)V", sig := { parameters := [.int, (.object "com/example/kingsround/kingsround/engine/CheckedOutbox$Sink")], returnType := none }, accessFlags := 0, code := some k9c0 }
/-- com/example/kingsround/kingsround/engine/CheckedOutbox -/
def k9 : Class := { plain "com/example/kingsround/kingsround/engine/CheckedOutbox" (some 0) with
  accessFlags := 48
  interfaces := #[8]
  cf := some (fileOf pool9 8 #[.nestMembers #[38]] #[{ accessFlags := 0, nameIndex := 5, descriptorIndex := 59, attributes := #[] }] 48 2 #[55] #[{ accessFlags := 18, nameIndex := 11, descriptorIndex := 12, attributes := #[] }, { accessFlags := 18, nameIndex := 15, descriptorIndex := 16, attributes := #[] }, { accessFlags := 2, nameIndex := 19, descriptorIndex := 12, attributes := #[] }, { accessFlags := 2, nameIndex := 22, descriptorIndex := 12, attributes := #[] }])
  fields := #[{ name := "n", type := .int, accessFlags := 18, slot := 0, constantValue := 0 }, { name := "sink", type := (.object "com/example/kingsround/kingsround/engine/CheckedOutbox$Sink"), accessFlags := 18, slot := 1, constantValue := 0 }, { name := "from", type := .int, accessFlags := 2, slot := 2, constantValue := 0 }, { name := "round", type := .int, accessFlags := 2, slot := 3, constantValue := 0 }]
  methods := #[k9m0]
  instanceTypes := #[.int, (.object "com/example/kingsround/kingsround/engine/CheckedOutbox$Sink"), .int, .int]
  staticTypes := #[]
  resolved := Array.replicate 95 none
  statics := none }

def pool10 : Array CpInfo := pool [(1, .class_ 2), (0, u "com/example/kingsround/kingsround/engine/CheckedOutbox$Sink"), (0, .class_ 4), (0, u "java/lang/Object"), (11, .class_ 17), (0, u "com/example/kingsround/kingsround/engine/CheckedOutbox")] 2

/-- com/example/kingsround/kingsround/engine/CheckedOutbox$Sink -/
def k10 : Class := { plain "com/example/kingsround/kingsround/engine/CheckedOutbox$Sink" (some 0) with
  accessFlags := 1536
  interfaces := #[]
  cf := some (fileOf pool10 1 #[.nestHost 16] #[] 1536 3 #[] #[])
  fields := #[]
  methods := #[]
  instanceTypes := #[]
  staticTypes := #[]
  resolved := Array.replicate 20 none
  statics := none }

def pool11 : Array CpInfo := pool [(1, .fieldref 2 3), (0, .class_ 4), (0, .nameAndType 5 6), (0, u "com/example/kingsround/kingsround/engine/Deliveries$1"), (0, u "this$0"), (0, u "Lcom/example/kingsround/kingsround/engine/Deliveries;"), (0, .methodref 8 9), (0, .class_ 10), (0, .nameAndType 11 12), (0, u "java/lang/Object"), (0, u "<init>"), (0, u "()V"), (1, .class_ 16), (1, u "com/example/kingsround/kingsround/engine/Deliveries"), (14, .class_ 32), (0, u "com/example/kingsround/kingsround/engine/CheckedOutbox$Sink"), (0, u "(Lcom/example/kingsround/kingsround/engine/Deliveries;)V")] 17

def k11c0 : Code := { maxStack := 2, maxLocals := 2, code := prog_66_method_1_code, exceptionTable := #[], attributes := #[] }
def k11m0 : Method := { name := "<init>", desc := "(Lcom/example/kingsround/kingsround/engine/Deliveries;)V", sig := { parameters := [(.object "com/example/kingsround/kingsround/engine/Deliveries")], returnType := none }, accessFlags := 0, code := some k11c0 }
/-- com/example/kingsround/kingsround/engine/Deliveries$1 -/
def k11 : Class := { plain "com/example/kingsround/kingsround/engine/Deliveries$1" (some 0) with
  accessFlags := 32
  interfaces := #[10]
  cf := some (fileOf pool11 2 #[.nestHost 14] #[{ accessFlags := 0, nameIndex := 11, descriptorIndex := 33, attributes := #[] }] 32 8 #[31] #[{ accessFlags := 4112, nameIndex := 5, descriptorIndex := 6, attributes := #[] }])
  fields := #[{ name := "this$0", type := (.object "com/example/kingsround/kingsround/engine/Deliveries"), accessFlags := 4112, slot := 0, constantValue := 0 }]
  methods := #[k11m0]
  instanceTypes := #[(.object "com/example/kingsround/kingsround/engine/Deliveries")]
  staticTypes := #[]
  resolved := Array.replicate 51 none
  statics := none }

def pool12 : Array CpInfo := pool [(1, u "java/io/Serializable"), (0, .class_ 1), (0, u "java/lang/Object"), (0, .class_ 3)] 3

/-- java/io/Serializable -/
def k12 : Class := { plain "java/io/Serializable" (some 0) with
  accessFlags := 1537
  interfaces := #[]
  cf := some (fileOf pool12 2 #[] #[] 1537 4 #[] #[])
  fields := #[]
  methods := #[]
  instanceTypes := #[]
  staticTypes := #[]
  resolved := Array.replicate 8 none
  statics := none }

/-- the primitive boolean -/
def k13 : Class := { plain "boolean" none with kind := .primitive 'Z', accessFlags := 0x411 }
/-- [Z -/
def k14 : Class := { plain "[Z" (some 0) with kind := .array 13 .boolean, interfaces := #[7, 12], accessFlags := 1041 }

/-- the primitive byte -/
def k15 : Class := { plain "byte" none with kind := .primitive 'B', accessFlags := 0x411 }
/-- [B -/
def k16 : Class := { plain "[B" (some 0) with kind := .array 15 .byte, interfaces := #[7, 12], accessFlags := 1041 }

/-- the primitive int -/
def k17 : Class := { plain "int" none with kind := .primitive 'I', accessFlags := 0x411 }
/-- [I -/
def k18 : Class := { plain "[I" (some 0) with kind := .array 17 .int, interfaces := #[7, 12], accessFlags := 1041 }

/-- [Lcom/example/kingsround/kingsround/engine/Deliveries$Delivered; -/
def k19 : Class := { plain "[Lcom/example/kingsround/kingsround/engine/Deliveries$Delivered;" (some 0) with kind := .array 5 (.object "com/example/kingsround/kingsround/engine/Deliveries$Delivered"), interfaces := #[7, 12], accessFlags := 1041 }

def heap : Heap := #[]
def classes : Array Class := #[k0, k1, k2, k3, k4, k5, k6, k7, k8, k9, k10, k11, k12, k13, k14, k15, k16, k17, k18, k19]
def interned : List (Array UInt16 × Addr) := []
def slotsUsed : Nat := 0
def theMethod : MethodId := ⟨1, 1⟩
def args0 : Array Value := #[.int 1, .int 1, .int 1, .int 1, .int 1]
def aboutOver (below : List Frame) : State where
  vm := { classes := classes, interned := interned.toArray }
  heap := heap
  slotsUsed := slotsUsed
  threads := #[{ frames := .invoking theMethod args0 :: below }]
def below0 : List Frame := [.native { method := ⟨0, 0⟩, args := #[] }]
def about1 : State := aboutOver below0
def p0 : Program := .bare "" "" ""
def e0 : Env := launch0.env 0 0 0
theorem w_frames : about1.frames = Frame.invoking theMethod args0 :: below0 := rfl
set_option maxRecDepth 65536 in
theorem w_args : argsFit about1.vm theMethod args0 = true := by decide +kernel
set_option maxRecDepth 65536 in
theorem w_heap : heapFits about1 = true := by decide +kernel
set_option maxRecDepth 65536 in
theorem w_runnable : about1.curStatus? = some .runnable := by decide +kernel
set_option maxRecDepth 65536 in
theorem w_alone : about1.alone = true := by decide +kernel
set_option maxRecDepth 65536 in
theorem w_named : about1.methodNamed? x = some theMethod := by decide +kernel
set_option maxRecDepth 65536 in
theorem w_hears : about1.hears theMethod below0 = true := by decide +kernel
set_option maxRecDepth 65536 in
theorem w_ripe : about1.ripe theMethod args0 below0 = true := by decide +kernel
theorem w_running : about1.status = .running := rfl
set_option maxRecDepth 65536 in
theorem w_room : about1.hasRoom e0.platform room_1 = true :=
  launch0.hasRoom_least _ room_1 (by decide +kernel) (by decide +kernel) (by decide +kernel) (by decide +kernel) (by decide +kernel) (by decide +kernel)
theorem allAtoms_all (ts : List Jvm.Cond) (a : Array Jvm.Value) (st : Jvm.State) : (allAtoms ts).before a st = ts.all (fun c => c.before a st) := by
  induction ts with
  | nil => rfl
  | cons c t ih =>
    show (Jvm.Cond.and c (allAtoms t)).before a st = _
    rw [Jvm.Cond.before_and, ih, List.all_cons]
def words1 : List Jvm.Cond := Jvm.Cond.code x code maxLocals ret :: tables_1
/-- a 'code' word, met by the world's own term for the bytes: nothing is compared byte by byte -/
theorem code_word {y : MethodName} {bytes : ByteArray} {mx : Nat} {rt : Option FieldType} {a : Array Value} {s : State} {m : MethodId} {meth : Method} {c : Code} (h1 : s.methodNamed? y = some m) (h2 : s.vm.method? m = some meth) (h3 : meth.code = some c) (h4 : c.code = bytes)
    (h5 : (c.maxLocals == mx && c.exceptionTable.isEmpty && decide (c.maxStack ≤ mostOperands) && decide (meth.sig.returnType = rt) && !meth.locks && decide (parseMethodDescriptor y.desc = some meth.sig)) = true) : (Jvm.Cond.code y bytes mx rt).before a s = true := by
  simp only [Bool.and_eq_true, beq_iff_eq, Bool.not_eq_true', decide_eq_true_eq] at h5
  obtain ⟨⟨⟨⟨⟨g1, g2⟩, g3⟩, g4⟩, g5⟩, g6⟩ := h5
  simp [Cond.before, Cond.holds, Cond.value, h1, h2, h3, h4, g1, g2, g3, g4, g5, g6]
def isCode : Jvm.Cond → Bool
  | .code _ _ _ _ => true
  | _ => false
theorem all_split {L : List Jvm.Cond} {P : Jvm.Cond → Bool} (h1 : L.all (fun c => isCode c || P c) = true) (h2 : ∀ c ∈ L.filter isCode, P c = true) : L.all P = true := by
  refine List.all_eq_true.mpr fun c hc => ?_
  have h := List.all_eq_true.mp h1 c hc
  rcases Bool.eq_false_or_eq_true (isCode c) with hi | hi
  · exact h2 c (List.mem_filter.mpr ⟨hc, hi⟩)
  · simpa [hi] using h
set_option maxRecDepth 65536 in
theorem w_c0 : (Jvm.Cond.code x code maxLocals ret).before args0 about1 = true := code_word (m := ⟨1, 1⟩) (meth := k1m1) (c := k1c1) (by decide +kernel) rfl rfl rfl (by decide +kernel)
set_option maxRecDepth 65536 in
theorem w_c1 : (Jvm.Cond.code ({ cls := "com/example/kingsround/kingsround/engine/Deliveries", name := "<init>", desc := "([Z)V" } : Jvm.MethodName) prog_65_method_2_code (4 : Nat) (Option.none : Option Jvm.ClassFile.FieldType)).before args0 about1 = true := code_word (m := ⟨3, 0⟩) (meth := k3m0) (c := k3c0) (by decide +kernel) rfl rfl rfl (by decide +kernel)
set_option maxRecDepth 65536 in
theorem w_c2 : (Jvm.Cond.code ({ cls := "java/lang/Object", name := "<init>", desc := "()V" } : Jvm.MethodName) object_method_1_code (1 : Nat) (Option.none : Option Jvm.ClassFile.FieldType)).before args0 about1 = true := code_word (m := ⟨0, 0⟩) (meth := k0m0) (c := k0c0) (by decide +kernel) rfl rfl rfl (by decide +kernel)
set_option maxRecDepth 65536 in
theorem w_c3 : (Jvm.Cond.code ({ cls := "com/example/kingsround/kingsround/engine/Deliveries$Delivered", name := "<init>", desc := "(Lcom/example/kingsround/kingsround/engine/Deliveries;II)V" } : Jvm.MethodName) prog_67_method_1_code (4 : Nat) (Option.none : Option Jvm.ClassFile.FieldType)).before args0 about1 = true := code_word (m := ⟨5, 0⟩) (meth := k5m0) (c := k5c0) (by decide +kernel) rfl rfl rfl (by decide +kernel)
set_option maxRecDepth 65536 in
theorem w_c4 : (Jvm.Cond.code ({ cls := "java/util/Arrays", name := "fill", desc := "([BB)V" } : Jvm.MethodName) jdk_65_method_109_code (4 : Nat) (Option.none : Option Jvm.ClassFile.FieldType)).before args0 about1 = true := code_word (m := ⟨6, 1⟩) (meth := k6m1) (c := k6c1) (by decide +kernel) rfl rfl rfl (by decide +kernel)
set_option maxRecDepth 65536 in
theorem w_c5 : (Jvm.Cond.code ({ cls := "com/example/kingsround/kingsround/engine/Deliveries", name := "keptParties", desc := "([Z)[I" } : Jvm.MethodName) prog_65_method_13_code (6 : Nat) (Option.some (Jvm.ClassFile.FieldType.array Jvm.ClassFile.FieldType.int))).before args0 about1 = true := code_word (m := ⟨3, 5⟩) (meth := k3m5) (c := k3c5) (by decide +kernel) rfl rfl rfl (by decide +kernel)
set_option maxRecDepth 65536 in
theorem w_c6 : (Jvm.Cond.code ({ cls := "com/example/kingsround/kingsround/engine/Deliveries$1", name := "<init>", desc := "(Lcom/example/kingsround/kingsround/engine/Deliveries;)V" } : Jvm.MethodName) prog_66_method_1_code (2 : Nat) (Option.none : Option Jvm.ClassFile.FieldType)).before args0 about1 = true := code_word (m := ⟨11, 0⟩) (meth := k11m0) (c := k11c0) (by decide +kernel) rfl rfl rfl (by decide +kernel)
set_option maxRecDepth 65536 in
theorem w_c7 : (Jvm.Cond.code ({ cls := "com/example/kingsround/kingsround/engine/CheckedOutbox", name := "<init>", desc := "(ILcom/example/kingsround/kingsround/engine/CheckedOutbox$Sink;)V" } : Jvm.MethodName) prog_62_method_1_code (3 : Nat) (Option.none : Option Jvm.ClassFile.FieldType)).before args0 about1 = true := code_word (m := ⟨9, 0⟩) (meth := k9m0) (c := k9c0) (by decide +kernel) rfl rfl rfl (by decide +kernel)
set_option maxRecDepth 65536 in
theorem w_c8 : (Jvm.Cond.code ({ cls := "com/example/kingsround/kingsround/engine/Deliveries", name := "putToAll", desc := "(II)Z" } : Jvm.MethodName) prog_65_method_10_code (3 : Nat) (Option.some Jvm.ClassFile.FieldType.boolean)).before args0 about1 = true := code_word (m := ⟨3, 4⟩) (meth := k3m4) (c := k3c4) (by decide +kernel) rfl rfl rfl (by decide +kernel)
set_option maxRecDepth 65536 in
theorem w_c9 : (Jvm.Cond.code ({ cls := "com/example/kingsround/kingsround/engine/Deliveries", name := "count", desc := "()J" } : Jvm.MethodName) prog_65_method_4_code (1 : Nat) (Option.some Jvm.ClassFile.FieldType.long)).before args0 about1 = true := code_word (m := ⟨3, 1⟩) (meth := k3m1) (c := k3c1) (by decide +kernel) rfl rfl rfl (by decide +kernel)
set_option maxRecDepth 65536 in
theorem w_c10 : (Jvm.Cond.code ({ cls := "com/example/kingsround/kingsround/engine/Deliveries", name := "value", desc := "(II)I" } : Jvm.MethodName) prog_65_method_5_code (3 : Nat) (Option.some Jvm.ClassFile.FieldType.int)).before args0 about1 = true := code_word (m := ⟨3, 2⟩) (meth := k3m2) (c := k3c2) (by decide +kernel) rfl rfl rfl (by decide +kernel)
set_option maxRecDepth 65536 in
theorem w_c11 : (Jvm.Cond.code ({ cls := "com/example/kingsround/kingsround/engine/Deliveries$Delivered", name := "value", desc := "(I)I" } : Jvm.MethodName) prog_67_method_2_code (3 : Nat) (Option.some Jvm.ClassFile.FieldType.int)).before args0 about1 = true := code_word (m := ⟨5, 1⟩) (meth := k5m1) (c := k5c1) (by decide +kernel) rfl rfl rfl (by decide +kernel)
set_option maxRecDepth 65536 in
theorem w_c12 : (Jvm.Cond.code ({ cls := "com/example/kingsround/kingsround/engine/Deliveries", name := "put", desc := "(III)Z" } : Jvm.MethodName) prog_65_method_9_code (5 : Nat) (Option.some Jvm.ClassFile.FieldType.boolean)).before args0 about1 = true := code_word (m := ⟨3, 3⟩) (meth := k3m3) (c := k3c3) (by decide +kernel) rfl rfl rfl (by decide +kernel)
def codes1 : List Jvm.Cond := [Jvm.Cond.code x code maxLocals ret, Jvm.Cond.code ({ cls := "com/example/kingsround/kingsround/engine/Deliveries", name := "<init>", desc := "([Z)V" } : Jvm.MethodName) prog_65_method_2_code (4 : Nat) (Option.none : Option Jvm.ClassFile.FieldType), Jvm.Cond.code ({ cls := "java/lang/Object", name := "<init>", desc := "()V" } : Jvm.MethodName) object_method_1_code (1 : Nat) (Option.none : Option Jvm.ClassFile.FieldType), Jvm.Cond.code ({ cls := "com/example/kingsround/kingsround/engine/Deliveries$Delivered", name := "<init>", desc := "(Lcom/example/kingsround/kingsround/engine/Deliveries;II)V" } : Jvm.MethodName) prog_67_method_1_code (4 : Nat) (Option.none : Option Jvm.ClassFile.FieldType), Jvm.Cond.code ({ cls := "java/util/Arrays", name := "fill", desc := "([BB)V" } : Jvm.MethodName) jdk_65_method_109_code (4 : Nat) (Option.none : Option Jvm.ClassFile.FieldType), Jvm.Cond.code ({ cls := "com/example/kingsround/kingsround/engine/Deliveries", name := "keptParties", desc := "([Z)[I" } : Jvm.MethodName) prog_65_method_13_code (6 : Nat) (Option.some (Jvm.ClassFile.FieldType.array Jvm.ClassFile.FieldType.int)), Jvm.Cond.code ({ cls := "com/example/kingsround/kingsround/engine/Deliveries$1", name := "<init>", desc := "(Lcom/example/kingsround/kingsround/engine/Deliveries;)V" } : Jvm.MethodName) prog_66_method_1_code (2 : Nat) (Option.none : Option Jvm.ClassFile.FieldType), Jvm.Cond.code ({ cls := "com/example/kingsround/kingsround/engine/CheckedOutbox", name := "<init>", desc := "(ILcom/example/kingsround/kingsround/engine/CheckedOutbox$Sink;)V" } : Jvm.MethodName) prog_62_method_1_code (3 : Nat) (Option.none : Option Jvm.ClassFile.FieldType), Jvm.Cond.code ({ cls := "com/example/kingsround/kingsround/engine/Deliveries", name := "putToAll", desc := "(II)Z" } : Jvm.MethodName) prog_65_method_10_code (3 : Nat) (Option.some Jvm.ClassFile.FieldType.boolean), Jvm.Cond.code ({ cls := "com/example/kingsround/kingsround/engine/Deliveries", name := "count", desc := "()J" } : Jvm.MethodName) prog_65_method_4_code (1 : Nat) (Option.some Jvm.ClassFile.FieldType.long), Jvm.Cond.code ({ cls := "com/example/kingsround/kingsround/engine/Deliveries", name := "value", desc := "(II)I" } : Jvm.MethodName) prog_65_method_5_code (3 : Nat) (Option.some Jvm.ClassFile.FieldType.int), Jvm.Cond.code ({ cls := "com/example/kingsround/kingsround/engine/Deliveries$Delivered", name := "value", desc := "(I)I" } : Jvm.MethodName) prog_67_method_2_code (3 : Nat) (Option.some Jvm.ClassFile.FieldType.int), Jvm.Cond.code ({ cls := "com/example/kingsround/kingsround/engine/Deliveries", name := "put", desc := "(III)Z" } : Jvm.MethodName) prog_65_method_9_code (5 : Nat) (Option.some Jvm.ClassFile.FieldType.boolean)]
set_option maxRecDepth 65536 in
theorem codes_eq : words1.filter isCode = codes1 := rfl
theorem w_codes : ∀ c ∈ words1.filter isCode, c.before args0 about1 = true := by
  rw [codes_eq]
  intro c hc
  simp only [codes1, List.mem_cons, List.not_mem_nil, or_false] at hc
  rcases hc with rfl | rfl | rfl | rfl | rfl | rfl | rfl | rfl | rfl | rfl | rfl | rfl | rfl
  · exact w_c0
  · exact w_c1
  · exact w_c2
  · exact w_c3
  · exact w_c4
  · exact w_c5
  · exact w_c6
  · exact w_c7
  · exact w_c8
  · exact w_c9
  · exact w_c10
  · exact w_c11
  · exact w_c12
set_option maxRecDepth 65536 in
theorem w_t1 : (words1.take 24).all (fun c => isCode c || c.before args0 about1) = true := by decide +kernel
set_option maxRecDepth 65536 in
theorem w_t2 : ((words1.drop 24).take 24).all (fun c => isCode c || c.before args0 about1) = true := by decide +kernel
set_option maxRecDepth 65536 in
theorem w_t3 : (((words1.drop 24).drop 24).take 24).all (fun c => isCode c || c.before args0 about1) = true := by decide +kernel
set_option maxRecDepth 65536 in
theorem w_t4 : ((((words1.drop 24).drop 24).drop 24).take 24).all (fun c => isCode c || c.before args0 about1) = true := by decide +kernel
set_option maxRecDepth 65536 in
theorem w_t5 : ((((words1.drop 24).drop 24).drop 24).drop 24).all (fun c => isCode c || c.before args0 about1) = true := by decide +kernel
theorem w_tables : (allAtoms (Jvm.Cond.code x code maxLocals ret :: tables_1)).before args0 about1 = true := by
  rw [allAtoms_all]
  show words1.all (fun c => c.before args0 about1) = true
  refine all_split ?_ w_codes
  rw [← List.take_append_drop 24 words1, List.all_append, w_t1, ← List.take_append_drop 24 (words1.drop 24), List.all_append, w_t2, ← List.take_append_drop 24 ((words1.drop 24).drop 24), List.all_append, w_t3, ← List.take_append_drop 24 (((words1.drop 24).drop 24).drop 24), List.all_append, w_t4, w_t5]
  rfl
set_option maxRecDepth 65536 in
theorem w_case : (Jvm.Cond.and given_1 narrow_1).before args0 about1 = true := by decide +kernel
theorem w_applies : (headSpec (Jvm.Cond.code x code maxLocals ret :: tables_1) room_1).applies x e0.platform about1 = true :=
  (Spec.applies_iff w_frames).mpr ⟨w_running, w_runnable, w_alone, w_named, w_hears, w_ripe, w_room, w_tables⟩
theorem atStart : AtStart classFile x code maxLocals ret World_1 tables_1 room_1 Calls_1 rest_1 Pre_1 launch0 p0 e0 about1 theMethod args0 below0 :=
  ⟨lists_1, trivial, launch0.admits_env _ _ _, launch0.least_env, fairChoices_fair.cas, fairChoices_fair.clock, w_frames, w_args, w_heap, w_applies, trivial, trivial, w_case⟩
end start1
theorem witness_1 : WitnessClaimed_1 := ⟨start1.p0, start1.e0, start1.about1, start1.theMethod, start1.args0, start1.below0, start1.atStart⟩
end Jvm.Pilot.@@N@@
