import JvmDerived
import JvmDerived.Pilot.@@N@@Statement
import JvmDerived.Pilot.@@N@@Code
set_option linter.unusedVariables false
set_option linter.unusedSimpArgs false
namespace Jvm.RoadKit
open Sem ClassFile Op Lib Jvm.Stand Jvm.Free Jvm.LawKit
section Own
variable {p : Program} {l : Launch} {e : Env} {R : Room} {s : State} {m : MethodId} {args : Array Value} {below : List Frame} {meth : Method} {c : Code} {T T' : State} {locs : List Loc} {cells slots : Nat} {Z : State} {a0 : Array Value} {h h' : Heap}
abbrev own_lv (x : Int64) : Slot := .val (.long x)
abbrev own_S (p : Program) (e : Env) (below : List Frame) (T : State) (m : MethodId) (pc : Nat) (L : Array Slot) (S : List Value) (t : State) : Prop := Steps p.tables e below (T.setTop (mkF m pc L S)) t
/-- in one state, from the second frame to the first -/
abbrev own_V (p : Program) (e : Env) (below : List Frame) (T : State) (f' f : JFrame) : Prop := ∀ t, Steps p.tables e below (T.setTop f') t → Steps p.tables e below (T.setTop f) t
/-- from this frame on the run comes to an end that G says -/
def own_Go (p : Program) (e : Env) (below : List Frame) (G : State → Outcome → Prop) (T : State) (f : JFrame) : Prop :=
  ∃ t o, Steps p.tables e below (T.setTop f) t ∧ G t o
theorem own_st {G : State → Outcome → Prop} {f f' : JFrame} (st : ∀ t, Steps p.tables e below (T'.setTop f') t → Steps p.tables e below (T.setTop f) t) (k : own_Go p e below G T' f') : own_Go p e below G T f := by
  obtain ⟨t, o, h1, h2⟩ := k
  exact ⟨t, o, st t h1, h2⟩
/-- from this frame on the run comes to a state and a frame that P says -/
def own_Pk (p : Program) (e : Env) (below : List Frame) (P : State → JFrame → Prop) (T : State) (f : JFrame) : Prop :=
  ∃ T' f', P T' f' ∧ ∀ t, Steps p.tables e below (T'.setTop f') t → Steps p.tables e below (T.setTop f) t
theorem own_sp {P : State → JFrame → Prop} {f f' : JFrame} (st : ∀ t, Steps p.tables e below (T'.setTop f') t → Steps p.tables e below (T.setTop f) t) (k : own_Pk p e below P T' f') : own_Pk p e below P T f := by
  obtain ⟨T2, f2, h1, h2⟩ := k
  exact ⟨T2, f2, h1, fun t q => st t (h2 t q)⟩
theorem own_pm {P P' : State → JFrame → Prop} {f : JFrame} (k : own_Pk p e below P T f) (q : ∀ T' f', P T' f' → P' T' f') : own_Pk p e below P' T f := by
  obtain ⟨T2, f2, h1, h2⟩ := k
  exact ⟨T2, f2, q _ _ h1, h2⟩
/-- it returned, Q says what, and the frame is kept -/
def own_End (s : State) (below : List Frame) (Q : Option Value → Heap → List Loc → Prop) (C S : Nat) : State → Outcome → Prop := fun t o =>
  t.status = .running ∧ Ended t below o ∧ ∃ v L, o = .returned v ∧ Q v t.heap L ∧ FrameEnd s o t L C S
theorem own_body {y : MethodName} {bytes : ByteArray} {ml : Nat} {rt : Option FieldType} {rm : Room} {as' : Array Value} {h0 : Heap} {Q : Option Value → Heap → List Loc → Prop} {C S : Nat} {ws : List Jvm.Cond} (hp : plainFor y = true)
    (H : ∀ p e s m below meth c s₁, BodyLoose p l y (head1 (Jvm.Cond.code y bytes ml rt :: ws) rm) bytes ml rt e s m as' below meth c s₁ → c.maxLocals = ml → Z.Warmed39 s.vm → s₁.heap = h0 → own_Go p e below (own_End s below Q C S) s₁ (entryFrame m as' ml)) :
    MetFree l y (head1 (Jvm.Cond.code y bytes ml rt :: ws) rm) (fun a U => a = as' ∧ Z.Warmed39 U.vm ∧ U.heap = h0) (fun _ _ _ _ _ => True) (fun _ U o U' => ∃ v L, o = .returned v ∧ Q v U'.heap L ∧ FrameEnd U o U' L C S) := by
  refine MetFree.of_bodySF hp hisR ?_
  intro p e s m args below meth c s₁ Bd hml hP hK
  obtain ⟨rfl, hZ, hh⟩ := hP
  have e0 : s₁.heap = h0 := by rw [← hh, Bd.state]; rfl
  obtain ⟨t, o, h1, h2, h3, h4⟩ := H p e s m below meth c s₁ Bd hml hZ e0
  exact ⟨t, o, h1, h2, h3, h4⟩
/-- a callee's contract -/
abbrev own_Ct (l : Launch) (Z : State) (y : MethodName) (bytes : ByteArray) (ml : Nat) (rt : Option FieldType) (rm : Room) (as' : Array Value) (h0 : Heap) (Q : Option Value → Heap → List Loc → Prop) : Prop :=
  MetFree l y (head1 [Jvm.Cond.code y bytes ml rt] rm) (fun a U => a = as' ∧ Z.Warmed39 U.vm ∧ U.heap = h0) (fun _ _ _ _ _ => True) (fun _ U o U' => ∃ v L, o = .returned v ∧ Q v U'.heap L ∧ FrameEnd U o U' L rm.cells rm.slots)
section Ret
variable {Q : Option Value → Heap → List Loc → Prop} {C S : Nat}
theorem own_out {v : Option Value} {f : JFrame} (X : Stand p l e R s m args below meth c T locs cells slots) (hv : meth.sig.returnType = none → v = none) (hlocks : meth.locks = false) (hC : cells ≤ C) (hS : slots ≤ S) (eT : T.heap = h) (hq : Q v h locs)
    (go : ∀ fs, (∀ (f : JFrame) (acts : List Action), f.method = m → f.locked = none → f.entered = [] → (doReturn e (T.setTop f) acts v).1 = T.setFrames fs) → Steps p.tables e below (T.setTop f) (T.setFrames fs)) :
    own_Go p e below (own_End s below Q C S) T f := by
  obtain ⟨fs, hr, hrun, hended, hW, hsame⟩ := X.leave (v := v) hv hlocks
  refine ⟨_, _, go fs hr, hrun, hended, _, _, rfl, ?_, ⟨_, rfl⟩, hW, hsame.mono hC hS⟩
  show Q v T.heap locs
  rw [eT]; exact hq
theorem own_retI (X : Stand p l e R s m args below meth c T locs cells slots) (hx : p.tables.exec = Jvm.exec) (hlocks : meth.locks = false) (hret : meth.sig.returnType = some .int) {pc : Nat} {Ls : Array Slot} {z : Int32} {rest : List Value} (hd : decode c.code pc = .ok (.ireturn, 1)) (hC : cells ≤ C) (hS : slots ≤ S) (eT : T.heap = h) (hq : Q (some (.int z)) h locs) :
    own_Go p e below (own_End s below Q C S) T (mkF m pc Ls (.int z :: rest)) :=
  own_out X (fun q => by rw [hret] at q; cases q) hlocks hC hS eT hq fun fs hr => retOut X hx hret rfl (Or.inl ⟨rfl, Or.inl rfl, z, rfl⟩) hd hr
theorem own_retZ (X : Stand p l e R s m args below meth c T locs cells slots) (hx : p.tables.exec = Jvm.exec) (hlocks : meth.locks = false) (hret : meth.sig.returnType = some .boolean) {pc : Nat} {Ls : Array Slot} {z : Int32} {rest : List Value} (hd : decode c.code pc = .ok (.ireturn, 1)) (hz : z = 0 ∨ z = 1) (hC : cells ≤ C) (hS : slots ≤ S) (eT : T.heap = h) (hq : Q (some (.int z)) h locs) :
    own_Go p e below (own_End s below Q C S) T (mkF m pc Ls (.int z :: rest)) :=
  own_out X (fun q => by rw [hret] at q; cases q) hlocks hC hS eT hq fun fs hr => retN X hx hret (Or.inl rfl) hd (by
    have : nar .boolean z = z := by rcases hz with rfl | rfl <;> decide
    rw [this]; exact hr)
theorem own_retB (X : Stand p l e R s m args below meth c T locs cells slots) (hx : p.tables.exec = Jvm.exec) (hlocks : meth.locks = false) (hret : meth.sig.returnType = some .byte) {pc : Nat} {Ls : Array Slot} {z : Int32} {rest : List Value} (hd : decode c.code pc = .ok (.ireturn, 1)) (hz : nar .byte z = z) (hC : cells ≤ C) (hS : slots ≤ S) (eT : T.heap = h) (hq : Q (some (.int z)) h locs) :
    own_Go p e below (own_End s below Q C S) T (mkF m pc Ls (.int z :: rest)) :=
  own_out X (fun q => by rw [hret] at q; cases q) hlocks hC hS eT hq fun fs hr => retN X hx hret (Or.inr (Or.inl rfl)) hd (by rw [hz]; exact hr)
theorem own_retJ (X : Stand p l e R s m args below meth c T locs cells slots) (hx : p.tables.exec = Jvm.exec) (hlocks : meth.locks = false) (hret : meth.sig.returnType = some .long) {pc : Nat} {Ls : Array Slot} {z : Int64} {rest : List Value} (hd : decode c.code pc = .ok (.lreturn, 1)) (hC : cells ≤ C) (hS : slots ≤ S) (eT : T.heap = h) (hq : Q (some (.long z)) h locs) :
    own_Go p e below (own_End s below Q C S) T (mkF m pc Ls (.long z :: rest)) :=
  own_out X (fun q => by rw [hret] at q; cases q) hlocks hC hS eT hq fun fs hr => retOut X hx hret rfl (Or.inr (Or.inl ⟨rfl, rfl, z, rfl⟩)) hd hr
theorem own_retR {t : FieldType} {w : Value} (X : Stand p l e R s m args below meth c T locs cells slots) (hx : p.tables.exec = Jvm.exec) (hlocks : meth.locks = false) (hret : meth.sig.returnType = some t) (ht : t.isReference = true) (hw : w.isRef = true) {pc : Nat} {Ls : Array Slot} {rest : List Value} (hd : decode c.code pc = .ok (.areturn, 1)) (hC : cells ≤ C) (hS : slots ≤ S) (eT : T.heap = h) (hq : Q (some w) h locs) :
    own_Go p e below (own_End s below Q C S) T (mkF m pc Ls (w :: rest)) :=
  own_out X (fun q => by rw [hret] at q; cases q) hlocks hC hS eT hq fun fs hr => retOut X hx hret (by cases t <;> cases w <;> first | rfl | (cases ht; done) | (cases hw; done)) (Or.inr (Or.inr (Or.inr (Or.inr ⟨rfl, ht, hw⟩)))) hd hr
theorem own_retV (X : Stand p l e R s m args below meth c T locs cells slots) (hx : p.tables.exec = Jvm.exec) (hlocks : meth.locks = false) (hret : meth.sig.returnType = none) {pc : Nat} {Ls : Array Slot} (hd : decode c.code pc = .ok (.return_, 1)) (hC : cells ≤ C) (hS : slots ≤ S) (eT : T.heap = h) (hq : Q none h locs) :
    own_Go p e below (own_End s below Q C S) T (mkF m pc Ls []) :=
  own_out X (fun _ => rfl) hlocks hC hS eT hq fun fs hr => X.returnOut hx hret hd hr
end Ret
section Call
variable {own : String} {index : Nat} {y : MethodName} {bytes : ByteArray} {ml : Nat} {rt : Option FieldType} {rm : Room} {Q : Option Value → Heap → List Loc → Prop} {g : JFrame} {argsL rest : List Value} {W : Nat}
theorem own_callS (X : Stand p l e R s m args below meth c T locs cells slots) (hx : p.tables.exec = Jvm.exec) (hZ : Z.Warmed39 s.vm) (hown : s.vm.findClass own = some m.cls)
    (w1 : (Jvm.Cond.methodLink own index y).before a0 Z = true) (w2 : (Jvm.Cond.static y).before a0 Z = true) (w3 : (Jvm.Cond.initialized y.cls).before a0 Z = true) (w4 : (Jvm.Cond.code y bytes ml rt).before a0 Z = true)
    (hy : y.cls ≠ "java/lang/invoke/MethodHandle" ∧ y.cls ≠ "java/lang/invoke/VarHandle") (ct : own_Ct l Z y bytes ml rt rm argsL.toArray h Q) (eT : T.heap = h) (hg : g.method = m) (hsize : g.locals.size = c.maxLocals)
    (hlen : ∀ sig, parseMethodDescriptor y.desc = some sig → argsL.length = sig.parameters.length) (hstack : g.stack = argsL.reverse ++ rest) (hW : 2 * g.monitorRoom + (rest.map fun v => v.category).sum ≤ W) (hdg : decode c.code g.pc = .ok (.invokestatic index, 3))
    (hf : rm.frames + 1 ≤ R.frames) (hl : W + (ml + 11) + rm.locals ≤ R.locals) (hc : cells + rm.cells ≤ R.cells) (hs : slots + rm.slots ≤ R.slots) :
    ∃ v T' L, Stand p l e R s m args below meth c T' (locs ++ L) (cells + rm.cells) (slots + rm.slots) ∧ Q v T'.heap L ∧ ∀ target, Steps p.tables e below (T'.setTop { g with pc := g.pc + 3, stack := v.toList ++ rest }) target → Steps p.tables e below (T.setTop g) target := by
  obtain ⟨v, vm1, ⟨T1, L1, k1, n1⟩, -, X1, ⟨L, hQ, h1, h2, h3⟩, st⟩ := Jvm.LawKit.callS X hx hown (mvT hZ w1) (mvT hZ w2) (mvT hZ w3) (mvT hZ w4) hy (backOf (W := W) ct hZ w4 w3 hf hl) hg hsize hlen hstack hW hdg (fun _ _ => ⟨rfl, eT, hc, hs⟩)
  dsimp only [Pt.U, Pt.locs, Pt.cells, Pt.slots] at X1 h1 h2 h3 hQ st
  subst h1 h2 h3
  exact ⟨v, T1, L, X1, hQ, st⟩
theorem own_callI {a : Addr} (X : Stand p l e R s m args below meth c T locs cells slots) (hx : p.tables.exec = Jvm.exec) (hZ : Z.Warmed39 s.vm) (hown : s.vm.findClass own = some m.cls) (hy1 : y.name = "<init>")
    (w1 : (Jvm.Cond.methodLink own index y).before a0 Z = true) (w2 : (Jvm.Cond.instanceMethod y).before a0 Z = true) (w3 : (Jvm.Cond.initialized y.cls).before a0 Z = true) (w4 : (Jvm.Cond.code y bytes ml none).before a0 Z = true)
    (hy : y.cls ≠ "java/lang/invoke/MethodHandle" ∧ y.cls ≠ "java/lang/invoke/VarHandle") (ct : own_Ct l Z y bytes ml none rm (.ref a :: argsL).toArray h Q) (eT : T.heap = h) (hg : g.method = m) (hsize : g.locals.size = c.maxLocals)
    (hlen : ∀ sig, parseMethodDescriptor y.desc = some sig → argsL.length = sig.parameters.length) (hstack : g.stack = argsL.reverse ++ .ref a :: rest) (hW : 2 * g.monitorRoom + (rest.map fun v => v.category).sum ≤ W) (hdg : decode c.code g.pc = .ok (.invokespecial index, 3))
    (hf : rm.frames + 1 ≤ R.frames) (hl : W + (ml + 11) + rm.locals ≤ R.locals) (hc : cells + rm.cells ≤ R.cells) (hs : slots + rm.slots ≤ R.slots) :
    ∃ v T' L, Stand p l e R s m args below meth c T' (locs ++ L) (cells + rm.cells) (slots + rm.slots) ∧ Q v T'.heap L ∧ ∀ target, Steps p.tables e below (T'.setTop { g with pc := g.pc + 3, stack := v.toList ++ rest }) target → Steps p.tables e below (T.setTop g) target := by
  obtain ⟨v, vm1, ⟨T1, L1, k1, n1⟩, -, X1, ⟨L, hQ, h1, h2, h3⟩, st⟩ := X.specialBack hx hy1 hown (mvT hZ w1) (mvT hZ w2) (mvT hZ w4) hy (backOf (W := W) ct hZ w4 w3 hf hl) hg hsize (Steps.refl _) hlen hstack hW hdg (fun _ _ => ⟨rfl, eT, hc, hs⟩)
  dsimp only [Pt.U, Pt.locs, Pt.cells, Pt.slots] at X1 h1 h2 h3 hQ st
  subst h1 h2 h3
  exact ⟨v, T1, L, X1, hQ, fun t k => st.trans k⟩
theorem own_callV {a : Addr} {C : String} (X : Stand p l e R s m args below meth c T locs cells slots) (hx : p.tables.exec = Jvm.exec) (hZ : Z.Warmed39 s.vm) (hown : s.vm.findClass own = some m.cls) (E : Exa Z h a C) {y0 : MethodName}
    (w1 : (Jvm.Cond.methodLink own index y0).before a0 Z = true) (w2 : (Jvm.Cond.declares y0).before a0 Z = true) (w5 : (Jvm.Cond.selects C y0 y).before a0 Z = true) (nf : NotFace s y0) (w6 : (Jvm.Cond.instanceMethod y).before a0 Z = true) (w3 : (Jvm.Cond.initialized y.cls).before a0 Z = true) (w4 : (Jvm.Cond.code y bytes ml rt).before a0 Z = true)
    (hy : y0.cls ≠ "java/lang/invoke/MethodHandle" ∧ y0.cls ≠ "java/lang/invoke/VarHandle") (ct : own_Ct l Z y bytes ml rt rm (.ref a :: argsL).toArray h Q) (eT : T.heap = h) (hg : g.method = m) (hsize : g.locals.size = c.maxLocals)
    (hlen : ∀ sig, parseMethodDescriptor y0.desc = some sig → argsL.length = sig.parameters.length) (hstack : g.stack = argsL.reverse ++ .ref a :: rest) (hW : 2 * g.monitorRoom + (rest.map fun v => v.category).sum ≤ W) (hdg : decode c.code g.pc = .ok (.invokevirtual index, 3))
    (hf : rm.frames + 1 ≤ R.frames) (hl : W + (ml + 11) + rm.locals ≤ R.locals) (hc : cells + rm.cells ≤ R.cells) (hs : slots + rm.slots ≤ R.slots) :
    ∃ v T' L, Stand p l e R s m args below meth c T' (locs ++ L) (cells + rm.cells) (slots + rm.slots) ∧ Q v T'.heap L ∧ ∀ target, Steps p.tables e below (T'.setTop { g with pc := g.pc + 3, stack := v.toList ++ rest }) target → Steps p.tables e below (T.setTop g) target := by
  obtain ⟨cq, kq, qa, qb, qc⟩ := isOf hZ eT E
  obtain ⟨v, vm1, ⟨T1, L1, k1, n1⟩, -, X1, ⟨L, hQ, h1, h2, h3⟩, st⟩ := X.virtualBack hx (y := y0) (z := y) hown (mvT hZ w1) (mvT hZ w2) nf (mvT hZ w5) (mvT hZ w6) hy (backOf (W := W) ct hZ w4 w3 hf hl) qa qc hg hsize (Steps.refl _) hlen hstack hW hdg (fun _ _ => ⟨rfl, eT, hc, hs⟩)
  dsimp only [Pt.U, Pt.locs, Pt.cells, Pt.slots] at X1 h1 h2 h3 hQ st
  subst h1 h2 h3
  exact ⟨v, T1, L, X1, hQ, fun t k => st.trans k⟩
theorem own_callP {a : Addr} {C C0 : String} {x z : MethodName} (X : Stand p l e R s m args below meth c T locs cells slots) (hx : p.tables.exec = Jvm.exec) (hZ : Z.Warmed39 s.vm) (hown : s.vm.findClass own = some m.cls) (E : Exa Z h a C0) (hz : z.cls = y.cls)
    (w1 : (Jvm.Cond.methodLink own index y).before a0 Z = true) (w2 : (Jvm.Cond.instanceMethod y).before a0 Z = true) (w5 : (Jvm.Cond.selects C x z).before a0 Z = true) (wp : (Jvm.Cond.privateMethod y).before a0 Z = true) (w3 : (Jvm.Cond.initialized y.cls).before a0 Z = true) (w4 : (Jvm.Cond.code y bytes ml rt).before a0 Z = true)
    (hy : y.cls ≠ "java/lang/invoke/MethodHandle" ∧ y.cls ≠ "java/lang/invoke/VarHandle") (ct : own_Ct l Z y bytes ml rt rm (.ref a :: argsL).toArray h Q) (eT : T.heap = h) (hg : g.method = m) (hsize : g.locals.size = c.maxLocals)
    (hlen : ∀ sig, parseMethodDescriptor y.desc = some sig → argsL.length = sig.parameters.length) (hstack : g.stack = argsL.reverse ++ .ref a :: rest) (hW : 2 * g.monitorRoom + (rest.map fun v => v.category).sum ≤ W) (hdg : decode c.code g.pc = .ok (.invokevirtual index, 3))
    (hf : rm.frames + 1 ≤ R.frames) (hl : W + (ml + 11) + rm.locals ≤ R.locals) (hc : cells + rm.cells ≤ R.cells) (hs : slots + rm.slots ≤ R.slots) :
    ∃ v T' L, Stand p l e R s m args below meth c T' (locs ++ L) (cells + rm.cells) (slots + rm.slots) ∧ Q v T'.heap L ∧ ∀ target, Steps p.tables e below (T'.setTop { g with pc := g.pc + 3, stack := v.toList ++ rest }) target → Steps p.tables e below (T.setTop g) target := by
  obtain ⟨cq, q1, q2⟩ := E.cell
  have hp : s.PrivateAt y := Cond.privateMethod_at (mvP hZ wp (args := #[]))
  have w5' : (Jvm.Cond.selects C x z).before args s = true := mvT hZ w5
  obtain ⟨c2, r2, m2, -, -, q3, -, kP, hkP, hkPi⟩ := Cond.selects_spec w5'
  have hcl : s.vm.findClass y.cls = some m2.cls := hz ▸ findClass_of_methodNamed q3
  have hsel : (Jvm.Cond.selects y.cls y y).before args s = true := selects_self_of_private hcl hkP hkPi hp (mvT hZ w2) hy
  obtain ⟨v, vm1, ⟨T1, L1, k1, n1⟩, -, X1, ⟨L, hQ, h1, h2, h3⟩, st⟩ := X.privateBack hx hown (mvT hZ w1) (mvT hZ w2) hsel hp (mvT hZ w4) hy (backOf (W := W) ct hZ w4 w3 hf hl) hg hsize (Steps.refl _) (a := a) (by rw [eT]; exact q1) q2 hlen hstack hW hdg (fun _ _ => ⟨rfl, eT, hc, hs⟩)
  dsimp only [Pt.U, Pt.locs, Pt.cells, Pt.slots] at X1 h1 h2 h3 hQ st
  subst h1 h2 h3
  exact ⟨v, T1, L, X1, hQ, fun t k => st.trans k⟩
theorem own_callF {a : Addr} {C : String} {count : Nat} (X : Stand p l e R s m args below meth c T locs cells slots) (hx : p.tables.exec = Jvm.exec) (hZ : Z.Warmed39 s.vm) (hown : s.vm.findClass own = some m.cls) (E : Exa Z h a C) {y0 : MethodName}
    (w1 : (Jvm.Cond.methodLink own index y0).before a0 Z = true) (w2 : (Jvm.Cond.declares y0).before a0 Z = true) (wf : (Jvm.Cond.interfaceMethod y0.cls y0.cls y0.name y0.desc).before args s = true) (w5 : (Jvm.Cond.selects C y0 y).before a0 Z = true) (w6 : (Jvm.Cond.instanceMethod y).before a0 Z = true) (wp : (Jvm.Cond.publicMethod y).before a0 Z = true) (wu : (Jvm.Cond.unhidden C y0.name y0.desc).before a0 Z = true) (wk : (Jvm.Cond.castable C y0.cls).before a0 Z = true) (w3 : (Jvm.Cond.initialized y.cls).before a0 Z = true) (w4 : (Jvm.Cond.code y bytes ml rt).before a0 Z = true)
    (hy : y0.cls ≠ "java/lang/invoke/MethodHandle" ∧ y0.cls ≠ "java/lang/invoke/VarHandle") (ct : own_Ct l Z y bytes ml rt rm (.ref a :: argsL).toArray h Q) (eT : T.heap = h) (hg : g.method = m) (hsize : g.locals.size = c.maxLocals)
    (hlen : ∀ sig, parseMethodDescriptor y0.desc = some sig → argsL.length = sig.parameters.length) (hstack : g.stack = argsL.reverse ++ .ref a :: rest) (hW : 2 * g.monitorRoom + (rest.map fun v => v.category).sum ≤ W) (hdg : decode c.code g.pc = .ok (.invokeinterface index count, 5))
    (hf : rm.frames + 1 ≤ R.frames) (hl : W + (ml + 11) + rm.locals ≤ R.locals) (hc : cells + rm.cells ≤ R.cells) (hs : slots + rm.slots ≤ R.slots) :
    ∃ v T' L, Stand p l e R s m args below meth c T' (locs ++ L) (cells + rm.cells) (slots + rm.slots) ∧ Q v T'.heap L ∧ ∀ target, Steps p.tables e below (T'.setTop { g with pc := g.pc + 5, stack := v.toList ++ rest }) target → Steps p.tables e below (T.setTop g) target := by
  obtain ⟨cq, kq, qa, qb, qc⟩ := isOf hZ eT E
  obtain ⟨v, vm1, ⟨T1, L1, k1, n1⟩, -, X1, ⟨L, hQ, h1, h2, h3⟩, st⟩ := X.interfaceBack hx (xi := y0) (y := y) hown (mvT hZ w1) (mvT hZ w2) wf (mvT hZ w5) (mvT hZ w6) (mvT hZ wp) (mvT hZ wu) (mvT hZ wk) hy (backOf (W := W) ct hZ w4 w3 hf hl) qa qb qc hg hsize (Steps.refl _) hlen hstack hW hdg (fun _ _ => ⟨rfl, eT, hc, hs⟩)
  dsimp only [Pt.U, Pt.locs, Pt.cells, Pt.slots] at X1 h1 h2 h3 hQ st
  subst h1 h2 h3
  exact ⟨v, T1, L, X1, hQ, fun t k => st.trans k⟩
end Call
/-- getfield by an entry that is resolved already -/
theorem own_getR {O n d : String} {a : Addr} {v : Value} (X : Stand p l e R s m args below meth c T locs cells slots) (hx : p.tables.exec = Jvm.exec) (hZ : Z.Warmed39 s.vm) {own : String} {index : Nat} (hown : s.vm.findClass own = some m.cls) (w : (Jvm.Cond.fieldRef own index O n d).before a0 Z = true) (eT : T.heap = h) (F : Fld Z h a O n d v)
    {g : JFrame} (hg : g.method = m) {rest : List Value} (hs : g.stack = .ref a :: rest) (hd : decode c.code g.pc = .ok (.getfield index, 3)) :
    ∀ t, Steps p.tables e below (T.setTop { g with pc := g.pc + 3, stack := v :: rest }) t → Steps p.tables e below (T.setTop g) t := by
  have hT : Z.Warmed39 T.vm := wtrans hZ X.warmed
  have w' := Cond.fieldRef_warmed39 hT w
  have hownT : (Z.setVm T.vm).vm.findClass own = some m.cls := by
    show T.vm.findClass own = _
    rw [X.warmed.alike.findClass]; exact hown
  obtain ⟨c1, k1, i1, f1, q1, q2⟩ := Cond.fieldRef_spec hownT w'
  obtain ⟨cell, cf, k, i, f, h1, h2, h3, h4, -, -, h7⟩ := F
  obtain ⟨k', hi, -⟩ := State.fieldFound?_setVm (s := Z) hT.alike h2
  cases q1.symm.trans hi
  exact fun t kt => (X.getfieldR hx hg q2 h3 hs (by rw [eT]; exact h1) h4 h7 hd (Steps.refl _)).trans kt
theorem own_Sta.keep {C n d : String} {v : Value} (S : Sta Z h C n d v) (K : Keep h h' []) : Sta Z h' C n d v := by
  obtain ⟨cf, i, k, f, st, cell, h1, h2, h3, h4, h5, h6, h7⟩ := S
  exact ⟨cf, i, k, f, st, cell, h1, h2, h3, h4, K.2.1 _ _ h5 nin0, h6, h7⟩
theorem own_imod (x y : Int32) : x - (x / y) * y = x % y := by
  apply Int32.toInt_inj.mp
  have h1 := rng32 (x % y)
  rw [Int32.toInt_sub, Int32.toInt_mul, Int32.toInt_div, Int.bmod_mul_bmod, Int.sub_bmod_bmod, Int.mul_comm (x.toInt.tdiv y.toInt), ← Int.tmod_def, ← Int32.toInt_mod]
  exact Int.bmod_eq_of_le_mul_two (by omega) (by omega)
theorem own_irem {T target : State} {g : JFrame} (h : At T m c below) (hx : p.tables.exec = Jvm.exec) (hg : g.method = m) {x y : Int32} {rest : List Value} (hd : decode c.code g.pc = .ok (.irem, 1)) (hs : g.stack = .int y :: .int x :: rest) (hy : y ≠ 0)
    (hr : Steps p.tables e below (T.setTop { g with pc := g.pc + 1, stack := .int (x % y) :: rest }) target) : Steps p.tables e below (T.setTop g) target := by
  refine XS.irem h hx hg hd hs hy ?_
  rw [own_imod x y]
  exact hr
section Cmp
theorem own_tltL {x y : Int64} (h : x < y) : ifCond.holds .lt (lcmpW x y) = true ∧ ifCond.holds .ge (lcmpW x y) = false := by
  rw [if0, if0]; exact ⟨(tlt ((lw_lt x y).mpr h)).1, (tlt ((lw_lt x y).mpr h)).2.1⟩
theorem own_fltL {x y : Int64} (h : ¬ x < y) : ifCond.holds .lt (lcmpW x y) = false ∧ ifCond.holds .ge (lcmpW x y) = true := by
  have q : ¬ lcmpW x y < 0 := fun q => h ((lw_lt x y).mp q)
  rw [if0, if0]; exact ⟨(flt q).1, (flt q).2.1⟩
theorem own_tgtL {x y : Int64} (h : y < x) : ifCond.holds .gt (lcmpW x y) = true ∧ ifCond.holds .le (lcmpW x y) = false := by
  rw [if0, if0]; exact ⟨(tlt ((lw_gt x y).mpr h)).2.2.1, (tlt ((lw_gt x y).mpr h)).2.2.2⟩
theorem own_fgtL {x y : Int64} (h : ¬ y < x) : ifCond.holds .gt (lcmpW x y) = false ∧ ifCond.holds .le (lcmpW x y) = true := by
  have q : ¬ 0 < lcmpW x y := fun q => h ((lw_gt x y).mp q)
  rw [if0, if0]; exact ⟨(flt q).2.2.1, (flt q).2.2.2⟩
theorem own_teqL {x y : Int64} (h : x = y) : ifCond.holds .eq (lcmpW x y) = true ∧ ifCond.holds .ne (lcmpW x y) = false := by
  rw [if0, if0]; exact ⟨(teq ((lw_eq x y).mpr h)).1, (teq ((lw_eq x y).mpr h)).2⟩
theorem own_feqL {x y : Int64} (h : ¬ x = y) : ifCond.holds .eq (lcmpW x y) = false ∧ ifCond.holds .ne (lcmpW x y) = true := by
  have q : ¬ lcmpW x y = 0 := fun q => h ((lw_eq x y).mp q)
  rw [if0, if0]; exact ⟨(feq q).1, (feq q).2⟩
end Cmp
/-- an array: its kind, its length, its values -/
def own_AV (Z : State) (h : Heap) (a : Addr) (ty : FieldType) (n : Nat) (f : Nat → Value) : Prop :=
  ∃ cl : Cell, Arr Z h a cl ty ∧ cl.slots.size = n ∧ (∀ i, i < n → cl.slots[i]? = some (f i)) ∧ ∀ i, i < n → fits ty (f i) = true
/-- an array of int-like values -/
def own_AI (Z : State) (h : Heap) (a : Addr) (ty : FieldType) (n : Nat) (f : Nat → Int32) : Prop := own_AV Z h a ty n (fun i => .int (f i))
def own_AL (Z : State) (h : Heap) (a : Addr) (n : Nat) (f : Nat → Int64) : Prop := own_AV Z h a .long n (fun i => .long (f i))
def own_updV (f : Nat → Value) (k : Nat) (v : Value) : Nat → Value := fun i => if i = k then v else f i
def own_upd (f : Nat → Int32) (k : Nat) (v : Int32) : Nat → Int32 := fun i => if i = k then v else f i
def own_updL (f : Nat → Int64) (k : Nat) (v : Int64) : Nat → Int64 := fun i => if i = k then v else f i
theorem own_idx {j : Int32} {k n : Nat} {cl : Cell} (S : cl.slots.size = n) (hj : j.toInt = (k : Int)) (hk : k < n) : ¬ (j < 0 ∨ cl.slots.size ≤ j.toNatClampNeg) ∧ j.toNatClampNeg = k := by
  have e0 : (0 : Int32).toInt = 0 := by decide
  have e1 : j.toNatClampNeg = k := by
    show j.toInt.toNat = k
    rw [hj]; rfl
  refine ⟨?_, e1⟩
  rintro (q | q)
  · rw [Int32.lt_iff_toInt_lt, e0, hj] at q; omega
  · rw [e1, S] at q; omega
section AV
variable {a b : Addr} {ty : FieldType} {n : Nat} {f : Nat → Value}
theorem own_AV.lt (A : own_AV Z h a ty n f) : a < h.size := by obtain ⟨cl, h1, -⟩ := A; exact h1.lt
theorem own_AV.ext (A : own_AV Z h a ty n f) (E : Ext h h') : own_AV Z h' a ty n f := by obtain ⟨cl, h1, r⟩ := A; exact ⟨cl, h1.ext E, r⟩
theorem own_AV.other (A : own_AV Z h b ty n f) {sl : Nat} {v : Value} (W : Wr h h' a sl v) (q : b ≠ a) : own_AV Z h' b ty n f := by obtain ⟨cl, h1, r⟩ := A; exact ⟨cl, h1.other W q, r⟩
theorem own_AV.keep {ws : List Addr} (A : own_AV Z h a ty n f) (K : Keep h h' ws) (q : a ∉ ws) : own_AV Z h' a ty n f := by obtain ⟨cl, h1, r⟩ := A; exact ⟨cl, ⟨K.2.1 a cl h1.1 q, h1.2⟩, r⟩
theorem own_AV.congr {g : Nat → Value} (A : own_AV Z h a ty n f) (q : ∀ i, i < n → f i = g i) : own_AV Z h a ty n g := by
  obtain ⟨cl, h1, h2, h3, h4⟩ := A
  exact ⟨cl, h1, h2, fun i hi => by rw [← q i hi]; exact h3 i hi, fun i hi => by rw [← q i hi]; exact h4 i hi⟩
theorem own_AV.new {cA : ClassId} {z : Int32} (A : Arr Z h a (newA cA ty z) ty) (hn : z.toNatClampNeg = n) (hf : fits ty (defaultValue ty) = true) : own_AV Z h a ty n (fun _ => defaultValue ty) :=
  ⟨_, A, by rw [sz_new, hn], fun i hi => by subst hn; simp only [newA, Array.getElem?_replicate, hi, if_true], fun _ _ => hf⟩
theorem own_AV.set {k : Nat} {v : Value} (F : own_AV Z h a ty n f) (hk : k < n) (hv : fits ty v = true) (W : Wr h h' a k v) : own_AV Z h' a ty n (own_updV f k v) := by
  obtain ⟨cl, A, S, H, G⟩ := F
  refine ⟨_, A.same W, by rw [sz_set, S], fun i hi => ?_, fun i hi => ?_⟩
  · by_cases q : i = k
    · subst q; simp [Cell.setSlot, own_updV, S, hk]
    · have q' : ¬ k = i := fun r => q r.symm
      simp only [Cell.setSlot, own_updV, q, if_false]
      rw [Array.getElem?_setIfInBounds_ne q']
      exact H i hi
  · by_cases q : i = k
    · simp only [own_updV, q, if_true]; exact hv
    · simp only [own_updV, q, if_false]; exact G i hi
end AV
theorem own_ninS {x y : Nat} {L : List Nat} (q : x ≠ y) (r : x ∉ L) : x ∉ y :: L := ninS q r
theorem own_AL.congr {a : Addr} {n : Nat} {f g : Nat → Int64} (A : own_AL Z h a n f) (q : ∀ i, i < n → f i = g i) : own_AL Z h a n g := own_AV.congr A fun i hi => congrArg Value.long (q i hi)
section AI
variable {a b : Addr} {ty : FieldType} {n : Nat} {f : Nat → Int32}
theorem own_AI.lt (A : own_AI Z h a ty n f) : a < h.size := own_AV.lt A
theorem own_AI.ext (A : own_AI Z h a ty n f) (E : Ext h h') : own_AI Z h' a ty n f := own_AV.ext A E
theorem own_AI.other (A : own_AI Z h b ty n f) {sl : Nat} {v : Value} (W : Wr h h' a sl v) (q : b ≠ a) : own_AI Z h' b ty n f := own_AV.other A W q
theorem own_AI.keep {ws : List Addr} (A : own_AI Z h a ty n f) (K : Keep h h' ws) (q : a ∉ ws) : own_AI Z h' a ty n f := own_AV.keep A K q
theorem own_AI.congr {g : Nat → Int32} (A : own_AI Z h a ty n f) (q : ∀ i, i < n → f i = g i) : own_AI Z h a ty n g := own_AV.congr A fun i hi => congrArg Value.int (q i hi)
theorem own_AI.set {k : Nat} {v : Int32} (F : own_AI Z h a ty n f) (hk : k < n) (hv : fits ty (.int v) = true) (W : Wr h h' a k (.int v)) : own_AI Z h' a ty n (own_upd f k v) :=
  (own_AV.set F hk hv W).congr fun i _ => by
    by_cases q : i = k <;> simp [own_updV, own_upd, q]
end AI
section Rd
variable {a : Addr} {n k : Nat} {j : Int32} {g : JFrame} {rest : List Value}
theorem own_rdI {f : Nat → Int32} (X : Stand p l e R s m args below meth c T locs cells slots) (hx : p.tables.exec = Jvm.exec) (hZ : Z.Warmed39 s.vm) (eT : T.heap = h) (A : own_AI Z h a .int n f) (hj : j.toInt = (k : Int)) (hk : k < n) (hg : g.method = m) (hs : g.stack = .int j :: .ref a :: rest) (hd : decode c.code g.pc = .ok (.iaload, 1)) :
    ∀ t, Steps p.tables e below (T.setTop { g with pc := g.pc + 1, stack := .int (f k) :: rest }) t → Steps p.tables e below (T.setTop g) t := by
  obtain ⟨cl, A1, S, H, -⟩ := A
  obtain ⟨hin, e1⟩ := own_idx S hj hk
  exact X.iaload hx (by rw [eT]; exact A1.1) (State.isArrayOf_alike hZ.alike A1.2.1) A1.2.2 hin (by rw [e1]; exact H k hk) hg hs hd
theorem own_rdB {f : Nat → Int32} (X : Stand p l e R s m args below meth c T locs cells slots) (hx : p.tables.exec = Jvm.exec) (hZ : Z.Warmed39 s.vm) (eT : T.heap = h) (A : own_AI Z h a .byte n f) (hj : j.toInt = (k : Int)) (hk : k < n) (hg : g.method = m) (hs : g.stack = .int j :: .ref a :: rest) (hd : decode c.code g.pc = .ok (.baload, 1)) :
    ∀ t, Steps p.tables e below (T.setTop { g with pc := g.pc + 1, stack := .int (f k) :: rest }) t → Steps p.tables e below (T.setTop g) t := by
  obtain ⟨cl, A1, S, H, -⟩ := A
  obtain ⟨hin, e1⟩ := own_idx S hj hk
  exact X.baloadBytes hx (by rw [eT]; exact A1.1) (State.isArrayOf_alike hZ.alike A1.2.1) A1.2.2 hin (by rw [e1]; exact H k hk) hg hs hd
theorem own_rdZ {f : Nat → Int32} (X : Stand p l e R s m args below meth c T locs cells slots) (hx : p.tables.exec = Jvm.exec) (hZ : Z.Warmed39 s.vm) (eT : T.heap = h) (A : own_AI Z h a .boolean n f) (hj : j.toInt = (k : Int)) (hk : k < n) (hg : g.method = m) (hs : g.stack = .int j :: .ref a :: rest) (hd : decode c.code g.pc = .ok (.baload, 1)) :
    ∀ t, Steps p.tables e below (T.setTop { g with pc := g.pc + 1, stack := .int (f k) :: rest }) t → Steps p.tables e below (T.setTop g) t := by
  obtain ⟨cl, A1, S, H, -⟩ := A
  obtain ⟨hin, e1⟩ := own_idx S hj hk
  exact X.baloadBooleans hx (by rw [eT]; exact A1.1) (State.isArrayOf_alike hZ.alike A1.2.1) A1.2.2 hin (by rw [e1]; exact H k hk) hg hs hd
theorem own_rdC {f : Nat → Int32} (X : Stand p l e R s m args below meth c T locs cells slots) (hx : p.tables.exec = Jvm.exec) (hZ : Z.Warmed39 s.vm) (eT : T.heap = h) (A : own_AI Z h a .char n f) (hj : j.toInt = (k : Int)) (hk : k < n) (hg : g.method = m) (hs : g.stack = .int j :: .ref a :: rest) (hd : decode c.code g.pc = .ok (.caload, 1)) :
    ∀ t, Steps p.tables e below (T.setTop { g with pc := g.pc + 1, stack := .int (f k) :: rest }) t → Steps p.tables e below (T.setTop g) t := by
  obtain ⟨cl, A1, S, H, -⟩ := A
  obtain ⟨hin, e1⟩ := own_idx S hj hk
  exact X.caload hx (by rw [eT]; exact A1.1) (State.isArrayOf_alike hZ.alike A1.2.1) A1.2.2 hin (by rw [e1]; exact H k hk) hg hs hd
theorem own_wrC {f : Nat → Int32} {x : Int32} (X : Stand p l e R s m args below meth c T locs cells slots) (hx : p.tables.exec = Jvm.exec) (hZ : Z.Warmed39 s.vm) (eT : T.heap = h) (A : own_AI Z h a .char n f) (hj : j.toInt = (k : Int)) (hk : k < n) (hg : g.method = m) (hs : g.stack = .int x :: .int j :: .ref a :: rest) (hd : decode c.code g.pc = .ok (.castore, 1)) :
    ∃ T' h', Stand p l e R s m args below meth c T' (locs ++ [⟨a, k⟩]) cells slots ∧ T'.heap = h' ∧ Wr h h' a k (.int (nar .char x)) ∧ own_AI Z h' a .char n (own_upd f k (nar .char x)) ∧ ∀ t, Steps p.tables e below (T'.setTop { g with pc := g.pc + 1, stack := rest }) t → Steps p.tables e below (T.setTop g) t := by
  have A0 := A
  obtain ⟨cl, A1, S, H, -⟩ := A
  obtain ⟨hin, e1⟩ := own_idx S hj hk
  obtain ⟨T', h', X', e', W', st⟩ := stC X hx hZ eT A1 hin hg hs hd
  rw [e1] at X' W'
  exact ⟨T', h', X', e', W', A0.set hk (fits_nar_char x) W', st⟩
theorem own_rdL {f : Nat → Int64} (X : Stand p l e R s m args below meth c T locs cells slots) (hx : p.tables.exec = Jvm.exec) (hZ : Z.Warmed39 s.vm) (eT : T.heap = h) (A : own_AL Z h a n f) (hj : j.toInt = (k : Int)) (hk : k < n) (hg : g.method = m) (hs : g.stack = .int j :: .ref a :: rest) (hd : decode c.code g.pc = .ok (.laload, 1)) :
    ∀ t, Steps p.tables e below (T.setTop { g with pc := g.pc + 1, stack := .long (f k) :: rest }) t → Steps p.tables e below (T.setTop g) t := by
  obtain ⟨cl, A1, S, H, -⟩ := A
  obtain ⟨hin, e1⟩ := own_idx S hj hk
  exact X.laload hx (by rw [eT]; exact A1.1) (State.isArrayOf_alike hZ.alike A1.2.1) A1.2.2 hin (by rw [e1]; exact H k hk) hg hs hd
theorem own_rdR {f : Nat → Value} {ty : FieldType} (X : Stand p l e R s m args below meth c T locs cells slots) (hx : p.tables.exec = Jvm.exec) (hZ : Z.Warmed39 s.vm) (eT : T.heap = h) (A : own_AV Z h a ty n f) (ht : ty.isReference = true) (hj : j.toInt = (k : Int)) (hk : k < n) (hg : g.method = m) (hs : g.stack = .int j :: .ref a :: rest) (hd : decode c.code g.pc = .ok (.aaload, 1)) :
    ∀ t, Steps p.tables e below (T.setTop { g with pc := g.pc + 1, stack := f k :: rest }) t → Steps p.tables e below (T.setTop g) t := by
  obtain ⟨cl, A1, S, H, -⟩ := A
  obtain ⟨hin, e1⟩ := own_idx S hj hk
  exact X.aaload hx (by rw [eT]; exact A1.1) (State.isArrayOf_alike hZ.alike A1.2.1) ht A1.2.2 hin (by rw [e1]; exact H k hk) hg hs hd
theorem own_len {f : Nat → Value} {ty : FieldType} {z : Int32} (X : Stand p l e R s m args below meth c T locs cells slots) (hx : p.tables.exec = Jvm.exec) (hZ : Z.Warmed39 s.vm) (eT : T.heap = h) (A : own_AV Z h a ty n f) (hz : n.toInt32 = z) (hg : g.method = m) (hs : g.stack = .ref a :: rest) (hd : decode c.code g.pc = .ok (.arraylength, 1)) :
    ∀ t, Steps p.tables e below (T.setTop { g with pc := g.pc + 1, stack := .int z :: rest }) t → Steps p.tables e below (T.setTop g) t := by
  obtain ⟨cl, A1, S, -, -⟩ := A
  subst hz S
  exact X.arraylength hx (by rw [eT]; exact A1.1) (State.isArrayOf_alike hZ.alike A1.2.1) hg hs hd
theorem own_wrI {f : Nat → Int32} {x : Int32} (X : Stand p l e R s m args below meth c T locs cells slots) (hx : p.tables.exec = Jvm.exec) (hZ : Z.Warmed39 s.vm) (eT : T.heap = h) (A : own_AI Z h a .int n f) (hj : j.toInt = (k : Int)) (hk : k < n) (hg : g.method = m) (hs : g.stack = .int x :: .int j :: .ref a :: rest) (hd : decode c.code g.pc = .ok (.iastore, 1)) :
    ∃ T' h', Stand p l e R s m args below meth c T' (locs ++ [⟨a, k⟩]) cells slots ∧ T'.heap = h' ∧ Wr h h' a k (.int x) ∧ own_AI Z h' a .int n (own_upd f k x) ∧ ∀ t, Steps p.tables e below (T'.setTop { g with pc := g.pc + 1, stack := rest }) t → Steps p.tables e below (T.setTop g) t := by
  have A0 := A
  obtain ⟨cl, A1, S, H, -⟩ := A
  obtain ⟨hin, e1⟩ := own_idx S hj hk
  obtain ⟨T', h', X', e', W', st⟩ := stI X hx hZ eT A1 hin hg hs hd
  rw [e1] at X' W'
  exact ⟨T', h', X', e', W', A0.set hk rfl W', st⟩
theorem own_wrB {f : Nat → Int32} {x : Int32} (X : Stand p l e R s m args below meth c T locs cells slots) (hx : p.tables.exec = Jvm.exec) (hZ : Z.Warmed39 s.vm) (eT : T.heap = h) (A : own_AI Z h a .byte n f) (hj : j.toInt = (k : Int)) (hk : k < n) (hg : g.method = m) (hs : g.stack = .int x :: .int j :: .ref a :: rest) (hd : decode c.code g.pc = .ok (.bastore, 1)) :
    ∃ T' h', Stand p l e R s m args below meth c T' (locs ++ [⟨a, k⟩]) cells slots ∧ T'.heap = h' ∧ Wr h h' a k (.int (nar .byte x)) ∧ own_AI Z h' a .byte n (own_upd f k (nar .byte x)) ∧ ∀ t, Steps p.tables e below (T'.setTop { g with pc := g.pc + 1, stack := rest }) t → Steps p.tables e below (T.setTop g) t := by
  have A0 := A
  obtain ⟨cl, A1, S, H, -⟩ := A
  obtain ⟨hin, e1⟩ := own_idx S hj hk
  obtain ⟨T', h', X', e', W', st⟩ := stB X hx hZ eT A1 hin hg hs hd
  rw [e1] at X' W'
  exact ⟨T', h', X', e', W', A0.set hk (fits_nar_byte x) W', st⟩
theorem own_wrZ {f : Nat → Int32} {x : Int32} (X : Stand p l e R s m args below meth c T locs cells slots) (hx : p.tables.exec = Jvm.exec) (hZ : Z.Warmed39 s.vm) (eT : T.heap = h) (A : own_AI Z h a .boolean n f) (hj : j.toInt = (k : Int)) (hk : k < n) (hg : g.method = m) (hs : g.stack = .int x :: .int j :: .ref a :: rest) (hd : decode c.code g.pc = .ok (.bastore, 1)) :
    ∃ T' h', Stand p l e R s m args below meth c T' (locs ++ [⟨a, k⟩]) cells slots ∧ T'.heap = h' ∧ Wr h h' a k (.int (nar .boolean x)) ∧ own_AI Z h' a .boolean n (own_upd f k (nar .boolean x)) ∧ ∀ t, Steps p.tables e below (T'.setTop { g with pc := g.pc + 1, stack := rest }) t → Steps p.tables e below (T.setTop g) t := by
  have A0 := A
  obtain ⟨cl, A1, S, H, -⟩ := A
  obtain ⟨hin, e1⟩ := own_idx S hj hk
  obtain ⟨T', h', X', e', W', st⟩ := stZ X hx hZ eT A1 hin hg hs hd
  rw [e1] at X' W'
  exact ⟨T', h', X', e', W', A0.set hk (fits_nar_bool x) W', st⟩
theorem own_wrL {f : Nat → Int64} {x : Int64} (X : Stand p l e R s m args below meth c T locs cells slots) (hx : p.tables.exec = Jvm.exec) (hZ : Z.Warmed39 s.vm) (eT : T.heap = h) (A : own_AL Z h a n f) (hj : j.toInt = (k : Int)) (hk : k < n) (hg : g.method = m) (hs : g.stack = .long x :: .int j :: .ref a :: rest) (hd : decode c.code g.pc = .ok (.lastore, 1)) :
    ∃ T' h', Stand p l e R s m args below meth c T' (locs ++ [⟨a, k⟩]) cells slots ∧ T'.heap = h' ∧ Wr h h' a k (.long x) ∧ own_AL Z h' a n (own_updL f k x) ∧ ∀ t, Steps p.tables e below (T'.setTop { g with pc := g.pc + 1, stack := rest }) t → Steps p.tables e below (T.setTop g) t := by
  have A0 := A
  obtain ⟨cl, A1, S, H, -⟩ := A
  obtain ⟨hin, e1⟩ := own_idx S hj hk
  obtain ⟨T', h', X', e', W', st⟩ := stJ X hx hZ eT A1 hin hg hs hd
  rw [e1] at X' W'
  exact ⟨T', h', X', e', W', (own_AV.set A0 hk rfl W').congr fun i _ => by by_cases q : i = k <;> simp [own_updV, own_updL, q], st⟩
theorem own_wrR {f : Nat → Value} {ty : FieldType} {v : Value} (X : Stand p l e R s m args below meth c T locs cells slots) (hx : p.tables.exec = Jvm.exec) (hZ : Z.Warmed39 s.vm) (eT : T.heap = h) (A : own_AV Z h a ty n f) (ht : ty.isReference = true) (hv : fits ty v = true) (F : Sto Z h a v) (hj : j.toInt = (k : Int)) (hk : k < n) (hg : g.method = m) (hs : g.stack = v :: .int j :: .ref a :: rest) (hd : decode c.code g.pc = .ok (.aastore, 1)) :
    ∃ T' h', Stand p l e R s m args below meth c T' (locs ++ [⟨a, k⟩]) cells slots ∧ T'.heap = h' ∧ Wr h h' a k v ∧ own_AV Z h' a ty n (own_updV f k v) ∧ ∀ t, Steps p.tables e below (T'.setTop { g with pc := g.pc + 1, stack := rest }) t → Steps p.tables e below (T.setTop g) t := by
  have A0 := A
  obtain ⟨cl, A1, S, H, -⟩ := A
  obtain ⟨hin, e1⟩ := own_idx S hj hk
  obtain ⟨T', h', X', e', W', st⟩ := stR X hx hZ eT A1 hin ht F hg hs hd
  rw [e1] at X' W'
  exact ⟨T', h', X', e', W', A0.set hk hv W', st⟩
/-- newarray: the fresh array at a = the heap's old size -/
theorem own_newP {aty : ArrayType} {z : Int32} (X : Stand p l e R s m args below meth c T locs cells slots) (hx : p.tables.exec = Jvm.exec) (hZ : Z.Warmed39 s.vm) (w : (Jvm.Cond.arrayClass (newarray.typeOf aty)).before a0 Z = true) (eT : T.heap = h) (hz : z.toInt = (n : Int)) (hf : fits (newarray.typeOf aty) (defaultValue (newarray.typeOf aty)) = true) (hg : g.method = m) (hs : g.stack = .int z :: rest) (hd : decode c.code g.pc = .ok (.newarray aty, 2)) {cap : Nat} (hcap : n ≤ cap) (hb : cap * 8 ≤ 536870912) (hc : cells + 1 ≤ R.cells) (hl : slots + cap ≤ R.slots) :
    ∃ T' h' a, a = h.size ∧ Stand p l e R s m args below meth c T' locs (cells + 1) (slots + cap) ∧ T'.heap = h' ∧ Ext h h' ∧ own_AV Z h' a (newarray.typeOf aty) n (fun _ => defaultValue (newarray.typeOf aty)) ∧ ∀ t, Steps p.tables e below (T'.setTop { g with pc := g.pc + 2, stack := .ref a :: rest }) t → Steps p.tables e below (T.setTop g) t := by
  have e0 : (0 : Int32).toInt = 0 := by decide
  have e1 : z.toNatClampNeg = n := by show z.toInt.toNat = n; rw [hz]; rfl
  have hn : ¬ z < 0 := by rw [Int32.lt_iff_toInt_lt, e0, hz]; omega
  obtain ⟨T', h', cA, X', e', E', A', st⟩ := newP X hx hZ w eT hg hd hs hn (by rw [e1]; exact hcap) hb hc hl
  exact ⟨T', h', _, rfl, X', e', E', own_AV.new A' e1 hf, st⟩
/-- newarray: the fresh array, its class besides -/
theorem own_newPE {aty : ArrayType} {z : Int32} (X : Stand p l e R s m args below meth c T locs cells slots) (hx : p.tables.exec = Jvm.exec) (hZ : Z.Warmed39 s.vm) (w : (Jvm.Cond.arrayClass (newarray.typeOf aty)).before a0 Z = true) (eT : T.heap = h) (hz : z.toInt = (n : Int)) (hf : fits (newarray.typeOf aty) (defaultValue (newarray.typeOf aty)) = true) (hg : g.method = m) (hs : g.stack = .int z :: rest) (hd : decode c.code g.pc = .ok (.newarray aty, 2)) {cap : Nat} (hcap : n ≤ cap) (hb : cap * 8 ≤ 536870912) (hc : cells + 1 ≤ R.cells) (hl : slots + cap ≤ R.slots) {ad : String} (had : "[" ++ (newarray.typeOf aty).toString = ad) :
    ∃ T' h' a, a = h.size ∧ Stand p l e R s m args below meth c T' locs (cells + 1) (slots + cap) ∧ T'.heap = h' ∧ Ext h h' ∧ own_AV Z h' a (newarray.typeOf aty) n (fun _ => defaultValue (newarray.typeOf aty)) ∧ Exa Z h' a ad ∧ ∀ t, Steps p.tables e below (T'.setTop { g with pc := g.pc + 2, stack := .ref a :: rest }) t → Steps p.tables e below (T.setTop g) t := by
  have e0 : (0 : Int32).toInt = 0 := by decide
  have e1 : z.toNatClampNeg = n := by show z.toInt.toNat = n; rw [hz]; rfl
  have hn : ¬ z < 0 := by rw [Int32.lt_iff_toInt_lt, e0, hz]; omega
  obtain ⟨T', h', cA, X', e', E', A', E2, st⟩ := newPE X hx hZ w eT hg hd hs hn (by rw [e1]; exact hcap) hb hc hl had
  exact ⟨T', h', _, rfl, X', e', E', own_AV.new A' e1 hf, E2, st⟩
/-- anewarray: the fresh array of references, all null; what may lie in it -/
theorem own_newR {C : String} {z : Int32} {own : String} {index : Nat} (X : Stand p l e R s m args below meth c T locs cells slots) (hx : p.tables.exec = Jvm.exec) (hZ : Z.Warmed39 s.vm) (hown : s.vm.findClass own = some m.cls) (w1 : (Jvm.Cond.classLink own index C).before a0 Z = true) (w2 : (Jvm.Cond.arrayOver (.object C)).before a0 Z = true) (eT : T.heap = h) (hz : z.toInt = (n : Int)) (hg : g.method = m) (hs : g.stack = .int z :: rest) (hd : decode c.code g.pc = .ok (.anewarray index, 3)) {cap : Nat} (hcap : n ≤ cap) (hb : cap * 8 ≤ 536870912) (hc : cells + 1 ≤ R.cells) (hl : slots + cap ≤ R.slots) :
    ∃ T' h' a, a = h.size ∧ Stand p l e R s m args below meth c T' locs (cells + 1) (slots + cap) ∧ T'.heap = h' ∧ Ext h h' ∧ own_AV Z h' a (.object C) n (fun _ => .null) ∧ (∃ cl : Cell, h'[a]? = some cl ∧ Ovr Z cl.cls C) ∧ ∀ t, Steps p.tables e below (T'.setTop { g with pc := g.pc + 3, stack := .ref a :: rest }) t → Steps p.tables e below (T.setTop g) t := by
  have e0 : (0 : Int32).toInt = 0 := by decide
  have e1 : z.toNatClampNeg = n := by show z.toInt.toNat = n; rw [hz]; rfl
  have hn : ¬ z < 0 := by rw [Int32.lt_iff_toInt_lt, e0, hz]; omega
  obtain ⟨T', h', cA, X', e', E', A', O', st⟩ := newR X hx hZ hown w1 w2 eT hg hd hs hn (by rw [e1]; exact hcap) hb hc hl
  exact ⟨T', h', _, rfl, X', e', E', own_AV.new A' e1 rfl, ⟨_, A'.1, O'⟩, st⟩
/-- the array over class C at a takes an object of C -/
def own_Ov (Z : State) (h : Heap) (a : Addr) (C : String) : Prop := ∃ cl : Cell, h[a]? = some cl ∧ Ovr Z cl.cls C
theorem own_Ov.keep {a : Addr} {C : String} {ws : List Addr} (O : own_Ov Z h a C) (K : Keep h h' ws) : own_Ov Z h' a C := by
  obtain ⟨cl, h1, h2⟩ := O
  obtain ⟨c', q1, q2, -, -⟩ := K.2.2 a cl h1
  exact ⟨c', q1, by rw [q2]; exact h2⟩
theorem own_Ov.sto {a y : Addr} {C : String} {ty : FieldType} {f : Nat → Value} (O : own_Ov Z h a C) (A : own_AV Z h a ty n f) (I : Ins Z h y C true) : Sto Z h a (.ref y) := by
  obtain ⟨cl, h1, h2⟩ := O
  obtain ⟨c2, A2, -⟩ := A
  cases h1.symm.trans A2.1
  exact Sto.of A2 h2 I
/-- clone() of an array -/
theorem own_clone {own ad : String} {index : Nat} {ty : FieldType} {f : Nat → Value} (X : Stand p l e R s m args below meth c T locs cells slots) (hx : p.tables.exec = Jvm.exec) (hZ : Z.Warmed39 s.vm) (hown : s.vm.findClass own = some m.cls)
    (w1 : (Jvm.Cond.methodLink own index ⟨ad, "clone", "()Ljava/lang/Object;"⟩).before a0 Z = true) (w2 : (Jvm.Cond.sameMethod ad "java/lang/Object" "clone" "()Ljava/lang/Object;").before a0 Z = true) (w3 : (Jvm.Cond.native ⟨"java/lang/Object", "clone", "()Ljava/lang/Object;"⟩).before a0 Z = true)
    (w4 : (Jvm.Cond.instanceMethod ⟨"java/lang/Object", "clone", "()Ljava/lang/Object;"⟩).before a0 Z = true) (w5 : (Jvm.Cond.selects ad ⟨ad, "clone", "()Ljava/lang/Object;"⟩ ⟨"java/lang/Object", "clone", "()Ljava/lang/Object;"⟩).before a0 Z = true) (w6 : (Jvm.Cond.castable ad "java/lang/Cloneable").before a0 Z = true)
    (eT : T.heap = h) (A : own_AV Z h a ty n f) (E : Exa Z h a ad) (hg : g.method = m) (hsize : g.locals.size = c.maxLocals) (hs : g.stack = .ref a :: rest) (hd : decode c.code g.pc = .ok (.invokevirtual index, 3))
    (hf : 1 ≤ R.frames) {W : Nat} (hW : 2 * g.monitorRoom + (rest.map fun v => v.category).sum ≤ W) (hl : W + 14 ≤ R.locals) (hc : cells + 1 ≤ R.cells) (hsl : slots + n ≤ R.slots) :
    ∃ T' h' b, b = h.size ∧ Stand p l e R s m args below meth c T' locs (cells + 1) (slots + n) ∧ T'.heap = h' ∧ Ext h h' ∧ own_AV Z h' b ty n f ∧ Exa Z h' b ad ∧ ∀ t, Steps p.tables e below (T'.setTop { g with pc := g.pc + 3, stack := .ref b :: rest }) t → Steps p.tables e below (T.setTop g) t := by
  obtain ⟨cl, A1, S, H, G⟩ := A
  have F : FitC Z cl := fitC_of A1 fun i hi v hv => by
    rw [S] at hi
    rw [H i hi] at hv
    cases hv
    exact G i hi
  obtain ⟨T', h', X', e', E', A', E2, st⟩ := cloneA X hx hZ hown w1 w2 w3 w4 w5 w6 eT A1 E F hg hsize hs hd hf hW hl (Nat.le_of_eq S) hc hsl
  exact ⟨T', h', _, rfl, X', e', E', ⟨_, A', S, H, G⟩, E2, st⟩
end Rd
end Own
end Jvm.RoadKit
namespace Jvm.RoadKit
open Sem ClassFile Op Lib Jvm.Stand Jvm.Free Jvm.LawKit
section OwnW
variable {p : Program} {l : Launch} {e : Env} {R : Room} {s : State} {m : MethodId} {args : Array Value} {below : List Frame} {meth : Method} {c : Code} {T T' : State} {locs : List Loc} {cells slots : Nat} {Z : State} {a0 : Array Value} {h h' : Heap}
/-- it returned, Q says what; the wide frame -/
def own_EndW (s : State) (below : List Frame) (Q : Option Value → Heap → List Loc → Prop) (C S : Nat) : State → Outcome → Prop := fun t o =>
  t.status = .running ∧ Ended t below o ∧ ∃ v L, o = .returned v ∧ Q v t.heap L ∧ ReturnedEndW s o t L C S
theorem own_bodyW {y : MethodName} {bytes : ByteArray} {ml : Nat} {rt : Option FieldType} {rm : Room} {as' : Array Value} {h0 : Heap} {Q : Option Value → Heap → List Loc → Prop} {C S : Nat} {ws : List Jvm.Cond} (hp : plainFor y = true)
    (H : ∀ p e s m below meth c s₁, BodyLoose p l y (head1 (Jvm.Cond.code y bytes ml rt :: ws) rm) bytes ml rt e s m as' below meth c s₁ → c.maxLocals = ml → Z.Warmed39 s.vm → s₁.heap = h0 → own_Go p e below (own_EndW s below Q C S) s₁ (entryFrame m as' ml)) :
    MetFree l y (head1 (Jvm.Cond.code y bytes ml rt :: ws) rm) (fun a U => a = as' ∧ Z.Warmed39 U.vm ∧ U.heap = h0) (fun _ _ _ _ _ => True) (fun _ U o U' => ∃ v L, o = .returned v ∧ Q v U'.heap L ∧ ReturnedEndW U o U' L C S) := by
  refine MetFree.of_bodySF hp hisR ?_
  intro p e s m args below meth c s₁ Bd hml hP hK
  obtain ⟨rfl, hZ, hh⟩ := hP
  have e0 : s₁.heap = h0 := by rw [← hh, Bd.state]; rfl
  obtain ⟨t, o, h1, h2, h3, h4⟩ := H p e s m below meth c s₁ Bd hml hZ e0
  exact ⟨t, o, h1, h2, h3, h4⟩
abbrev own_CtW (l : Launch) (Z : State) (y : MethodName) (bytes : ByteArray) (ml : Nat) (rt : Option FieldType) (rm : Room) (as' : Array Value) (h0 : Heap) (Q : Option Value → Heap → List Loc → Prop) : Prop :=
  MetFree l y (head1 [Jvm.Cond.code y bytes ml rt] rm) (fun a U => a = as' ∧ Z.Warmed39 U.vm ∧ U.heap = h0) (fun _ _ _ _ _ => True) (fun _ U o U' => ∃ v L, o = .returned v ∧ Q v U'.heap L ∧ ReturnedEndW U o U' L rm.cells rm.slots)
section Ret
variable {Q : Option Value → Heap → List Loc → Prop} {C S : Nat} {vm1 : Vm}
theorem own_outW {v : Option Value} {f : JFrame} (X : Stand p l e R (s.setVm vm1) m args below meth c T locs cells slots) {n : Nat} (hI : s.Since vm1 n) (hn : n ≤ h.size) (hv : meth.sig.returnType = none → v = none) (hlocks : meth.locks = false) (hC : cells ≤ C) (hS : slots ≤ S) (eT : T.heap = h) (hq : Q v h locs)
    (go : ∀ fs, (∀ (f : JFrame) (acts : List Action), f.method = m → f.locked = none → f.entered = [] → (doReturn e (T.setTop f) acts v).1 = T.setFrames fs) → Steps p.tables e below (T.setTop f) (T.setFrames fs)) :
    own_Go p e below (own_EndW s below Q C S) T f := by
  obtain ⟨fs, hr, hrun, hended, h1, h2, h3, h4⟩ := X.leaveW hI (by rw [eT]; exact hn) (v := v) hv hlocks
  refine ⟨_, _, go fs hr, hrun, hended, _, _, rfl, ?_, h1, h2, h3, h4.mono hC hS⟩
  show Q v T.heap locs
  rw [eT]; exact hq
theorem own_retZW (X : Stand p l e R (s.setVm vm1) m args below meth c T locs cells slots) (hx : p.tables.exec = Jvm.exec) {n : Nat} (hI : s.Since vm1 n) (hn : n ≤ h.size) (hlocks : meth.locks = false) (hret : meth.sig.returnType = some .boolean) {pc : Nat} {Ls : Array Slot} {z : Int32} {rest : List Value} (hd : decode c.code pc = .ok (.ireturn, 1)) (hz : z = 0 ∨ z = 1) (hC : cells ≤ C) (hS : slots ≤ S) (eT : T.heap = h) (hq : Q (some (.int z)) h locs) :
    own_Go p e below (own_EndW s below Q C S) T (mkF m pc Ls (.int z :: rest)) :=
  own_outW X hI hn (fun q => by rw [hret] at q; cases q) hlocks hC hS eT hq fun fs hr => retN X hx hret (Or.inl rfl) hd (by
    have : nar .boolean z = z := by rcases hz with rfl | rfl <;> decide
    rw [this]; exact hr)
theorem own_retRW {t : FieldType} {w : Value} (X : Stand p l e R (s.setVm vm1) m args below meth c T locs cells slots) (hx : p.tables.exec = Jvm.exec) {n : Nat} (hI : s.Since vm1 n) (hn : n ≤ h.size) (hlocks : meth.locks = false) (hret : meth.sig.returnType = some t) (ht : t.isReference = true) (hw : w.isRef = true) {pc : Nat} {Ls : Array Slot} {rest : List Value} (hd : decode c.code pc = .ok (.areturn, 1)) (hC : cells ≤ C) (hS : slots ≤ S) (eT : T.heap = h) (hq : Q (some w) h locs) :
    own_Go p e below (own_EndW s below Q C S) T (mkF m pc Ls (w :: rest)) :=
  own_outW X hI hn (fun q => by rw [hret] at q; cases q) hlocks hC hS eT hq fun fs hr => retOut X hx hret (by cases t <;> cases w <;> first | rfl | (cases ht; done) | (cases hw; done)) (Or.inr (Or.inr (Or.inr (Or.inr ⟨rfl, ht, hw⟩)))) hd hr
theorem own_retVW (X : Stand p l e R (s.setVm vm1) m args below meth c T locs cells slots) (hx : p.tables.exec = Jvm.exec) {n : Nat} (hI : s.Since vm1 n) (hn : n ≤ h.size) (hlocks : meth.locks = false) (hret : meth.sig.returnType = none) {pc : Nat} {Ls : Array Slot} (hd : decode c.code pc = .ok (.return_, 1)) (hC : cells ≤ C) (hS : slots ≤ S) (eT : T.heap = h) (hq : Q none h locs) :
    own_Go p e below (own_EndW s below Q C S) T (mkF m pc Ls []) :=
  own_outW X hI hn (fun _ => rfl) hlocks hC hS eT hq fun fs hr => X.returnOut hx hret hd hr
end Ret
section Call
variable {own : String} {index : Nat} {y : MethodName} {bytes : ByteArray} {ml : Nat} {rt : Option FieldType} {rm : Room} {Q : Option Value → Heap → List Loc → Prop} {g : JFrame} {argsL rest : List Value} {W : Nat} {vm0 : Vm} {k0 : Nat}
/-- a virtual call of a callee that may intern; the walk's base is s under the tables vm0 -/
theorem own_callVW {a : Addr} {C : String} (X : Stand p l e R (s.setVm vm0) m args below meth c T locs cells slots) (hI : s.Since vm0 k0) (hk : k0 ≤ h.size) (hx : p.tables.exec = Jvm.exec) (hZ : Z.Warmed39 (s.setVm vm0).vm) (hown : (s.setVm vm0).vm.findClass own = some m.cls) (E : Exa Z h a C) {y0 : MethodName}
    (w1 : (Jvm.Cond.methodLink own index y0).before a0 Z = true) (w2 : (Jvm.Cond.declares y0).before a0 Z = true) (w5 : (Jvm.Cond.selects C y0 y).before a0 Z = true) (nf : NotFace (s.setVm vm0) y0) (w6 : (Jvm.Cond.instanceMethod y).before a0 Z = true) (w3 : (Jvm.Cond.initialized y.cls).before a0 Z = true) (w4 : (Jvm.Cond.code y bytes ml rt).before a0 Z = true)
    (hy : y0.cls ≠ "java/lang/invoke/MethodHandle" ∧ y0.cls ≠ "java/lang/invoke/VarHandle") (ct : own_CtW l Z y bytes ml rt rm (.ref a :: argsL).toArray h Q) (eT : T.heap = h) (hg : g.method = m) (hsize : g.locals.size = c.maxLocals)
    (hlen : ∀ sig, parseMethodDescriptor y0.desc = some sig → argsL.length = sig.parameters.length) (hstack : g.stack = argsL.reverse ++ .ref a :: rest) (hW : 2 * g.monitorRoom + (rest.map fun v => v.category).sum ≤ W) (hdg : decode c.code g.pc = .ok (.invokevirtual index, 3))
    (hf : rm.frames + 1 ≤ R.frames) (hl : W + (ml + 11) + rm.locals ≤ R.locals) (hc : cells + rm.cells ≤ R.cells) (hs : slots + rm.slots ≤ R.slots) :
    ∃ v T' L, Stand p l e R (s.setVm T'.vm) m args below meth c T' (locs ++ L) (cells + rm.cells) (slots + rm.slots) ∧ s.Since T'.vm T'.heap.size ∧ Z.Warmed39 (s.setVm T'.vm).vm ∧ (s.setVm T'.vm).vm.findClass own = some m.cls ∧ Q v T'.heap L ∧ ∀ target, Steps p.tables e below (T'.setTop { g with pc := g.pc + 3, stack := v.toList ++ rest }) target → Steps p.tables e below (T.setTop g) target := by
  obtain ⟨cq, kq, qa, qb, qc⟩ := isOf hZ eT E
  obtain ⟨v, vm1, ⟨T1, L1, k1, n1⟩, -, X1, hI1, hg1, ⟨L, hQ, h1, h2, h3⟩, st⟩ := X.virtualBackS hx (y := y0) (z := y) hown (mvT hZ w1) (mvT hZ w2) nf (mvT hZ w5) (mvT hZ w6) hy (backOfS (W := W) ct hZ w4 w3 hf hl) qa qc hg hsize (Steps.refl _) hlen hstack hW hdg (fun _ _ => ⟨rfl, eT, hc, hs⟩)
  dsimp only [Pt.U, Pt.locs, Pt.cells, Pt.slots] at X1 h1 h2 h3 hQ st hI1 hg1
  subst h1 h2 h3
  obtain ⟨r1, r2, r3, r4⟩ := rebS hI (by rw [← eT] at hk; exact hk) X1 hI1 hg1 hZ hown
  exact ⟨v, T1, L, r1, r2, r3, r4, hQ, fun t k => st.trans k⟩
/-- a static call of a callee that may intern -/
theorem own_callSW (X : Stand p l e R (s.setVm vm0) m args below meth c T locs cells slots) (hI : s.Since vm0 k0) (hk : k0 ≤ h.size) (hx : p.tables.exec = Jvm.exec) (hZ : Z.Warmed39 (s.setVm vm0).vm) (hown : (s.setVm vm0).vm.findClass own = some m.cls)
    (w1 : (Jvm.Cond.methodLink own index y).before a0 Z = true) (w2 : (Jvm.Cond.static y).before a0 Z = true) (w3 : (Jvm.Cond.initialized y.cls).before a0 Z = true) (w4 : (Jvm.Cond.code y bytes ml rt).before a0 Z = true)
    (hy : y.cls ≠ "java/lang/invoke/MethodHandle" ∧ y.cls ≠ "java/lang/invoke/VarHandle") (ct : own_CtW l Z y bytes ml rt rm argsL.toArray h Q) (eT : T.heap = h) (hg : g.method = m) (hsize : g.locals.size = c.maxLocals)
    (hlen : ∀ sig, parseMethodDescriptor y.desc = some sig → argsL.length = sig.parameters.length) (hstack : g.stack = argsL.reverse ++ rest) (hW : 2 * g.monitorRoom + (rest.map fun v => v.category).sum ≤ W) (hdg : decode c.code g.pc = .ok (.invokestatic index, 3))
    (hf : rm.frames + 1 ≤ R.frames) (hl : W + (ml + 11) + rm.locals ≤ R.locals) (hc : cells + rm.cells ≤ R.cells) (hs : slots + rm.slots ≤ R.slots) :
    ∃ v T' L, Stand p l e R (s.setVm T'.vm) m args below meth c T' (locs ++ L) (cells + rm.cells) (slots + rm.slots) ∧ s.Since T'.vm T'.heap.size ∧ Z.Warmed39 (s.setVm T'.vm).vm ∧ (s.setVm T'.vm).vm.findClass own = some m.cls ∧ Q v T'.heap L ∧ ∀ target, Steps p.tables e below (T'.setTop { g with pc := g.pc + 3, stack := v.toList ++ rest }) target → Steps p.tables e below (T.setTop g) target := by
  obtain ⟨v, vm1, ⟨T1, L1, k1, n1⟩, -, X1, hI1, hg1, ⟨L, hQ, h1, h2, h3⟩, st⟩ := callSS X hx hown (mvT hZ w1) (mvT hZ w2) (mvT hZ w3) (mvT hZ w4) hy (backOfS (W := W) ct hZ w4 w3 hf hl) hg hsize hlen hstack hW hdg (fun _ _ => ⟨rfl, eT, hc, hs⟩)
  dsimp only [Pt.U, Pt.locs, Pt.cells, Pt.slots] at X1 h1 h2 h3 hQ st hI1 hg1
  subst h1 h2 h3
  obtain ⟨r1, r2, r3, r4⟩ := rebS hI (by rw [← eT] at hk; exact hk) X1 hI1 hg1 hZ hown
  exact ⟨v, T1, L, r1, r2, r3, r4, hQ, fun t k => st.trans k⟩
/-- a constructor that may intern -/
theorem own_callIW {a : Addr} (X : Stand p l e R (s.setVm vm0) m args below meth c T locs cells slots) (hI : s.Since vm0 k0) (hk : k0 ≤ h.size) (hx : p.tables.exec = Jvm.exec) (hZ : Z.Warmed39 (s.setVm vm0).vm) (hown : (s.setVm vm0).vm.findClass own = some m.cls) (hy1 : y.name = "<init>")
    (w1 : (Jvm.Cond.methodLink own index y).before a0 Z = true) (w2 : (Jvm.Cond.instanceMethod y).before a0 Z = true) (w3 : (Jvm.Cond.initialized y.cls).before a0 Z = true) (w4 : (Jvm.Cond.code y bytes ml none).before a0 Z = true)
    (hy : y.cls ≠ "java/lang/invoke/MethodHandle" ∧ y.cls ≠ "java/lang/invoke/VarHandle") (ct : own_CtW l Z y bytes ml none rm (.ref a :: argsL).toArray h Q) (eT : T.heap = h) (hg : g.method = m) (hsize : g.locals.size = c.maxLocals)
    (hlen : ∀ sig, parseMethodDescriptor y.desc = some sig → argsL.length = sig.parameters.length) (hstack : g.stack = argsL.reverse ++ .ref a :: rest) (hW : 2 * g.monitorRoom + (rest.map fun v => v.category).sum ≤ W) (hdg : decode c.code g.pc = .ok (.invokespecial index, 3))
    (hf : rm.frames + 1 ≤ R.frames) (hl : W + (ml + 11) + rm.locals ≤ R.locals) (hc : cells + rm.cells ≤ R.cells) (hs : slots + rm.slots ≤ R.slots) :
    ∃ v T' L, Stand p l e R (s.setVm T'.vm) m args below meth c T' (locs ++ L) (cells + rm.cells) (slots + rm.slots) ∧ s.Since T'.vm T'.heap.size ∧ Z.Warmed39 (s.setVm T'.vm).vm ∧ (s.setVm T'.vm).vm.findClass own = some m.cls ∧ Q v T'.heap L ∧ ∀ target, Steps p.tables e below (T'.setTop { g with pc := g.pc + 3, stack := v.toList ++ rest }) target → Steps p.tables e below (T.setTop g) target := by
  obtain ⟨v, vm1, ⟨T1, L1, k1, n1⟩, -, X1, hI1, hg1, ⟨L, hQ, h1, h2, h3⟩, st⟩ := X.specialBackS hx hy1 hown (mvT hZ w1) (mvT hZ w2) (mvT hZ w4) hy (backOfS (W := W) ct hZ w4 w3 hf hl) hg hsize (Steps.refl _) hlen hstack hW hdg (fun _ _ => ⟨rfl, eT, hc, hs⟩)
  dsimp only [Pt.U, Pt.locs, Pt.cells, Pt.slots] at X1 h1 h2 h3 hQ st hI1 hg1
  subst h1 h2 h3
  obtain ⟨r1, r2, r3, r4⟩ := rebS hI (by rw [← eT] at hk; exact hk) X1 hI1 hg1 hZ hown
  exact ⟨v, T1, L, r1, r2, r3, r4, hQ, fun t k => st.trans k⟩
end Call
end OwnW
end Jvm.RoadKit
namespace Jvm.Pilot.@@N@@
open Jvm Jvm.ClassFile Sem Op Lib Jvm.Free Jvm.Stand Jvm.LawKit Jvm.RoadKit Bundle Jvm.Pilot.@@N@@.Jvm.D
theorem own_d2_0 : decode jdk_30_method_1_code 0 = .ok (.aload_n 0, 1) := by decide +kernel
theorem own_d2_1 : decode jdk_30_method_1_code 1 = .ok (.invokespecial 1, 3) := by decide +kernel
theorem own_d2_4 : decode jdk_30_method_1_code 4 = .ok (.return_, 1) := by decide +kernel
theorem own_pn0 : plainName "java/lang/Record" = true := by first | (simp [plainName, overriddenIn]; done) | decide +kernel
theorem own_efrec (m : MethodId) (a : Nat) : entryFrame m #[(.ref a)] 1 = mkF m 0 #[rv a] [] := by first | (simp [entryFrame, mkF, argsToLocals, Value.category]; done) | rfl
set_option maxRecDepth 65536 in
set_option maxHeartbeats 40000000 in
theorem own_rmrec (l : Launch) (Z : State) (a0 : Array Value) (hw : ∀ d ∈ tables_1, d.before a0 Z = true) (a : Nat) (h0 : Heap) (n0 : Nat) (Z0 : n0 ≤ h0.size) :
    own_Ct l Z (⟨"java/lang/Record", "<init>", "()V"⟩ : MethodName) jdk_30_method_1_code 1 none ({ frames := 1, cells := 0, slots := 0, locals := 12 } : Room) #[(.ref a)] h0 (fun v h L => v = none ∧ Fr n0 L ∧ h = h0) := by
  refine own_body (y := (⟨"java/lang/Record", "<init>", "()V"⟩ : MethodName)) (Q := fun v h L => v = none ∧ Fr n0 L ∧ h = h0) (plainFor_of_name own_pn0) ?_
  intro p e s m below meth c s₁ Bd hml0 hZ e0
  have hx := Bd.exec
  have hby := Bd.bytes
  have hml : c.maxLocals = 1 := hml0
  have hown : s.vm.findClass "java/lang/Record" = some m.cls := findClass_of_methodNamed Bd.named
  have hnm := (name_of_methodNamed Bd.named Bd.method).1
  have X0 : Stand p l e ({ frames := 1, cells := 0, slots := 0, locals := 12 } : Room) s m #[(.ref a)] below meth c s₁ [] 0 0 := Stand.of_body Bd
  have N0 := Fr.nil n0
  rw [own_efrec]
  have sg1 : own_V p e below s₁ (mkF m 1 #[rv a] [(.ref a)]) (mkF m 0 #[rv a] []) := by
    intro t kt
    refine XS.aloadN X0.here hx rfl (hb hby own_d2_0) rfl rfl ?_
    show own_S p e below s₁ m 1 #[rv a] [(.ref a)] _
    exact kt
  refine own_st sg1 ?_
  obtain ⟨T2, X2, e2, st2⟩ := initO X0 hx hZ hown (hw _ (List.mem_of_getElem? (i := 11) rfl)) (hw _ (List.mem_of_getElem? (i := 12) rfl)) (hw _ (List.mem_of_getElem? (i := 13) rfl)) e0 (g := (mkF m 1 #[rv a] [(.ref a)])) rfl (by rw [hml]; rfl) rfl (hb hby own_d2_1) (by decide) (W := 0) (by show 2 * 0 + _ ≤ _; exact Nat.le_of_eq rfl) (by decide)
  refine own_st st2 ?_
  show own_Go p e below _ T2 (mkF m 4 #[rv a] [])
  exact own_retV X2 hx Bd.notSynchronized Bd.returns (hb hby own_d2_4) (by decide) (by decide) e2 ⟨rfl, N0, rfl⟩
theorem own_d11_0 : decode jdk_22_method_1_code 0 = .ok (.aload_n 0, 1) := by decide +kernel
theorem own_d11_1 : decode jdk_22_method_1_code 1 = .ok (.invokespecial 1, 3) := by decide +kernel
theorem own_d11_4 : decode jdk_22_method_1_code 4 = .ok (.return_, 1) := by decide +kernel
theorem own_pn1 : plainName "java/util/AbstractCollection" = true := by first | (simp [plainName, overriddenIn]; done) | decide +kernel
theorem own_efac (m : MethodId) (a : Nat) : entryFrame m #[(.ref a)] 1 = mkF m 0 #[rv a] [] := by first | (simp [entryFrame, mkF, argsToLocals, Value.category]; done) | rfl
set_option maxRecDepth 65536 in
set_option maxHeartbeats 40000000 in
theorem own_rmac (l : Launch) (Z : State) (a0 : Array Value) (hw : ∀ d ∈ tables_1, d.before a0 Z = true) (a : Nat) (h0 : Heap) (n0 : Nat) (Z0 : n0 ≤ h0.size) :
    own_Ct l Z (⟨"java/util/AbstractCollection", "<init>", "()V"⟩ : MethodName) jdk_22_method_1_code 1 none ({ frames := 1, cells := 0, slots := 0, locals := 12 } : Room) #[(.ref a)] h0 (fun v h L => v = none ∧ Fr n0 L ∧ h = h0) := by
  refine own_body (y := (⟨"java/util/AbstractCollection", "<init>", "()V"⟩ : MethodName)) (Q := fun v h L => v = none ∧ Fr n0 L ∧ h = h0) (plainFor_of_name own_pn1) ?_
  intro p e s m below meth c s₁ Bd hml0 hZ e0
  have hx := Bd.exec
  have hby := Bd.bytes
  have hml : c.maxLocals = 1 := hml0
  have hown : s.vm.findClass "java/util/AbstractCollection" = some m.cls := findClass_of_methodNamed Bd.named
  have hnm := (name_of_methodNamed Bd.named Bd.method).1
  have X0 : Stand p l e ({ frames := 1, cells := 0, slots := 0, locals := 12 } : Room) s m #[(.ref a)] below meth c s₁ [] 0 0 := Stand.of_body Bd
  have N0 := Fr.nil n0
  rw [own_efac]
  have sg1 : own_V p e below s₁ (mkF m 1 #[rv a] [(.ref a)]) (mkF m 0 #[rv a] []) := by
    intro t kt
    refine XS.aloadN X0.here hx rfl (hb hby own_d11_0) rfl rfl ?_
    show own_S p e below s₁ m 1 #[rv a] [(.ref a)] _
    exact kt
  refine own_st sg1 ?_
  obtain ⟨T2, X2, e2, st2⟩ := initO X0 hx hZ hown (hw _ (List.mem_of_getElem? (i := 77) rfl)) (hw _ (List.mem_of_getElem? (i := 12) rfl)) (hw _ (List.mem_of_getElem? (i := 13) rfl)) e0 (g := (mkF m 1 #[rv a] [(.ref a)])) rfl (by rw [hml]; rfl) rfl (hb hby own_d11_1) (by decide) (W := 0) (by show 2 * 0 + _ ≤ _; exact Nat.le_of_eq rfl) (by decide)
  refine own_st st2 ?_
  show own_Go p e below _ T2 (mkF m 4 #[rv a] [])
  exact own_retV X2 hx Bd.notSynchronized Bd.returns (hb hby own_d11_4) (by decide) (by decide) e2 ⟨rfl, N0, rfl⟩
theorem own_d10_0 : decode jdk_47_method_1_code 0 = .ok (.aload_n 0, 1) := by decide +kernel
theorem own_d10_1 : decode jdk_47_method_1_code 1 = .ok (.invokespecial 1, 3) := by decide +kernel
theorem own_d10_4 : decode jdk_47_method_1_code 4 = .ok (.return_, 1) := by decide +kernel
theorem own_pd0 : parseMethodDescriptor "()V" = some ⟨[], none⟩ := by decide +kernel
theorem own_pn2 : plainName "java/util/ImmutableCollections$AbstractImmutableCollection" = true := by first | (simp [plainName, overriddenIn]; done) | decide +kernel
theorem own_efaic (m : MethodId) (a : Nat) : entryFrame m #[(.ref a)] 1 = mkF m 0 #[rv a] [] := by first | (simp [entryFrame, mkF, argsToLocals, Value.category]; done) | rfl
set_option maxRecDepth 65536 in
set_option maxHeartbeats 40000000 in
theorem own_rmaic (l : Launch) (Z : State) (a0 : Array Value) (hw : ∀ d ∈ tables_1, d.before a0 Z = true) (a : Nat) (h0 : Heap) (n0 : Nat) (Z0 : n0 ≤ h0.size) :
    own_Ct l Z (⟨"java/util/ImmutableCollections$AbstractImmutableCollection", "<init>", "()V"⟩ : MethodName) jdk_47_method_1_code 1 none ({ frames := 2, cells := 0, slots := 0, locals := 24 } : Room) #[(.ref a)] h0 (fun v h L => v = none ∧ Fr n0 L ∧ h = h0) := by
  refine own_body (y := (⟨"java/util/ImmutableCollections$AbstractImmutableCollection", "<init>", "()V"⟩ : MethodName)) (Q := fun v h L => v = none ∧ Fr n0 L ∧ h = h0) (plainFor_of_name own_pn2) ?_
  intro p e s m below meth c s₁ Bd hml0 hZ e0
  have hx := Bd.exec
  have hby := Bd.bytes
  have hml : c.maxLocals = 1 := hml0
  have hown : s.vm.findClass "java/util/ImmutableCollections$AbstractImmutableCollection" = some m.cls := findClass_of_methodNamed Bd.named
  have hnm := (name_of_methodNamed Bd.named Bd.method).1
  have X0 : Stand p l e ({ frames := 2, cells := 0, slots := 0, locals := 24 } : Room) s m #[(.ref a)] below meth c s₁ [] 0 0 := Stand.of_body Bd
  have N0 := Fr.nil n0
  rw [own_efaic]
  have sg1 : own_V p e below s₁ (mkF m 1 #[rv a] [(.ref a)]) (mkF m 0 #[rv a] []) := by
    intro t kt
    refine XS.aloadN X0.here hx rfl (hb hby own_d10_0) rfl rfl ?_
    show own_S p e below s₁ m 1 #[rv a] [(.ref a)] _
    exact kt
  refine own_st sg1 ?_
  obtain ⟨_, T2, L2, X2, hQ2, st2⟩ := own_callI (y := (⟨"java/util/AbstractCollection", "<init>", "()V"⟩ : MethodName)) (a := a) X0 hx hZ hown rfl (hw _ (List.mem_of_getElem? (i := 71) rfl)) (hw _ (List.mem_of_getElem? (i := 72) rfl)) (hw _ (List.mem_of_getElem? (i := 75) rfl)) (hw _ (List.mem_of_getElem? (i := 76) rfl)) (by decide) (own_rmac l Z a0 hw a h0 n0 Z0) e0 (g := (mkF m 1 #[rv a] [(.ref a)])) rfl (by rw [hml]; rfl) (argsL := []) (rest := []) (lenOf own_pd0 rfl) rfl (W := 0) (by show 2 * 0 + _ ≤ _; exact Nat.le_of_eq rfl) (hb hby own_d10_1) (by decide) (by decide) (by decide) (by decide)
  obtain ⟨rfl, Nq2, e2⟩ := hQ2
  refine own_st st2 ?_
  have N2 := Fr.app N0 Nq2
  show own_Go p e below _ T2 (mkF m 4 #[rv a] [])
  exact own_retV X2 hx Bd.notSynchronized Bd.returns (hb hby own_d10_4) (by decide) (by decide) e2 ⟨rfl, N2, rfl⟩
theorem own_d9_0 : decode jdk_46_method_1_code 0 = .ok (.aload_n 0, 1) := by decide +kernel
theorem own_d9_1 : decode jdk_46_method_1_code 1 = .ok (.invokespecial 1, 3) := by decide +kernel
theorem own_d9_4 : decode jdk_46_method_1_code 4 = .ok (.return_, 1) := by decide +kernel
theorem own_pn3 : plainName "java/util/ImmutableCollections$AbstractImmutableList" = true := by first | (simp [plainName, overriddenIn]; done) | decide +kernel
theorem own_efail (m : MethodId) (a : Nat) : entryFrame m #[(.ref a)] 1 = mkF m 0 #[rv a] [] := by first | (simp [entryFrame, mkF, argsToLocals, Value.category]; done) | rfl
set_option maxRecDepth 65536 in
set_option maxHeartbeats 40000000 in
theorem own_rmail (l : Launch) (Z : State) (a0 : Array Value) (hw : ∀ d ∈ tables_1, d.before a0 Z = true) (a : Nat) (h0 : Heap) (n0 : Nat) (Z0 : n0 ≤ h0.size) :
    own_Ct l Z (⟨"java/util/ImmutableCollections$AbstractImmutableList", "<init>", "()V"⟩ : MethodName) jdk_46_method_1_code 1 none ({ frames := 3, cells := 0, slots := 0, locals := 36 } : Room) #[(.ref a)] h0 (fun v h L => v = none ∧ Fr n0 L ∧ h = h0) := by
  refine own_body (y := (⟨"java/util/ImmutableCollections$AbstractImmutableList", "<init>", "()V"⟩ : MethodName)) (Q := fun v h L => v = none ∧ Fr n0 L ∧ h = h0) (plainFor_of_name own_pn3) ?_
  intro p e s m below meth c s₁ Bd hml0 hZ e0
  have hx := Bd.exec
  have hby := Bd.bytes
  have hml : c.maxLocals = 1 := hml0
  have hown : s.vm.findClass "java/util/ImmutableCollections$AbstractImmutableList" = some m.cls := findClass_of_methodNamed Bd.named
  have hnm := (name_of_methodNamed Bd.named Bd.method).1
  have X0 : Stand p l e ({ frames := 3, cells := 0, slots := 0, locals := 36 } : Room) s m #[(.ref a)] below meth c s₁ [] 0 0 := Stand.of_body Bd
  have N0 := Fr.nil n0
  rw [own_efail]
  have sg1 : own_V p e below s₁ (mkF m 1 #[rv a] [(.ref a)]) (mkF m 0 #[rv a] []) := by
    intro t kt
    refine XS.aloadN X0.here hx rfl (hb hby own_d9_0) rfl rfl ?_
    show own_S p e below s₁ m 1 #[rv a] [(.ref a)] _
    exact kt
  refine own_st sg1 ?_
  obtain ⟨_, T2, L2, X2, hQ2, st2⟩ := own_callI (y := (⟨"java/util/ImmutableCollections$AbstractImmutableCollection", "<init>", "()V"⟩ : MethodName)) (a := a) X0 hx hZ hown rfl (hw _ (List.mem_of_getElem? (i := 65) rfl)) (hw _ (List.mem_of_getElem? (i := 66) rfl)) (hw _ (List.mem_of_getElem? (i := 69) rfl)) (hw _ (List.mem_of_getElem? (i := 70) rfl)) (by decide) (own_rmaic l Z a0 hw a h0 n0 Z0) e0 (g := (mkF m 1 #[rv a] [(.ref a)])) rfl (by rw [hml]; rfl) (argsL := []) (rest := []) (lenOf own_pd0 rfl) rfl (W := 0) (by show 2 * 0 + _ ≤ _; exact Nat.le_of_eq rfl) (hb hby own_d9_1) (by decide) (by decide) (by decide) (by decide)
  obtain ⟨rfl, Nq2, e2⟩ := hQ2
  refine own_st st2 ?_
  have N2 := Fr.app N0 Nq2
  show own_Go p e below _ T2 (mkF m 4 #[rv a] [])
  exact own_retV X2 hx Bd.notSynchronized Bd.returns (hb hby own_d9_4) (by decide) (by decide) e2 ⟨rfl, N2, rfl⟩
theorem own_d1_0 : decode prog_108_method_1_code 0 = .ok (.aload_n 0, 1) := by decide +kernel
theorem own_d1_1 : decode prog_108_method_1_code 1 = .ok (.invokespecial 1, 3) := by decide +kernel
theorem own_d1_4 : decode prog_108_method_1_code 4 = .ok (.aload_n 0, 1) := by decide +kernel
theorem own_d1_5 : decode prog_108_method_1_code 5 = .ok (.iload_n 1, 1) := by decide +kernel
theorem own_d1_6 : decode prog_108_method_1_code 6 = .ok (.putfield 7, 3) := by decide +kernel
theorem own_d1_9 : decode prog_108_method_1_code 9 = .ok (.aload_n 0, 1) := by decide +kernel
theorem own_d1_10 : decode prog_108_method_1_code 10 = .ok (.iload_n 2, 1) := by decide +kernel
theorem own_d1_11 : decode prog_108_method_1_code 11 = .ok (.putfield 13, 3) := by decide +kernel
theorem own_d1_14 : decode prog_108_method_1_code 14 = .ok (.return_, 1) := by decide +kernel
theorem own_pn4 : plainName "com/example/kingsround/kingsround/engine/Verdict" = true := by first | (simp [plainName, overriddenIn]; done) | decide +kernel
theorem own_efvd (m : MethodId) (a : Nat) (x : Int32) (y : Int32) : entryFrame m #[(.ref a), (.int x), (.int y)] 3 = mkF m 0 #[rv a, iv x, iv y] [] := by first | (simp [entryFrame, mkF, argsToLocals, Value.category]; done) | rfl
set_option maxRecDepth 65536 in
set_option maxHeartbeats 40000000 in
theorem own_rmvd (l : Launch) (Z : State) (a0 : Array Value) (hw : ∀ d ∈ tables_1, d.before a0 Z = true) (a : Nat) (x : Int32) (y : Int32) (h0 : Heap) (n0 : Nat) (Z0 : n0 ≤ h0.size) (EE : Exa Z h0 a "com/example/kingsround/kingsround/engine/Verdict") (F1 : Fld Z h0 a "com/example/kingsround/kingsround/engine/Verdict" "agreement" "Z" (.int (0 : Int32))) (F2 : Fld Z h0 a "com/example/kingsround/kingsround/engine/Verdict" "validity" "Z" (.int (0 : Int32))) (g_a : n0 ≤ a) (hb_x : nar .boolean x = x) (hb_y : nar .boolean y = y) :
    own_Ct l Z (⟨"com/example/kingsround/kingsround/engine/Verdict", "<init>", "(ZZ)V"⟩ : MethodName) prog_108_method_1_code 3 none ({ frames := 2, cells := 0, slots := 0, locals := 24 } : Room) #[(.ref a), (.int x), (.int y)] h0 (fun v h L => v = none ∧ Fr n0 L ∧ Keep h0 h [a] ∧ Exa Z h a "com/example/kingsround/kingsround/engine/Verdict" ∧ Fld Z h a "com/example/kingsround/kingsround/engine/Verdict" "agreement" "Z" (.int x) ∧ Fld Z h a "com/example/kingsround/kingsround/engine/Verdict" "validity" "Z" (.int y)) := by
  refine own_body (y := (⟨"com/example/kingsround/kingsround/engine/Verdict", "<init>", "(ZZ)V"⟩ : MethodName)) (Q := fun v h L => v = none ∧ Fr n0 L ∧ Keep h0 h [a] ∧ Exa Z h a "com/example/kingsround/kingsround/engine/Verdict" ∧ Fld Z h a "com/example/kingsround/kingsround/engine/Verdict" "agreement" "Z" (.int x) ∧ Fld Z h a "com/example/kingsround/kingsround/engine/Verdict" "validity" "Z" (.int y)) (plainFor_of_name own_pn4) ?_
  intro p e s m below meth c s₁ Bd hml0 hZ e0
  have hx := Bd.exec
  have hby := Bd.bytes
  have hml : c.maxLocals = 3 := hml0
  have hown : s.vm.findClass "com/example/kingsround/kingsround/engine/Verdict" = some m.cls := findClass_of_methodNamed Bd.named
  have hnm := (name_of_methodNamed Bd.named Bd.method).1
  have X0 : Stand p l e ({ frames := 2, cells := 0, slots := 0, locals := 24 } : Room) s m #[(.ref a), (.int x), (.int y)] below meth c s₁ [] 0 0 := Stand.of_body Bd
  have N0 := Fr.nil n0
  rw [own_efvd]
  have sg1 : own_V p e below s₁ (mkF m 1 #[rv a, iv x, iv y] [(.ref a)]) (mkF m 0 #[rv a, iv x, iv y] []) := by
    intro t kt
    refine XS.aloadN X0.here hx rfl (hb hby own_d1_0) rfl rfl ?_
    show own_S p e below s₁ m 1 #[rv a, iv x, iv y] [(.ref a)] _
    exact kt
  refine own_st sg1 ?_
  obtain ⟨_, T2, L2, X2, hQ2, st2⟩ := own_callI (y := (⟨"java/lang/Record", "<init>", "()V"⟩ : MethodName)) (a := a) X0 hx hZ hown rfl (hw _ (List.mem_of_getElem? (i := 6) rfl)) (hw _ (List.mem_of_getElem? (i := 7) rfl)) (hw _ (List.mem_of_getElem? (i := 9) rfl)) (hw _ (List.mem_of_getElem? (i := 10) rfl)) (by decide) (own_rmrec l Z a0 hw a h0 n0 Z0) e0 (g := (mkF m 1 #[rv a, iv x, iv y] [(.ref a)])) rfl (by rw [hml]; rfl) (argsL := []) (rest := []) (lenOf own_pd0 rfl) rfl (W := 0) (by show 2 * 0 + _ ≤ _; exact Nat.le_of_eq rfl) (hb hby own_d1_1) (by decide) (by decide) (by decide) (by decide)
  obtain ⟨rfl, Nq2, e2⟩ := hQ2
  refine own_st st2 ?_
  have N2 := Fr.app N0 Nq2
  show own_Go p e below _ T2 (mkF m 4 #[rv a, iv x, iv y] [])
  have sg3 : own_V p e below T2 (mkF m 6 #[rv a, iv x, iv y] [(.int x), (.ref a)]) (mkF m 4 #[rv a, iv x, iv y] []) := by
    intro t kt
    refine XS.aloadN X2.here hx rfl (hb hby own_d1_4) rfl rfl ?_
    show own_S p e below T2 m 5 #[rv a, iv x, iv y] [(.ref a)] _
    refine XS.iloadN X2.here hx rfl (hb hby own_d1_5) rfl ?_
    show own_S p e below T2 m 6 #[rv a, iv x, iv y] [(.int x), (.ref a)] _
    exact kt
  refine own_st sg3 ?_
  obtain ⟨T4, h4, X4, e4, W4, st4⟩ := putFN X2 hx hZ hown (hw _ (List.mem_of_getElem? (i := 14) rfl)) Via.refl e2 F1 EE (Or.inr ⟨(hw _ (List.mem_of_getElem? (i := 15) rfl)), rfl, hnm⟩) (hw _ (List.mem_of_getElem? (i := 1) rfl)) (ty := .boolean) (v' := (.int (nar .boolean x))) (by decide) rfl (fits_nar_bool _) (g := (mkF m 6 #[rv a, iv x, iv y] [(.int x), (.ref a)])) rfl rfl (hb hby own_d1_6)
  refine own_st st4 ?_
  have Z4 : n0 ≤ h4.size := by rw [Wr.size W4]; exact Z0
  have N4 := Fr.snoc X4 N2 g_a
  show own_Go p e below _ T4 (mkF m 9 #[rv a, iv x, iv y] [])
  have KK4 := Keep.of_wr W4
  have F2_4 := F2.other W4 (Or.inr (slot_ne (Or.inr (hw _ (List.mem_of_getElem? (i := 17) rfl))) (Or.inr (hw _ (List.mem_of_getElem? (i := 15) rfl))) (by decide) (t := .boolean) (t' := .boolean) (by decide) (by decide)))
  have EE_4 := EE.keep KK4
  have F1_4 := F1.same W4
  rw [hb_x] at F1_4
  have KA4 : Keep h0 h4 [a] := (Keep.refl h0 [a]).wr W4 (Or.inl (List.mem_of_getElem? (i := 0) rfl))
  have sg5 : own_V p e below T4 (mkF m 11 #[rv a, iv x, iv y] [(.int y), (.ref a)]) (mkF m 9 #[rv a, iv x, iv y] []) := by
    intro t kt
    refine XS.aloadN X4.here hx rfl (hb hby own_d1_9) rfl rfl ?_
    show own_S p e below T4 m 10 #[rv a, iv x, iv y] [(.ref a)] _
    refine XS.iloadN X4.here hx rfl (hb hby own_d1_10) rfl ?_
    show own_S p e below T4 m 11 #[rv a, iv x, iv y] [(.int y), (.ref a)] _
    exact kt
  refine own_st sg5 ?_
  obtain ⟨T6, h6, X6, e6, W6, st6⟩ := putFN X4 hx hZ hown (hw _ (List.mem_of_getElem? (i := 16) rfl)) Via.refl e4 F2_4 EE_4 (Or.inr ⟨(hw _ (List.mem_of_getElem? (i := 17) rfl)), rfl, hnm⟩) (hw _ (List.mem_of_getElem? (i := 1) rfl)) (ty := .boolean) (v' := (.int (nar .boolean y))) (by decide) rfl (fits_nar_bool _) (g := (mkF m 11 #[rv a, iv x, iv y] [(.int y), (.ref a)])) rfl rfl (hb hby own_d1_11)
  refine own_st st6 ?_
  have Z6 : n0 ≤ h6.size := by rw [Wr.size W6]; exact Z4
  have N6 := Fr.snoc X6 N4 g_a
  show own_Go p e below _ T6 (mkF m 14 #[rv a, iv x, iv y] [])
  have KK6 := Keep.of_wr W6
  have F1_6 := F1_4.other W6 (Or.inr (slot_ne (Or.inr (hw _ (List.mem_of_getElem? (i := 15) rfl))) (Or.inr (hw _ (List.mem_of_getElem? (i := 17) rfl))) (by decide) (t := .boolean) (t' := .boolean) (by decide) (by decide)))
  have EE_6 := EE_4.keep KK6
  have F2_6 := F2_4.same W6
  rw [hb_y] at F2_6
  have KA6 : Keep h0 h6 [a] := KA4.wr W6 (Or.inl (List.mem_of_getElem? (i := 0) rfl))
  exact own_retV X6 hx Bd.notSynchronized Bd.returns (hb hby own_d1_14) (by decide) (by decide) e6 ⟨rfl, N6, KA6, EE_6, F1_6, F2_6⟩
theorem own_d6_0 : decode prog_74_method_1_code 0 = .ok (.aload_n 0, 1) := by decide +kernel
theorem own_d6_1 : decode prog_74_method_1_code 1 = .ok (.invokespecial 1, 3) := by decide +kernel
theorem own_d6_4 : decode prog_74_method_1_code 4 = .ok (.aload_n 0, 1) := by decide +kernel
theorem own_d6_5 : decode prog_74_method_1_code 5 = .ok (.aload_n 1, 1) := by decide +kernel
theorem own_d6_6 : decode prog_74_method_1_code 6 = .ok (.putfield 7, 3) := by decide +kernel
theorem own_d6_9 : decode prog_74_method_1_code 9 = .ok (.aload_n 0, 1) := by decide +kernel
theorem own_d6_10 : decode prog_74_method_1_code 10 = .ok (.iload_n 2, 1) := by decide +kernel
theorem own_d6_11 : decode prog_74_method_1_code 11 = .ok (.putfield 13, 3) := by decide +kernel
theorem own_d6_14 : decode prog_74_method_1_code 14 = .ok (.return_, 1) := by decide +kernel
theorem own_pn5 : plainName "com/example/kingsround/kingsround/engine/Judgement$Property" = true := by first | (simp [plainName, overriddenIn]; done) | decide +kernel
theorem own_efpy (m : MethodId) (a : Nat) (nm : Nat) (y : Int32) : entryFrame m #[(.ref a), (.ref nm), (.int y)] 3 = mkF m 0 #[rv a, rv nm, iv y] [] := by first | (simp [entryFrame, mkF, argsToLocals, Value.category]; done) | rfl
set_option maxRecDepth 65536 in
set_option maxHeartbeats 40000000 in
theorem own_rmpy (l : Launch) (Z : State) (a0 : Array Value) (hw : ∀ d ∈ tables_1, d.before a0 Z = true) (a : Nat) (nm : Nat) (y : Int32) (h0 : Heap) (n0 : Nat) (Z0 : n0 ≤ h0.size) (EE : Exa Z h0 a "com/example/kingsround/kingsround/engine/Judgement$Property") (F1 : Fld Z h0 a "com/example/kingsround/kingsround/engine/Judgement$Property" "name" "Ljava/lang/String;" .null) (F2 : Fld Z h0 a "com/example/kingsround/kingsround/engine/Judgement$Property" "held" "Z" (.int (0 : Int32))) (g_a : n0 ≤ a) (hb_y : nar .boolean y = y) :
    own_Ct l Z (⟨"com/example/kingsround/kingsround/engine/Judgement$Property", "<init>", "(Ljava/lang/String;Z)V"⟩ : MethodName) prog_74_method_1_code 3 none ({ frames := 2, cells := 0, slots := 0, locals := 24 } : Room) #[(.ref a), (.ref nm), (.int y)] h0 (fun v h L => v = none ∧ Fr n0 L ∧ Keep h0 h [a] ∧ Exa Z h a "com/example/kingsround/kingsround/engine/Judgement$Property" ∧ Fld Z h a "com/example/kingsround/kingsround/engine/Judgement$Property" "name" "Ljava/lang/String;" (.ref nm) ∧ Fld Z h a "com/example/kingsround/kingsround/engine/Judgement$Property" "held" "Z" (.int y)) := by
  refine own_body (y := (⟨"com/example/kingsround/kingsround/engine/Judgement$Property", "<init>", "(Ljava/lang/String;Z)V"⟩ : MethodName)) (Q := fun v h L => v = none ∧ Fr n0 L ∧ Keep h0 h [a] ∧ Exa Z h a "com/example/kingsround/kingsround/engine/Judgement$Property" ∧ Fld Z h a "com/example/kingsround/kingsround/engine/Judgement$Property" "name" "Ljava/lang/String;" (.ref nm) ∧ Fld Z h a "com/example/kingsround/kingsround/engine/Judgement$Property" "held" "Z" (.int y)) (plainFor_of_name own_pn5) ?_
  intro p e s m below meth c s₁ Bd hml0 hZ e0
  have hx := Bd.exec
  have hby := Bd.bytes
  have hml : c.maxLocals = 3 := hml0
  have hown : s.vm.findClass "com/example/kingsround/kingsround/engine/Judgement$Property" = some m.cls := findClass_of_methodNamed Bd.named
  have hnm := (name_of_methodNamed Bd.named Bd.method).1
  have X0 : Stand p l e ({ frames := 2, cells := 0, slots := 0, locals := 24 } : Room) s m #[(.ref a), (.ref nm), (.int y)] below meth c s₁ [] 0 0 := Stand.of_body Bd
  have N0 := Fr.nil n0
  rw [own_efpy]
  have sg1 : own_V p e below s₁ (mkF m 1 #[rv a, rv nm, iv y] [(.ref a)]) (mkF m 0 #[rv a, rv nm, iv y] []) := by
    intro t kt
    refine XS.aloadN X0.here hx rfl (hb hby own_d6_0) rfl rfl ?_
    show own_S p e below s₁ m 1 #[rv a, rv nm, iv y] [(.ref a)] _
    exact kt
  refine own_st sg1 ?_
  obtain ⟨_, T2, L2, X2, hQ2, st2⟩ := own_callI (y := (⟨"java/lang/Record", "<init>", "()V"⟩ : MethodName)) (a := a) X0 hx hZ hown rfl (hw _ (List.mem_of_getElem? (i := 42) rfl)) (hw _ (List.mem_of_getElem? (i := 7) rfl)) (hw _ (List.mem_of_getElem? (i := 9) rfl)) (hw _ (List.mem_of_getElem? (i := 10) rfl)) (by decide) (own_rmrec l Z a0 hw a h0 n0 Z0) e0 (g := (mkF m 1 #[rv a, rv nm, iv y] [(.ref a)])) rfl (by rw [hml]; rfl) (argsL := []) (rest := []) (lenOf own_pd0 rfl) rfl (W := 0) (by show 2 * 0 + _ ≤ _; exact Nat.le_of_eq rfl) (hb hby own_d6_1) (by decide) (by decide) (by decide) (by decide)
  obtain ⟨rfl, Nq2, e2⟩ := hQ2
  refine own_st st2 ?_
  have N2 := Fr.app N0 Nq2
  show own_Go p e below _ T2 (mkF m 4 #[rv a, rv nm, iv y] [])
  have sg3 : own_V p e below T2 (mkF m 6 #[rv a, rv nm, iv y] [(.ref nm), (.ref a)]) (mkF m 4 #[rv a, rv nm, iv y] []) := by
    intro t kt
    refine XS.aloadN X2.here hx rfl (hb hby own_d6_4) rfl rfl ?_
    show own_S p e below T2 m 5 #[rv a, rv nm, iv y] [(.ref a)] _
    refine XS.aloadN X2.here hx rfl (hb hby own_d6_5) rfl rfl ?_
    show own_S p e below T2 m 6 #[rv a, rv nm, iv y] [(.ref nm), (.ref a)] _
    exact kt
  refine own_st sg3 ?_
  obtain ⟨T4, h4, X4, e4, W4, st4⟩ := putF X2 hx hZ hown (host := "") (Or.inl (hw _ (List.mem_of_getElem? (i := 43) rfl))) Via.refl e2 F1 EE (Or.inr ⟨(hw _ (List.mem_of_getElem? (i := 44) rfl)), rfl, hnm⟩) (hw _ (List.mem_of_getElem? (i := 29) rfl)) (ty := (.object "java/lang/String")) (by decide) rfl rfl (g := (mkF m 6 #[rv a, rv nm, iv y] [(.ref nm), (.ref a)])) rfl rfl (hb hby own_d6_6)
  refine own_st st4 ?_
  have Z4 : n0 ≤ h4.size := by rw [Wr.size W4]; exact Z0
  have N4 := Fr.snoc X4 N2 g_a
  show own_Go p e below _ T4 (mkF m 9 #[rv a, rv nm, iv y] [])
  have KK4 := Keep.of_wr W4
  have F2_4 := F2.other W4 (Or.inr (slot_ne (Or.inr (hw _ (List.mem_of_getElem? (i := 46) rfl))) (Or.inr (hw _ (List.mem_of_getElem? (i := 44) rfl))) (by decide) (t := .boolean) (t' := (.object "java/lang/String")) (by decide) (by decide)))
  have EE_4 := EE.keep KK4
  have F1_4 := F1.same W4
  have KA4 : Keep h0 h4 [a] := (Keep.refl h0 [a]).wr W4 (Or.inl (List.mem_of_getElem? (i := 0) rfl))
  have sg5 : own_V p e below T4 (mkF m 11 #[rv a, rv nm, iv y] [(.int y), (.ref a)]) (mkF m 9 #[rv a, rv nm, iv y] []) := by
    intro t kt
    refine XS.aloadN X4.here hx rfl (hb hby own_d6_9) rfl rfl ?_
    show own_S p e below T4 m 10 #[rv a, rv nm, iv y] [(.ref a)] _
    refine XS.iloadN X4.here hx rfl (hb hby own_d6_10) rfl ?_
    show own_S p e below T4 m 11 #[rv a, rv nm, iv y] [(.int y), (.ref a)] _
    exact kt
  refine own_st sg5 ?_
  obtain ⟨T6, h6, X6, e6, W6, st6⟩ := putFN X4 hx hZ hown (hw _ (List.mem_of_getElem? (i := 45) rfl)) Via.refl e4 F2_4 EE_4 (Or.inr ⟨(hw _ (List.mem_of_getElem? (i := 46) rfl)), rfl, hnm⟩) (hw _ (List.mem_of_getElem? (i := 29) rfl)) (ty := .boolean) (v' := (.int (nar .boolean y))) (by decide) rfl (fits_nar_bool _) (g := (mkF m 11 #[rv a, rv nm, iv y] [(.int y), (.ref a)])) rfl rfl (hb hby own_d6_11)
  refine own_st st6 ?_
  have Z6 : n0 ≤ h6.size := by rw [Wr.size W6]; exact Z4
  have N6 := Fr.snoc X6 N4 g_a
  show own_Go p e below _ T6 (mkF m 14 #[rv a, rv nm, iv y] [])
  have KK6 := Keep.of_wr W6
  have F1_6 := F1_4.other W6 (Or.inr (slot_ne (Or.inr (hw _ (List.mem_of_getElem? (i := 44) rfl))) (Or.inr (hw _ (List.mem_of_getElem? (i := 46) rfl))) (by decide) (t := (.object "java/lang/String")) (t' := .boolean) (by decide) (by decide)))
  have EE_6 := EE_4.keep KK6
  have F2_6 := F2_4.same W6
  rw [hb_y] at F2_6
  have KA6 : Keep h0 h6 [a] := KA4.wr W6 (Or.inl (List.mem_of_getElem? (i := 0) rfl))
  exact own_retV X6 hx Bd.notSynchronized Bd.returns (hb hby own_d6_14) (by decide) (by decide) e6 ⟨rfl, N6, KA6, EE_6, F1_6, F2_6⟩
theorem own_d12_0 : decode jdk_31_method_10_code 0 = .ok (.aload_n 0, 1) := by decide +kernel
theorem own_d12_1 : decode jdk_31_method_10_code 1 = .ok (.ifnonnull 11, 3) := by decide +kernel
theorem own_d12_4 : decode jdk_31_method_10_code 4 = .ok (.new 84, 3) := by decide +kernel
theorem own_d12_7 : decode jdk_31_method_10_code 7 = .ok (.dup, 1) := by decide +kernel
theorem own_d12_8 : decode jdk_31_method_10_code 8 = .ok (.invokespecial 86, 3) := by decide +kernel
theorem own_d12_11 : decode jdk_31_method_10_code 11 = .ok (.athrow, 1) := by decide +kernel
theorem own_d12_12 : decode jdk_31_method_10_code 12 = .ok (.aload_n 0, 1) := by decide +kernel
theorem own_d12_13 : decode jdk_31_method_10_code 13 = .ok (.areturn, 1) := by decide +kernel
theorem own_pn6 : plainName "java/util/Objects" = true := by first | (simp [plainName, overriddenIn]; done) | decide +kernel
theorem own_efrnn (m : MethodId) (x : Nat) : entryFrame m #[(.ref x)] 1 = mkF m 0 #[rv x] [] := by first | (simp [entryFrame, mkF, argsToLocals, Value.category]; done) | rfl
set_option maxRecDepth 65536 in
set_option maxHeartbeats 40000000 in
theorem own_rmrnn (l : Launch) (Z : State) (a0 : Array Value) (hw : ∀ d ∈ tables_1, d.before a0 Z = true) (x : Nat) (h0 : Heap) (n0 : Nat) (Z0 : n0 ≤ h0.size) :
    own_Ct l Z (⟨"java/util/Objects", "requireNonNull", "(Ljava/lang/Object;)Ljava/lang/Object;"⟩ : MethodName) jdk_31_method_10_code 1 (some (.object "java/lang/Object")) ({ frames := 0, cells := 0, slots := 0, locals := 0 } : Room) #[(.ref x)] h0 (fun v h L => v = some (.ref x) ∧ Fr n0 L ∧ h = h0) := by
  refine own_body (y := (⟨"java/util/Objects", "requireNonNull", "(Ljava/lang/Object;)Ljava/lang/Object;"⟩ : MethodName)) (Q := fun v h L => v = some (.ref x) ∧ Fr n0 L ∧ h = h0) (plainFor_of_name own_pn6) ?_
  intro p e s m below meth c s₁ Bd hml0 hZ e0
  have hx := Bd.exec
  have hby := Bd.bytes
  have hml : c.maxLocals = 1 := hml0
  have hown : s.vm.findClass "java/util/Objects" = some m.cls := findClass_of_methodNamed Bd.named
  have hnm := (name_of_methodNamed Bd.named Bd.method).1
  have X0 : Stand p l e ({ frames := 0, cells := 0, slots := 0, locals := 0 } : Room) s m #[(.ref x)] below meth c s₁ [] 0 0 := Stand.of_body Bd
  have N0 := Fr.nil n0
  rw [own_efrnn]
  have sg1 : own_V p e below s₁ (mkF m 13 #[rv x] [(.ref x)]) (mkF m 0 #[rv x] []) := by
    intro t kt
    refine XS.aloadN X0.here hx rfl (hb hby own_d12_0) rfl rfl ?_
    show own_S p e below s₁ m 1 #[rv x] [(.ref x)] _
    refine XS.ifnonnullYes X0.here hx rfl (pc0 := 1) (pc' := 12) rfl (hb hby own_d12_1) rfl (by decide) (by decide) ?_
    show own_S p e below s₁ m 12 #[rv x] [] _
    refine XS.aloadN X0.here hx rfl (hb hby own_d12_12) rfl rfl ?_
    show own_S p e below s₁ m 13 #[rv x] [(.ref x)] _
    exact kt
  refine own_st sg1 ?_
  exact own_retR X0 hx Bd.notSynchronized Bd.returns rfl rfl (hb hby own_d12_13) (by decide) (by decide) e0 ⟨rfl, N0, rfl⟩
theorem own_d8_0 : decode jdk_44_method_2_code 0 = .ok (.aload_n 0, 1) := by decide +kernel
theorem own_d8_1 : decode jdk_44_method_2_code 1 = .ok (.invokespecial 1, 3) := by decide +kernel
theorem own_d8_4 : decode jdk_44_method_2_code 4 = .ok (.aload_n 0, 1) := by decide +kernel
theorem own_d8_5 : decode jdk_44_method_2_code 5 = .ok (.aload_n 1, 1) := by decide +kernel
theorem own_d8_6 : decode jdk_44_method_2_code 6 = .ok (.invokestatic 7, 3) := by decide +kernel
theorem own_d8_9 : decode jdk_44_method_2_code 9 = .ok (.putfield 13, 3) := by decide +kernel
theorem own_d8_12 : decode jdk_44_method_2_code 12 = .ok (.aload_n 0, 1) := by decide +kernel
theorem own_d8_13 : decode jdk_44_method_2_code 13 = .ok (.aload_n 2, 1) := by decide +kernel
theorem own_d8_14 : decode jdk_44_method_2_code 14 = .ok (.invokestatic 7, 3) := by decide +kernel
theorem own_d8_17 : decode jdk_44_method_2_code 17 = .ok (.putfield 24, 3) := by decide +kernel
theorem own_d8_20 : decode jdk_44_method_2_code 20 = .ok (.return_, 1) := by decide +kernel
theorem own_pd1 : parseMethodDescriptor "(Ljava/lang/Object;)Ljava/lang/Object;" = some ⟨[(.object "java/lang/Object")], some (.object "java/lang/Object")⟩ := by decide +kernel
theorem own_pn7 : plainName "java/util/ImmutableCollections$List12" = true := by first | (simp [plainName, overriddenIn]; done) | decide +kernel
theorem own_efl12 (m : MethodId) (a : Nat) (x : Nat) (y : Nat) : entryFrame m #[(.ref a), (.ref x), (.ref y)] 3 = mkF m 0 #[rv a, rv x, rv y] [] := by first | (simp [entryFrame, mkF, argsToLocals, Value.category]; done) | rfl
set_option maxRecDepth 65536 in
set_option maxHeartbeats 40000000 in
theorem own_rml12 (l : Launch) (Z : State) (a0 : Array Value) (hw : ∀ d ∈ tables_1, d.before a0 Z = true) (a : Nat) (x : Nat) (y : Nat) (h0 : Heap) (n0 : Nat) (Z0 : n0 ≤ h0.size) (EE : Exa Z h0 a "java/util/ImmutableCollections$List12") (F1 : Fld Z h0 a "java/util/ImmutableCollections$List12" "e0" "Ljava/lang/Object;" .null) (F2 : Fld Z h0 a "java/util/ImmutableCollections$List12" "e1" "Ljava/lang/Object;" .null) (g_a : n0 ≤ a) :
    own_Ct l Z (⟨"java/util/ImmutableCollections$List12", "<init>", "(Ljava/lang/Object;Ljava/lang/Object;)V"⟩ : MethodName) jdk_44_method_2_code 3 none ({ frames := 4, cells := 0, slots := 0, locals := 48 } : Room) #[(.ref a), (.ref x), (.ref y)] h0 (fun v h L => v = none ∧ Fr n0 L ∧ Keep h0 h [a] ∧ Exa Z h a "java/util/ImmutableCollections$List12" ∧ Fld Z h a "java/util/ImmutableCollections$List12" "e0" "Ljava/lang/Object;" (.ref x) ∧ Fld Z h a "java/util/ImmutableCollections$List12" "e1" "Ljava/lang/Object;" (.ref y)) := by
  refine own_body (y := (⟨"java/util/ImmutableCollections$List12", "<init>", "(Ljava/lang/Object;Ljava/lang/Object;)V"⟩ : MethodName)) (Q := fun v h L => v = none ∧ Fr n0 L ∧ Keep h0 h [a] ∧ Exa Z h a "java/util/ImmutableCollections$List12" ∧ Fld Z h a "java/util/ImmutableCollections$List12" "e0" "Ljava/lang/Object;" (.ref x) ∧ Fld Z h a "java/util/ImmutableCollections$List12" "e1" "Ljava/lang/Object;" (.ref y)) (plainFor_of_name own_pn7) ?_
  intro p e s m below meth c s₁ Bd hml0 hZ e0
  have hx := Bd.exec
  have hby := Bd.bytes
  have hml : c.maxLocals = 3 := hml0
  have hown : s.vm.findClass "java/util/ImmutableCollections$List12" = some m.cls := findClass_of_methodNamed Bd.named
  have hnm := (name_of_methodNamed Bd.named Bd.method).1
  have X0 : Stand p l e ({ frames := 4, cells := 0, slots := 0, locals := 48 } : Room) s m #[(.ref a), (.ref x), (.ref y)] below meth c s₁ [] 0 0 := Stand.of_body Bd
  have N0 := Fr.nil n0
  rw [own_efl12]
  have sg1 : own_V p e below s₁ (mkF m 1 #[rv a, rv x, rv y] [(.ref a)]) (mkF m 0 #[rv a, rv x, rv y] []) := by
    intro t kt
    refine XS.aloadN X0.here hx rfl (hb hby own_d8_0) rfl rfl ?_
    show own_S p e below s₁ m 1 #[rv a, rv x, rv y] [(.ref a)] _
    exact kt
  refine own_st sg1 ?_
  obtain ⟨_, T2, L2, X2, hQ2, st2⟩ := own_callI (y := (⟨"java/util/ImmutableCollections$AbstractImmutableList", "<init>", "()V"⟩ : MethodName)) (a := a) X0 hx hZ hown rfl (hw _ (List.mem_of_getElem? (i := 59) rfl)) (hw _ (List.mem_of_getElem? (i := 60) rfl)) (hw _ (List.mem_of_getElem? (i := 63) rfl)) (hw _ (List.mem_of_getElem? (i := 64) rfl)) (by decide) (own_rmail l Z a0 hw a h0 n0 Z0) e0 (g := (mkF m 1 #[rv a, rv x, rv y] [(.ref a)])) rfl (by rw [hml]; rfl) (argsL := []) (rest := []) (lenOf own_pd0 rfl) rfl (W := 0) (by show 2 * 0 + _ ≤ _; exact Nat.le_of_eq rfl) (hb hby own_d8_1) (by decide) (by decide) (by decide) (by decide)
  obtain ⟨rfl, Nq2, e2⟩ := hQ2
  refine own_st st2 ?_
  have N2 := Fr.app N0 Nq2
  show own_Go p e below _ T2 (mkF m 4 #[rv a, rv x, rv y] [])
  have sg3 : own_V p e below T2 (mkF m 6 #[rv a, rv x, rv y] [(.ref x), (.ref a)]) (mkF m 4 #[rv a, rv x, rv y] []) := by
    intro t kt
    refine XS.aloadN X2.here hx rfl (hb hby own_d8_4) rfl rfl ?_
    show own_S p e below T2 m 5 #[rv a, rv x, rv y] [(.ref a)] _
    refine XS.aloadN X2.here hx rfl (hb hby own_d8_5) rfl rfl ?_
    show own_S p e below T2 m 6 #[rv a, rv x, rv y] [(.ref x), (.ref a)] _
    exact kt
  refine own_st sg3 ?_
  obtain ⟨_, T4, L4, X4, hQ4, st4⟩ := own_callS (y := (⟨"java/util/Objects", "requireNonNull", "(Ljava/lang/Object;)Ljava/lang/Object;"⟩ : MethodName)) X2 hx hZ hown (hw _ (List.mem_of_getElem? (i := 78) rfl)) (hw _ (List.mem_of_getElem? (i := 79) rfl)) (hw _ (List.mem_of_getElem? (i := 80) rfl)) (hw _ (List.mem_of_getElem? (i := 81) rfl)) (by decide) (own_rmrnn l Z a0 hw x h0 n0 Z0) e2 (g := (mkF m 6 #[rv a, rv x, rv y] [(.ref x), (.ref a)])) rfl (by rw [hml]; rfl) (argsL := [(.ref x)]) (rest := [(.ref a)]) (lenOf own_pd1 rfl) rfl (W := 1) (by show 2 * 0 + _ ≤ _; exact Nat.le_of_eq rfl) (hb hby own_d8_6) (by decide) (by decide) (by decide) (by decide)
  obtain ⟨rfl, Nq4, e4⟩ := hQ4
  refine own_st st4 ?_
  have N4 := Fr.app N2 Nq4
  show own_Go p e below _ T4 (mkF m 9 #[rv a, rv x, rv y] [(.ref x), (.ref a)])
  obtain ⟨T5, h5, X5, e5, W5, st5⟩ := putF X4 hx hZ hown (host := "") (Or.inl (hw _ (List.mem_of_getElem? (i := 82) rfl))) Via.refl e4 F1 EE (Or.inr ⟨(hw _ (List.mem_of_getElem? (i := 83) rfl)), rfl, hnm⟩) (hw _ (List.mem_of_getElem? (i := 53) rfl)) (ty := (.object "java/lang/Object")) (by decide) rfl rfl (g := (mkF m 9 #[rv a, rv x, rv y] [(.ref x), (.ref a)])) rfl rfl (hb hby own_d8_9)
  refine own_st st5 ?_
  have Z5 : n0 ≤ h5.size := by rw [Wr.size W5]; exact Z0
  have N5 := Fr.snoc X5 N4 g_a
  show own_Go p e below _ T5 (mkF m 12 #[rv a, rv x, rv y] [])
  have KK5 := Keep.of_wr W5
  have F2_5 := F2.other W5 (Or.inr (slot_ne (Or.inr (hw _ (List.mem_of_getElem? (i := 85) rfl))) (Or.inr (hw _ (List.mem_of_getElem? (i := 83) rfl))) (by decide) (t := (.object "java/lang/Object")) (t' := (.object "java/lang/Object")) (by decide) (by decide)))
  have EE_5 := EE.keep KK5
  have F1_5 := F1.same W5
  have KA5 : Keep h0 h5 [a] := (Keep.refl h0 [a]).wr W5 (Or.inl (List.mem_of_getElem? (i := 0) rfl))
  have sg6 : own_V p e below T5 (mkF m 14 #[rv a, rv x, rv y] [(.ref y), (.ref a)]) (mkF m 12 #[rv a, rv x, rv y] []) := by
    intro t kt
    refine XS.aloadN X5.here hx rfl (hb hby own_d8_12) rfl rfl ?_
    show own_S p e below T5 m 13 #[rv a, rv x, rv y] [(.ref a)] _
    refine XS.aloadN X5.here hx rfl (hb hby own_d8_13) rfl rfl ?_
    show own_S p e below T5 m 14 #[rv a, rv x, rv y] [(.ref y), (.ref a)] _
    exact kt
  refine own_st sg6 ?_
  obtain ⟨_, T7, L7, X7, hQ7, st7⟩ := own_callS (y := (⟨"java/util/Objects", "requireNonNull", "(Ljava/lang/Object;)Ljava/lang/Object;"⟩ : MethodName)) X5 hx hZ hown (hw _ (List.mem_of_getElem? (i := 78) rfl)) (hw _ (List.mem_of_getElem? (i := 79) rfl)) (hw _ (List.mem_of_getElem? (i := 80) rfl)) (hw _ (List.mem_of_getElem? (i := 81) rfl)) (by decide) (own_rmrnn l Z a0 hw y h5 n0 Z5) e5 (g := (mkF m 14 #[rv a, rv x, rv y] [(.ref y), (.ref a)])) rfl (by rw [hml]; rfl) (argsL := [(.ref y)]) (rest := [(.ref a)]) (lenOf own_pd1 rfl) rfl (W := 1) (by show 2 * 0 + _ ≤ _; exact Nat.le_of_eq rfl) (hb hby own_d8_14) (by decide) (by decide) (by decide) (by decide)
  obtain ⟨rfl, Nq7, e7⟩ := hQ7
  refine own_st st7 ?_
  have N7 := Fr.app N5 Nq7
  show own_Go p e below _ T7 (mkF m 17 #[rv a, rv x, rv y] [(.ref y), (.ref a)])
  obtain ⟨T8, h8, X8, e8, W8, st8⟩ := putF X7 hx hZ hown (host := "") (Or.inl (hw _ (List.mem_of_getElem? (i := 84) rfl))) Via.refl e7 F2_5 EE_5 (Or.inr ⟨(hw _ (List.mem_of_getElem? (i := 85) rfl)), rfl, hnm⟩) (hw _ (List.mem_of_getElem? (i := 53) rfl)) (ty := (.object "java/lang/Object")) (by decide) rfl rfl (g := (mkF m 17 #[rv a, rv x, rv y] [(.ref y), (.ref a)])) rfl rfl (hb hby own_d8_17)
  refine own_st st8 ?_
  have Z8 : n0 ≤ h8.size := by rw [Wr.size W8]; exact Z5
  have N8 := Fr.snoc X8 N7 g_a
  show own_Go p e below _ T8 (mkF m 20 #[rv a, rv x, rv y] [])
  have KK8 := Keep.of_wr W8
  have F1_8 := F1_5.other W8 (Or.inr (slot_ne (Or.inr (hw _ (List.mem_of_getElem? (i := 83) rfl))) (Or.inr (hw _ (List.mem_of_getElem? (i := 85) rfl))) (by decide) (t := (.object "java/lang/Object")) (t' := (.object "java/lang/Object")) (by decide) (by decide)))
  have EE_8 := EE_5.keep KK8
  have F2_8 := F2_5.same W8
  have KA8 : Keep h0 h8 [a] := KA5.wr W8 (Or.inl (List.mem_of_getElem? (i := 0) rfl))
  exact own_retV X8 hx Bd.notSynchronized Bd.returns (hb hby own_d8_20) (by decide) (by decide) e8 ⟨rfl, N8, KA8, EE_8, F1_8, F2_8⟩
theorem own_d7_0 : decode jdk_40_method_38_code 0 = .ok (.new 96, 3) := by decide +kernel
theorem own_d7_3 : decode jdk_40_method_38_code 3 = .ok (.dup, 1) := by decide +kernel
theorem own_d7_4 : decode jdk_40_method_38_code 4 = .ok (.aload_n 0, 1) := by decide +kernel
theorem own_d7_5 : decode jdk_40_method_38_code 5 = .ok (.aload_n 1, 1) := by decide +kernel
theorem own_d7_6 : decode jdk_40_method_38_code 6 = .ok (.invokespecial 100, 3) := by decide +kernel
theorem own_d7_9 : decode jdk_40_method_38_code 9 = .ok (.areturn, 1) := by decide +kernel
theorem own_pd2 : parseMethodDescriptor "(Ljava/lang/Object;Ljava/lang/Object;)V" = some ⟨[(.object "java/lang/Object"), (.object "java/lang/Object")], none⟩ := by decide +kernel
theorem own_pn8 : plainName "java/util/List" = true := by first | (simp [plainName, overriddenIn]; done) | decide +kernel
theorem own_eflof (m : MethodId) (x : Nat) (y : Nat) : entryFrame m #[(.ref x), (.ref y)] 2 = mkF m 0 #[rv x, rv y] [] := by first | (simp [entryFrame, mkF, argsToLocals, Value.category]; done) | rfl
set_option maxRecDepth 65536 in
set_option maxHeartbeats 40000000 in
theorem own_rmlof (l : Launch) (Z : State) (a0 : Array Value) (hw : ∀ d ∈ tables_1, d.before a0 Z = true) (x : Nat) (y : Nat) (h0 : Heap) (n0 : Nat) (Z0 : n0 ≤ h0.size) :
    own_Ct l Z (⟨"java/util/List", "of", "(Ljava/lang/Object;Ljava/lang/Object;)Ljava/util/List;"⟩ : MethodName) jdk_40_method_38_code 2 (some (.object "java/util/List")) ({ frames := 5, cells := 1, slots := 2, locals := 63 } : Room) #[(.ref x), (.ref y)] h0 (fun v h L => ∃ b : Nat, v = some (.ref b) ∧ Fr n0 L ∧ Keep h0 h [] ∧ h0.size ≤ b ∧ Exa Z h b "java/util/ImmutableCollections$List12" ∧ Fld Z h b "java/util/ImmutableCollections$List12" "e0" "Ljava/lang/Object;" (.ref x) ∧ Fld Z h b "java/util/ImmutableCollections$List12" "e1" "Ljava/lang/Object;" (.ref y)) := by
  refine own_body (y := (⟨"java/util/List", "of", "(Ljava/lang/Object;Ljava/lang/Object;)Ljava/util/List;"⟩ : MethodName)) (Q := fun v h L => ∃ b : Nat, v = some (.ref b) ∧ Fr n0 L ∧ Keep h0 h [] ∧ h0.size ≤ b ∧ Exa Z h b "java/util/ImmutableCollections$List12" ∧ Fld Z h b "java/util/ImmutableCollections$List12" "e0" "Ljava/lang/Object;" (.ref x) ∧ Fld Z h b "java/util/ImmutableCollections$List12" "e1" "Ljava/lang/Object;" (.ref y)) (plainFor_of_name own_pn8) ?_
  intro p e s m below meth c s₁ Bd hml0 hZ e0
  have hx := Bd.exec
  have hby := Bd.bytes
  have hml : c.maxLocals = 2 := hml0
  have hown : s.vm.findClass "java/util/List" = some m.cls := findClass_of_methodNamed Bd.named
  have hnm := (name_of_methodNamed Bd.named Bd.method).1
  have X0 : Stand p l e ({ frames := 5, cells := 1, slots := 2, locals := 63 } : Room) s m #[(.ref x), (.ref y)] below meth c s₁ [] 0 0 := Stand.of_body Bd
  have N0 := Fr.nil n0
  rw [own_eflof]
  obtain ⟨T1, h1, X1, e1, E1, A1, D1, -, st1⟩ := newO X0 hx hZ hown (hw _ (List.mem_of_getElem? (i := 52) rfl)) (hw _ (List.mem_of_getElem? (i := 53) rfl)) (hw _ (List.mem_of_getElem? (i := 54) rfl)) e0 (g := (mkF m 0 #[rv x, rv y] [])) rfl (hb hby own_d7_0) (by decide) (by decide)
  obtain ⟨a1, g1⟩ : ∃ z, z = h0.size := ⟨_, rfl⟩
  rw [← g1] at A1 D1 st1
  refine own_st st1 ?_
  have g_a1 : n0 ≤ a1 := by rw [g1]; exact Z0
  have Z1 : n0 ≤ h1.size := Nat.le_trans Z0 E1.1
  show own_Go p e below _ T1 (mkF m 3 #[rv x, rv y] [(.ref a1)])
  have F0 : Fld Z h1 a1 "java/util/ImmutableCollections$List12" "e0" "Ljava/lang/Object;" .null := D1 (Or.inr (hw _ (List.mem_of_getElem? (i := 83) rfl))) (ty := (.object "java/lang/Object")) (by decide)
  have F1 : Fld Z h1 a1 "java/util/ImmutableCollections$List12" "e1" "Ljava/lang/Object;" .null := D1 (Or.inr (hw _ (List.mem_of_getElem? (i := 85) rfl))) (ty := (.object "java/lang/Object")) (by decide)
  have sg2 : own_V p e below T1 (mkF m 6 #[rv x, rv y] [(.ref y), (.ref x), (.ref a1), (.ref a1)]) (mkF m 3 #[rv x, rv y] [(.ref a1)]) := by
    intro t kt
    refine XS.dup X1.here hx rfl (hb hby own_d7_3) rfl rfl ?_
    show own_S p e below T1 m 4 #[rv x, rv y] [(.ref a1), (.ref a1)] _
    refine XS.aloadN X1.here hx rfl (hb hby own_d7_4) rfl rfl ?_
    show own_S p e below T1 m 5 #[rv x, rv y] [(.ref x), (.ref a1), (.ref a1)] _
    refine XS.aloadN X1.here hx rfl (hb hby own_d7_5) rfl rfl ?_
    show own_S p e below T1 m 6 #[rv x, rv y] [(.ref y), (.ref x), (.ref a1), (.ref a1)] _
    exact kt
  refine own_st sg2 ?_
  obtain ⟨_, T3, L3, X3, hQ3, st3⟩ := own_callI (y := (⟨"java/util/ImmutableCollections$List12", "<init>", "(Ljava/lang/Object;Ljava/lang/Object;)V"⟩ : MethodName)) (a := a1) X1 hx hZ hown rfl (hw _ (List.mem_of_getElem? (i := 55) rfl)) (hw _ (List.mem_of_getElem? (i := 56) rfl)) (hw _ (List.mem_of_getElem? (i := 54) rfl)) (hw _ (List.mem_of_getElem? (i := 58) rfl)) (by decide) (own_rml12 l Z a0 hw a1 x y h1 n0 Z1 A1 F0 F1 g_a1) e1 (g := (mkF m 6 #[rv x, rv y] [(.ref y), (.ref x), (.ref a1), (.ref a1)])) rfl (by rw [hml]; rfl) (argsL := [(.ref x), (.ref y)]) (rest := [(.ref a1)]) (lenOf own_pd2 rfl) rfl (W := 1) (by show 2 * 0 + _ ≤ _; exact Nat.le_of_eq rfl) (hb hby own_d7_6) (by decide) (by decide) (by decide) (by decide)
  obtain ⟨rfl, Nq3, K3, E3, G03, G13⟩ := hQ3
  refine own_st st3 ?_
  have Z3 : n0 ≤ T3.heap.size := Nat.le_trans Z1 K3.1
  have N3 := Fr.app N0 Nq3
  show own_Go p e below _ T3 (mkF m 9 #[rv x, rv y] [(.ref a1)])
  have KK : Keep h0 T3.heap [] := ((Keep.refl h0 []).ext E1).trans K3 (allS (Or.inr (Nat.le_of_eq g1.symm)) all0)
  exact own_retR X3 hx Bd.notSynchronized Bd.returns rfl rfl (hb hby own_d7_9) (by decide) (by decide) rfl ⟨a1, rfl, N3, KK, Nat.le_of_eq g1.symm, E3, G03, G13⟩
theorem own_d13_0 : decode jdk_44_method_3_code 0 = .ok (.aload_n 0, 1) := by decide +kernel
theorem own_d13_1 : decode jdk_44_method_3_code 1 = .ok (.getfield 24, 3) := by decide +kernel
theorem own_d13_4 : decode jdk_44_method_3_code 4 = .ok (.getstatic 19, 3) := by decide +kernel
theorem own_d13_7 : decode jdk_44_method_3_code 7 = .ok (.if_acmp .eq 7, 3) := by decide +kernel
theorem own_d13_10 : decode jdk_44_method_3_code 10 = .ok (.iconst 2, 1) := by decide +kernel
theorem own_d13_11 : decode jdk_44_method_3_code 11 = .ok (.goto 4, 3) := by decide +kernel
theorem own_d13_14 : decode jdk_44_method_3_code 14 = .ok (.iconst 1, 1) := by decide +kernel
theorem own_d13_15 : decode jdk_44_method_3_code 15 = .ok (.ireturn, 1) := by decide +kernel
theorem own_efsiz (m : MethodId) (a : Nat) : entryFrame m #[(.ref a)] 1 = mkF m 0 #[rv a] [] := by first | (simp [entryFrame, mkF, argsToLocals, Value.category]; done) | rfl
set_option maxRecDepth 65536 in
set_option maxHeartbeats 40000000 in
theorem own_rmsiz (l : Launch) (Z : State) (a0 : Array Value) (hw : ∀ d ∈ tables_1, d.before a0 Z = true) (a : Nat) (x y em : Nat) (h0 : Heap) (n0 : Nat) (Z0 : n0 ≤ h0.size) (F0 : Fld Z h0 a "java/util/ImmutableCollections$List12" "e0" "Ljava/lang/Object;" (.ref x)) (F1 : Fld Z h0 a "java/util/ImmutableCollections$List12" "e1" "Ljava/lang/Object;" (.ref y)) (SE : Sta Z h0 "java/util/ImmutableCollections" "EMPTY" "Ljava/lang/Object;" (.ref em)) (hne : y ≠ em) :
    own_Ct l Z (⟨"java/util/ImmutableCollections$List12", "size", "()I"⟩ : MethodName) jdk_44_method_3_code 1 (some .int) ({ frames := 0, cells := 0, slots := 0, locals := 0 } : Room) #[(.ref a)] h0 (fun v h L => v = some (.int 2) ∧ Fr n0 L ∧ h = h0) := by
  refine own_body (y := (⟨"java/util/ImmutableCollections$List12", "size", "()I"⟩ : MethodName)) (Q := fun v h L => v = some (.int 2) ∧ Fr n0 L ∧ h = h0) (plainFor_of_name own_pn7) ?_
  intro p e s m below meth c s₁ Bd hml0 hZ e0
  have hx := Bd.exec
  have hby := Bd.bytes
  have hml : c.maxLocals = 1 := hml0
  have hown : s.vm.findClass "java/util/ImmutableCollections$List12" = some m.cls := findClass_of_methodNamed Bd.named
  have hnm := (name_of_methodNamed Bd.named Bd.method).1
  have X0 : Stand p l e ({ frames := 0, cells := 0, slots := 0, locals := 0 } : Room) s m #[(.ref a)] below meth c s₁ [] 0 0 := Stand.of_body Bd
  have N0 := Fr.nil n0
  rw [own_efsiz]
  have sg1 : own_V p e below s₁ (mkF m 1 #[rv a] [(.ref a)]) (mkF m 0 #[rv a] []) := by
    intro t kt
    refine XS.aloadN X0.here hx rfl (hb hby own_d13_0) rfl rfl ?_
    show own_S p e below s₁ m 1 #[rv a] [(.ref a)] _
    exact kt
  refine own_st sg1 ?_
  obtain ⟨T2, X2, e2, st2⟩ := getF X0 hx hZ hown (host := "") (Or.inl (hw _ (List.mem_of_getElem? (i := 84) rfl))) Via.refl e0 F1 (g := (mkF m 1 #[rv a] [(.ref a)])) rfl rfl (hb hby own_d13_1)
  refine own_st st2 ?_
  show own_Go p e below _ T2 (mkF m 4 #[rv a] [(.ref y)])
  obtain ⟨T3, X3, e3, st3⟩ := getS2 X2 hx hZ hown (Or.inr (hw _ (List.mem_of_getElem? (i := 95) rfl))) Via.refl e2 SE (g := (mkF m 4 #[rv a] [(.ref y)])) rfl (hb hby own_d13_4)
  refine own_st st3 ?_
  show own_Go p e below _ T3 (mkF m 7 #[rv a] [(.ref em), (.ref y)])
  have sg4 : own_V p e below T3 (mkF m 10 #[rv a] []) (mkF m 7 #[rv a] [(.ref em), (.ref y)]) := by
    intro t kt
    exact Jvm.RoadKit.acmp (g := (mkF m 7 #[rv a] [(.ref em), (.ref y)])) X3 hx rfl rfl rfl (pc0 := 7) (pc' := 10) (same := false) rfl (hb hby own_d13_7) rfl (decide_eq_false fun q => hne (Value.ref.inj q)) (by decide) (by decide) kt
  refine own_st sg4 ?_
  have sg5 : own_V p e below T3 (mkF m 15 #[rv a] [(.int (2 : Int32))]) (mkF m 10 #[rv a] []) := by
    intro t kt
    refine XS.iconst X3.here hx rfl (hb hby own_d13_10) ?_
    show own_S p e below T3 m 11 #[rv a] [(.int (2 : Int32))] _
    refine XS.goto X3.here hx rfl (pc0 := 11) (pc' := 15) rfl (hb hby own_d13_11) (by decide) (by decide) ?_
    show own_S p e below T3 m 15 #[rv a] [(.int (2 : Int32))] _
    exact kt
  refine own_st sg5 ?_
  exact own_retI X3 hx Bd.notSynchronized Bd.returns (hb hby own_d13_15) (by decide) (by decide) e3 ⟨rfl, N0, rfl⟩
theorem own_d14_0 : decode jdk_44_method_5_code 0 = .ok (.iload_n 1, 1) := by decide +kernel
theorem own_d14_1 : decode jdk_44_method_5_code 1 = .ok (.ifCond .ne 8, 3) := by decide +kernel
theorem own_d14_4 : decode jdk_44_method_5_code 4 = .ok (.aload_n 0, 1) := by decide +kernel
theorem own_d14_5 : decode jdk_44_method_5_code 5 = .ok (.getfield 13, 3) := by decide +kernel
theorem own_d14_8 : decode jdk_44_method_5_code 8 = .ok (.areturn, 1) := by decide +kernel
theorem own_d14_9 : decode jdk_44_method_5_code 9 = .ok (.iload_n 1, 1) := by decide +kernel
theorem own_d14_10 : decode jdk_44_method_5_code 10 = .ok (.iconst 1, 1) := by decide +kernel
theorem own_d14_11 : decode jdk_44_method_5_code 11 = .ok (.if_icmp .ne 18, 3) := by decide +kernel
theorem own_d14_14 : decode jdk_44_method_5_code 14 = .ok (.aload_n 0, 1) := by decide +kernel
theorem own_d14_15 : decode jdk_44_method_5_code 15 = .ok (.getfield 24, 3) := by decide +kernel
theorem own_d14_18 : decode jdk_44_method_5_code 18 = .ok (.getstatic 19, 3) := by decide +kernel
theorem own_d14_21 : decode jdk_44_method_5_code 21 = .ok (.if_acmp .eq 8, 3) := by decide +kernel
theorem own_d14_24 : decode jdk_44_method_5_code 24 = .ok (.aload_n 0, 1) := by decide +kernel
theorem own_d14_25 : decode jdk_44_method_5_code 25 = .ok (.getfield 24, 3) := by decide +kernel
theorem own_d14_28 : decode jdk_44_method_5_code 28 = .ok (.areturn, 1) := by decide +kernel
theorem own_d14_29 : decode jdk_44_method_5_code 29 = .ok (.aload_n 0, 1) := by decide +kernel
theorem own_d14_30 : decode jdk_44_method_5_code 30 = .ok (.iload_n 1, 1) := by decide +kernel
theorem own_d14_31 : decode jdk_44_method_5_code 31 = .ok (.invokevirtual 27, 3) := by decide +kernel
theorem own_d14_34 : decode jdk_44_method_5_code 34 = .ok (.athrow, 1) := by decide +kernel
theorem own_efget0 (m : MethodId) (a : Nat) (j : Int32) : entryFrame m #[(.ref a), (.int j)] 2 = mkF m 0 #[rv a, iv j] [] := by first | (simp [entryFrame, mkF, argsToLocals, Value.category]; done) | rfl
set_option maxRecDepth 65536 in
set_option maxHeartbeats 40000000 in
theorem own_rmget0 (l : Launch) (Z : State) (a0 : Array Value) (hw : ∀ d ∈ tables_1, d.before a0 Z = true) (a : Nat) (j : Int32) (x y em : Nat) (h0 : Heap) (n0 : Nat) (Z0 : n0 ≤ h0.size) (F0 : Fld Z h0 a "java/util/ImmutableCollections$List12" "e0" "Ljava/lang/Object;" (.ref x)) (F1 : Fld Z h0 a "java/util/ImmutableCollections$List12" "e1" "Ljava/lang/Object;" (.ref y)) (SE : Sta Z h0 "java/util/ImmutableCollections" "EMPTY" "Ljava/lang/Object;" (.ref em)) (hne : y ≠ em) (hj : j = 0) :
    own_Ct l Z (⟨"java/util/ImmutableCollections$List12", "get", "(I)Ljava/lang/Object;"⟩ : MethodName) jdk_44_method_5_code 2 (some (.object "java/lang/Object")) ({ frames := 0, cells := 0, slots := 0, locals := 0 } : Room) #[(.ref a), (.int j)] h0 (fun v h L => v = some (.ref x) ∧ Fr n0 L ∧ h = h0) := by
  refine own_body (y := (⟨"java/util/ImmutableCollections$List12", "get", "(I)Ljava/lang/Object;"⟩ : MethodName)) (Q := fun v h L => v = some (.ref x) ∧ Fr n0 L ∧ h = h0) (plainFor_of_name own_pn7) ?_
  intro p e s m below meth c s₁ Bd hml0 hZ e0
  have hx := Bd.exec
  have hby := Bd.bytes
  have hml : c.maxLocals = 2 := hml0
  have hown : s.vm.findClass "java/util/ImmutableCollections$List12" = some m.cls := findClass_of_methodNamed Bd.named
  have hnm := (name_of_methodNamed Bd.named Bd.method).1
  have X0 : Stand p l e ({ frames := 0, cells := 0, slots := 0, locals := 0 } : Room) s m #[(.ref a), (.int j)] below meth c s₁ [] 0 0 := Stand.of_body Bd
  have N0 := Fr.nil n0
  rw [own_efget0]
  have sg1 : own_V p e below s₁ (mkF m 1 #[rv a, iv j] [(.int j)]) (mkF m 0 #[rv a, iv j] []) := by
    intro t kt
    refine XS.iloadN X0.here hx rfl (hb hby own_d14_0) rfl ?_
    show own_S p e below s₁ m 1 #[rv a, iv j] [(.int j)] _
    exact kt
  refine own_st sg1 ?_
  have hc2 : j = (0 : Int32) := hj
  have sg3 : own_V p e below s₁ (mkF m 4 #[rv a, iv j] []) (mkF m 1 #[rv a, iv j] [(.int j)]) := by
    intro t kt
    refine XS.ifNo X0.here hx rfl (hb hby own_d14_1) rfl ((if0 _ _).trans (teq hc2).2) ?_
    exact kt
  refine own_st sg3 ?_
  have sg4 : own_V p e below s₁ (mkF m 5 #[rv a, iv j] [(.ref a)]) (mkF m 4 #[rv a, iv j] []) := by
    intro t kt
    refine XS.aloadN X0.here hx rfl (hb hby own_d14_4) rfl rfl ?_
    show own_S p e below s₁ m 5 #[rv a, iv j] [(.ref a)] _
    exact kt
  refine own_st sg4 ?_
  obtain ⟨T5, X5, e5, st5⟩ := getF X0 hx hZ hown (host := "") (Or.inl (hw _ (List.mem_of_getElem? (i := 82) rfl))) Via.refl e0 F0 (g := (mkF m 5 #[rv a, iv j] [(.ref a)])) rfl rfl (hb hby own_d14_5)
  refine own_st st5 ?_
  show own_Go p e below _ T5 (mkF m 8 #[rv a, iv j] [(.ref x)])
  exact own_retR X5 hx Bd.notSynchronized Bd.returns rfl rfl (hb hby own_d14_8) (by decide) (by decide) e5 ⟨rfl, N0, rfl⟩
theorem own_efget1 (m : MethodId) (a : Nat) (j : Int32) : entryFrame m #[(.ref a), (.int j)] 2 = mkF m 0 #[rv a, iv j] [] := by first | (simp [entryFrame, mkF, argsToLocals, Value.category]; done) | rfl
set_option maxRecDepth 65536 in
set_option maxHeartbeats 40000000 in
theorem own_rmget1 (l : Launch) (Z : State) (a0 : Array Value) (hw : ∀ d ∈ tables_1, d.before a0 Z = true) (a : Nat) (j : Int32) (x y em : Nat) (h0 : Heap) (n0 : Nat) (Z0 : n0 ≤ h0.size) (F0 : Fld Z h0 a "java/util/ImmutableCollections$List12" "e0" "Ljava/lang/Object;" (.ref x)) (F1 : Fld Z h0 a "java/util/ImmutableCollections$List12" "e1" "Ljava/lang/Object;" (.ref y)) (SE : Sta Z h0 "java/util/ImmutableCollections" "EMPTY" "Ljava/lang/Object;" (.ref em)) (hne : y ≠ em) (hj : j = 1) :
    own_Ct l Z (⟨"java/util/ImmutableCollections$List12", "get", "(I)Ljava/lang/Object;"⟩ : MethodName) jdk_44_method_5_code 2 (some (.object "java/lang/Object")) ({ frames := 0, cells := 0, slots := 0, locals := 0 } : Room) #[(.ref a), (.int j)] h0 (fun v h L => v = some (.ref y) ∧ Fr n0 L ∧ h = h0) := by
  refine own_body (y := (⟨"java/util/ImmutableCollections$List12", "get", "(I)Ljava/lang/Object;"⟩ : MethodName)) (Q := fun v h L => v = some (.ref y) ∧ Fr n0 L ∧ h = h0) (plainFor_of_name own_pn7) ?_
  intro p e s m below meth c s₁ Bd hml0 hZ e0
  have hx := Bd.exec
  have hby := Bd.bytes
  have hml : c.maxLocals = 2 := hml0
  have hown : s.vm.findClass "java/util/ImmutableCollections$List12" = some m.cls := findClass_of_methodNamed Bd.named
  have hnm := (name_of_methodNamed Bd.named Bd.method).1
  have X0 : Stand p l e ({ frames := 0, cells := 0, slots := 0, locals := 0 } : Room) s m #[(.ref a), (.int j)] below meth c s₁ [] 0 0 := Stand.of_body Bd
  have N0 := Fr.nil n0
  rw [own_efget1]
  have sg1 : own_V p e below s₁ (mkF m 1 #[rv a, iv j] [(.int j)]) (mkF m 0 #[rv a, iv j] []) := by
    intro t kt
    refine XS.iloadN X0.here hx rfl (hb hby own_d14_0) rfl ?_
    show own_S p e below s₁ m 1 #[rv a, iv j] [(.int j)] _
    exact kt
  refine own_st sg1 ?_
  have hc2 : ¬ j = (0 : Int32) := by rw [hj]; decide
  have sg3 : own_V p e below s₁ (mkF m 9 #[rv a, iv j] []) (mkF m 1 #[rv a, iv j] [(.int j)]) := by
    intro t kt
    refine XS.ifYes X0.here hx rfl (pc0 := 1) (pc' := 9) rfl (hb hby own_d14_1) rfl ((if0 _ _).trans (feq hc2).2) (by decide) (by decide) ?_
    exact kt
  refine own_st sg3 ?_
  have sg4 : own_V p e below s₁ (mkF m 11 #[rv a, iv j] [(.int (1 : Int32)), (.int j)]) (mkF m 9 #[rv a, iv j] []) := by
    intro t kt
    refine XS.iloadN X0.here hx rfl (hb hby own_d14_9) rfl ?_
    show own_S p e below s₁ m 10 #[rv a, iv j] [(.int j)] _
    refine XS.iconst X0.here hx rfl (hb hby own_d14_10) ?_
    show own_S p e below s₁ m 11 #[rv a, iv j] [(.int (1 : Int32)), (.int j)] _
    exact kt
  refine own_st sg4 ?_
  have hc5 : j = (1 : Int32) := hj
  have sg6 : own_V p e below s₁ (mkF m 14 #[rv a, iv j] []) (mkF m 11 #[rv a, iv j] [(.int (1 : Int32)), (.int j)]) := by
    intro t kt
    refine XS.icmpNo X0.here hx rfl (hb hby own_d14_11) rfl (teq hc5).2 ?_
    exact kt
  refine own_st sg6 ?_
  have sg7 : own_V p e below s₁ (mkF m 15 #[rv a, iv j] [(.ref a)]) (mkF m 14 #[rv a, iv j] []) := by
    intro t kt
    refine XS.aloadN X0.here hx rfl (hb hby own_d14_14) rfl rfl ?_
    show own_S p e below s₁ m 15 #[rv a, iv j] [(.ref a)] _
    exact kt
  refine own_st sg7 ?_
  obtain ⟨T8, X8, e8, st8⟩ := getF X0 hx hZ hown (host := "") (Or.inl (hw _ (List.mem_of_getElem? (i := 84) rfl))) Via.refl e0 F1 (g := (mkF m 15 #[rv a, iv j] [(.ref a)])) rfl rfl (hb hby own_d14_15)
  refine own_st st8 ?_
  show own_Go p e below _ T8 (mkF m 18 #[rv a, iv j] [(.ref y)])
  obtain ⟨T9, X9, e9, st9⟩ := getS2 X8 hx hZ hown (Or.inr (hw _ (List.mem_of_getElem? (i := 95) rfl))) Via.refl e8 SE (g := (mkF m 18 #[rv a, iv j] [(.ref y)])) rfl (hb hby own_d14_18)
  refine own_st st9 ?_
  show own_Go p e below _ T9 (mkF m 21 #[rv a, iv j] [(.ref em), (.ref y)])
  have sg10 : own_V p e below T9 (mkF m 24 #[rv a, iv j] []) (mkF m 21 #[rv a, iv j] [(.ref em), (.ref y)]) := by
    intro t kt
    exact Jvm.RoadKit.acmp (g := (mkF m 21 #[rv a, iv j] [(.ref em), (.ref y)])) X9 hx rfl rfl rfl (pc0 := 21) (pc' := 24) (same := false) rfl (hb hby own_d14_21) rfl (decide_eq_false fun q => hne (Value.ref.inj q)) (by decide) (by decide) kt
  refine own_st sg10 ?_
  have sg11 : own_V p e below T9 (mkF m 25 #[rv a, iv j] [(.ref a)]) (mkF m 24 #[rv a, iv j] []) := by
    intro t kt
    refine XS.aloadN X9.here hx rfl (hb hby own_d14_24) rfl rfl ?_
    show own_S p e below T9 m 25 #[rv a, iv j] [(.ref a)] _
    exact kt
  refine own_st sg11 ?_
  obtain ⟨T12, X12, e12, st12⟩ := getF X9 hx hZ hown (host := "") (Or.inl (hw _ (List.mem_of_getElem? (i := 84) rfl))) Via.refl e9 F1 (g := (mkF m 25 #[rv a, iv j] [(.ref a)])) rfl rfl (hb hby own_d14_25)
  refine own_st st12 ?_
  show own_Go p e below _ T12 (mkF m 28 #[rv a, iv j] [(.ref y)])
  exact own_retR X12 hx Bd.notSynchronized Bd.returns rfl rfl (hb hby own_d14_28) (by decide) (by decide) e12 ⟨rfl, N0, rfl⟩
theorem own_d15_0 : decode prog_74_method_6_code 0 = .ok (.aload_n 0, 1) := by decide +kernel
theorem own_d15_1 : decode prog_74_method_6_code 1 = .ok (.getfield 13, 3) := by decide +kernel
theorem own_d15_4 : decode prog_74_method_6_code 4 = .ok (.ireturn, 1) := by decide +kernel
theorem own_efphe (m : MethodId) (a : Nat) : entryFrame m #[(.ref a)] 1 = mkF m 0 #[rv a] [] := by first | (simp [entryFrame, mkF, argsToLocals, Value.category]; done) | rfl
set_option maxRecDepth 65536 in
set_option maxHeartbeats 40000000 in
theorem own_rmphe (l : Launch) (Z : State) (a0 : Array Value) (hw : ∀ d ∈ tables_1, d.before a0 Z = true) (a : Nat) (z : Int32) (h0 : Heap) (n0 : Nat) (Z0 : n0 ≤ h0.size) (F : Fld Z h0 a "com/example/kingsround/kingsround/engine/Judgement$Property" "held" "Z" (.int z)) (hz : z = 0 ∨ z = 1) :
    own_Ct l Z (⟨"com/example/kingsround/kingsround/engine/Judgement$Property", "held", "()Z"⟩ : MethodName) prog_74_method_6_code 1 (some .boolean) ({ frames := 0, cells := 0, slots := 0, locals := 0 } : Room) #[(.ref a)] h0 (fun v h L => v = some (.int z) ∧ Fr n0 L ∧ h = h0) := by
  refine own_body (y := (⟨"com/example/kingsround/kingsround/engine/Judgement$Property", "held", "()Z"⟩ : MethodName)) (Q := fun v h L => v = some (.int z) ∧ Fr n0 L ∧ h = h0) (plainFor_of_name own_pn5) ?_
  intro p e s m below meth c s₁ Bd hml0 hZ e0
  have hx := Bd.exec
  have hby := Bd.bytes
  have hml : c.maxLocals = 1 := hml0
  have hown : s.vm.findClass "com/example/kingsround/kingsround/engine/Judgement$Property" = some m.cls := findClass_of_methodNamed Bd.named
  have hnm := (name_of_methodNamed Bd.named Bd.method).1
  have X0 : Stand p l e ({ frames := 0, cells := 0, slots := 0, locals := 0 } : Room) s m #[(.ref a)] below meth c s₁ [] 0 0 := Stand.of_body Bd
  have N0 := Fr.nil n0
  rw [own_efphe]
  have sg1 : own_V p e below s₁ (mkF m 1 #[rv a] [(.ref a)]) (mkF m 0 #[rv a] []) := by
    intro t kt
    refine XS.aloadN X0.here hx rfl (hb hby own_d15_0) rfl rfl ?_
    show own_S p e below s₁ m 1 #[rv a] [(.ref a)] _
    exact kt
  refine own_st sg1 ?_
  obtain ⟨T2, X2, e2, st2⟩ := getF X0 hx hZ hown (host := "") (Or.inl (hw _ (List.mem_of_getElem? (i := 45) rfl))) Via.refl e0 F (g := (mkF m 1 #[rv a] [(.ref a)])) rfl rfl (hb hby own_d15_1)
  refine own_st st2 ?_
  show own_Go p e below _ T2 (mkF m 4 #[rv a] [(.int z)])
  exact own_retZ X2 hx Bd.notSynchronized Bd.returns (hb hby own_d15_4) hz (by decide) (by decide) e2 ⟨rfl, N0, rfl⟩
theorem own_d4_0 : decode prog_108_method_5_code 0 = .ok (.aload_n 0, 1) := by decide +kernel
theorem own_d4_1 : decode prog_108_method_5_code 1 = .ok (.getfield 7, 3) := by decide +kernel
theorem own_d4_4 : decode prog_108_method_5_code 4 = .ok (.ifCond .eq 14, 3) := by decide +kernel
theorem own_d4_7 : decode prog_108_method_5_code 7 = .ok (.aload_n 0, 1) := by decide +kernel
theorem own_d4_8 : decode prog_108_method_5_code 8 = .ok (.getfield 13, 3) := by decide +kernel
theorem own_d4_11 : decode prog_108_method_5_code 11 = .ok (.ifCond .eq 7, 3) := by decide +kernel
theorem own_d4_14 : decode prog_108_method_5_code 14 = .ok (.iconst 1, 1) := by decide +kernel
theorem own_d4_15 : decode prog_108_method_5_code 15 = .ok (.goto 4, 3) := by decide +kernel
theorem own_d4_18 : decode prog_108_method_5_code 18 = .ok (.iconst 0, 1) := by decide +kernel
theorem own_d4_19 : decode prog_108_method_5_code 19 = .ok (.ireturn, 1) := by decide +kernel
def own_and (x y : Int32) : Int32 := if x = (0 : Int32) then (0 : Int32) else (if y = (0 : Int32) then (0 : Int32) else (1 : Int32))
theorem own_efvhe (m : MethodId) (a : Nat) : entryFrame m #[(.ref a)] 1 = mkF m 0 #[rv a] [] := by first | (simp [entryFrame, mkF, argsToLocals, Value.category]; done) | rfl
set_option maxRecDepth 65536 in
set_option maxHeartbeats 40000000 in
theorem own_rmvhe (l : Launch) (Z : State) (a0 : Array Value) (hw : ∀ d ∈ tables_1, d.before a0 Z = true) (a : Nat) (x y : Int32) (h0 : Heap) (n0 : Nat) (Z0 : n0 ≤ h0.size) (F1 : Fld Z h0 a "com/example/kingsround/kingsround/engine/Verdict" "agreement" "Z" (.int x)) (F2 : Fld Z h0 a "com/example/kingsround/kingsround/engine/Verdict" "validity" "Z" (.int y)) :
    own_Ct l Z (⟨"com/example/kingsround/kingsround/engine/Verdict", "held", "()Z"⟩ : MethodName) prog_108_method_5_code 1 (some .boolean) ({ frames := 0, cells := 0, slots := 0, locals := 0 } : Room) #[(.ref a)] h0 (fun v h L => v = some (.int (own_and x y)) ∧ Fr n0 L ∧ h = h0) := by
  refine own_body (y := (⟨"com/example/kingsround/kingsround/engine/Verdict", "held", "()Z"⟩ : MethodName)) (Q := fun v h L => v = some (.int (own_and x y)) ∧ Fr n0 L ∧ h = h0) (plainFor_of_name own_pn4) ?_
  intro p e s m below meth c s₁ Bd hml0 hZ e0
  have hx := Bd.exec
  have hby := Bd.bytes
  have hml : c.maxLocals = 1 := hml0
  have hown : s.vm.findClass "com/example/kingsround/kingsround/engine/Verdict" = some m.cls := findClass_of_methodNamed Bd.named
  have hnm := (name_of_methodNamed Bd.named Bd.method).1
  have X0 : Stand p l e ({ frames := 0, cells := 0, slots := 0, locals := 0 } : Room) s m #[(.ref a)] below meth c s₁ [] 0 0 := Stand.of_body Bd
  have N0 := Fr.nil n0
  rw [own_efvhe]
  have sg1 : own_V p e below s₁ (mkF m 1 #[rv a] [(.ref a)]) (mkF m 0 #[rv a] []) := by
    intro t kt
    refine XS.aloadN X0.here hx rfl (hb hby own_d4_0) rfl rfl ?_
    show own_S p e below s₁ m 1 #[rv a] [(.ref a)] _
    exact kt
  refine own_st sg1 ?_
  obtain ⟨T2, X2, e2, st2⟩ := getF X0 hx hZ hown (host := "") (Or.inl (hw _ (List.mem_of_getElem? (i := 14) rfl))) Via.refl e0 F1 (g := (mkF m 1 #[rv a] [(.ref a)])) rfl rfl (hb hby own_d4_1)
  refine own_st st2 ?_
  show own_Go p e below _ T2 (mkF m 4 #[rv a] [(.int x)])
  by_cases hc3 : x = (0 : Int32)
  · skip
    have sg4 : own_V p e below T2 (mkF m 18 #[rv a] []) (mkF m 4 #[rv a] [(.int x)]) := by
      intro t kt
      refine XS.ifYes X2.here hx rfl (pc0 := 4) (pc' := 18) rfl (hb hby own_d4_4) rfl ((if0 _ _).trans (teq hc3).1) (by decide) (by decide) ?_
      exact kt
    refine own_st sg4 ?_
    have sg5 : own_V p e below T2 (mkF m 19 #[rv a] [(.int (0 : Int32))]) (mkF m 18 #[rv a] []) := by
      intro t kt
      refine XS.iconst X2.here hx rfl (hb hby own_d4_18) ?_
      show own_S p e below T2 m 19 #[rv a] [(.int (0 : Int32))] _
      exact kt
    refine own_st sg5 ?_
    have hF : own_and x y = (0 : Int32) := by unfold own_and; rw [if_pos hc3]
    exact own_retZ X2 hx Bd.notSynchronized Bd.returns (hb hby own_d4_19) (by decide) (by decide) (by decide) e2 ⟨by rw [hF], N0, rfl⟩
  have sg6 : own_V p e below T2 (mkF m 7 #[rv a] []) (mkF m 4 #[rv a] [(.int x)]) := by
    intro t kt
    refine XS.ifNo X2.here hx rfl (hb hby own_d4_4) rfl ((if0 _ _).trans (feq hc3).1) ?_
    exact kt
  refine own_st sg6 ?_
  have sg7 : own_V p e below T2 (mkF m 8 #[rv a] [(.ref a)]) (mkF m 7 #[rv a] []) := by
    intro t kt
    refine XS.aloadN X2.here hx rfl (hb hby own_d4_7) rfl rfl ?_
    show own_S p e below T2 m 8 #[rv a] [(.ref a)] _
    exact kt
  refine own_st sg7 ?_
  obtain ⟨T8, X8, e8, st8⟩ := getF X2 hx hZ hown (host := "") (Or.inl (hw _ (List.mem_of_getElem? (i := 16) rfl))) Via.refl e2 F2 (g := (mkF m 8 #[rv a] [(.ref a)])) rfl rfl (hb hby own_d4_8)
  refine own_st st8 ?_
  show own_Go p e below _ T8 (mkF m 11 #[rv a] [(.int y)])
  by_cases hc9 : y = (0 : Int32)
  · skip
    have sg10 : own_V p e below T8 (mkF m 18 #[rv a] []) (mkF m 11 #[rv a] [(.int y)]) := by
      intro t kt
      refine XS.ifYes X8.here hx rfl (pc0 := 11) (pc' := 18) rfl (hb hby own_d4_11) rfl ((if0 _ _).trans (teq hc9).1) (by decide) (by decide) ?_
      exact kt
    refine own_st sg10 ?_
    have sg11 : own_V p e below T8 (mkF m 19 #[rv a] [(.int (0 : Int32))]) (mkF m 18 #[rv a] []) := by
      intro t kt
      refine XS.iconst X8.here hx rfl (hb hby own_d4_18) ?_
      show own_S p e below T8 m 19 #[rv a] [(.int (0 : Int32))] _
      exact kt
    refine own_st sg11 ?_
    have hF : own_and x y = (0 : Int32) := by unfold own_and; rw [if_neg hc3, if_pos hc9]
    exact own_retZ X8 hx Bd.notSynchronized Bd.returns (hb hby own_d4_19) (by decide) (by decide) (by decide) e8 ⟨by rw [hF], N0, rfl⟩
  have sg12 : own_V p e below T8 (mkF m 14 #[rv a] []) (mkF m 11 #[rv a] [(.int y)]) := by
    intro t kt
    refine XS.ifNo X8.here hx rfl (hb hby own_d4_11) rfl ((if0 _ _).trans (feq hc9).1) ?_
    exact kt
  refine own_st sg12 ?_
  have sg13 : own_V p e below T8 (mkF m 19 #[rv a] [(.int (1 : Int32))]) (mkF m 14 #[rv a] []) := by
    intro t kt
    refine XS.iconst X8.here hx rfl (hb hby own_d4_14) ?_
    show own_S p e below T8 m 15 #[rv a] [(.int (1 : Int32))] _
    refine XS.goto X8.here hx rfl (pc0 := 15) (pc' := 19) rfl (hb hby own_d4_15) (by decide) (by decide) ?_
    show own_S p e below T8 m 19 #[rv a] [(.int (1 : Int32))] _
    exact kt
  refine own_st sg13 ?_
  have hF : own_and x y = (1 : Int32) := by unfold own_and; rw [if_neg hc3, if_neg hc9]
  exact own_retZ X8 hx Bd.notSynchronized Bd.returns (hb hby own_d4_19) (by decide) (by decide) (by decide) e8 ⟨by rw [hF], N0, rfl⟩
theorem own_d5_0 : decode prog_108_method_4_code 0 = .ok (.new 47, 3) := by decide +kernel
theorem own_d5_3 : decode prog_108_method_4_code 3 = .ok (.dup, 1) := by decide +kernel
theorem own_d5_4 : decode prog_108_method_4_code 4 = .ok (.ldc 49, 2) := by decide +kernel
theorem own_d5_6 : decode prog_108_method_4_code 6 = .ok (.aload_n 0, 1) := by decide +kernel
theorem own_d5_7 : decode prog_108_method_4_code 7 = .ok (.getfield 7, 3) := by decide +kernel
theorem own_d5_10 : decode prog_108_method_4_code 10 = .ok (.invokespecial 50, 3) := by decide +kernel
theorem own_d5_13 : decode prog_108_method_4_code 13 = .ok (.new 47, 3) := by decide +kernel
theorem own_d5_16 : decode prog_108_method_4_code 16 = .ok (.dup, 1) := by decide +kernel
theorem own_d5_17 : decode prog_108_method_4_code 17 = .ok (.ldc 53, 2) := by decide +kernel
theorem own_d5_19 : decode prog_108_method_4_code 19 = .ok (.aload_n 0, 1) := by decide +kernel
theorem own_d5_20 : decode prog_108_method_4_code 20 = .ok (.getfield 13, 3) := by decide +kernel
theorem own_d5_23 : decode prog_108_method_4_code 23 = .ok (.invokespecial 50, 3) := by decide +kernel
theorem own_d5_26 : decode prog_108_method_4_code 26 = .ok (.invokestatic 54, 3) := by decide +kernel
theorem own_d5_29 : decode prog_108_method_4_code 29 = .ok (.areturn, 1) := by decide +kernel
theorem own_pd3 : parseMethodDescriptor "(Ljava/lang/String;Z)V" = some ⟨[(.object "java/lang/String"), .boolean], none⟩ := by decide +kernel
theorem own_pd4 : parseMethodDescriptor "(Ljava/lang/Object;Ljava/lang/Object;)Ljava/util/List;" = some ⟨[(.object "java/lang/Object"), (.object "java/lang/Object")], some (.object "java/util/List")⟩ := by decide +kernel
theorem own_efprp (m : MethodId) (a : Nat) : entryFrame m #[(.ref a)] 1 = mkF m 0 #[rv a] [] := by first | (simp [entryFrame, mkF, argsToLocals, Value.category]; done) | rfl
set_option maxRecDepth 65536 in
set_option maxHeartbeats 40000000 in
theorem own_rmprp (l : Launch) (Z : State) (a0 : Array Value) (hw : ∀ d ∈ tables_1, d.before a0 Z = true) (a : Nat) (x y : Int32) (h0 : Heap) (n0 : Nat) (Z0 : n0 ≤ h0.size) (F1 : Fld Z h0 a "com/example/kingsround/kingsround/engine/Verdict" "agreement" "Z" (.int x)) (F2 : Fld Z h0 a "com/example/kingsround/kingsround/engine/Verdict" "validity" "Z" (.int y)) (hb_x : nar .boolean x = x) (hb_y : nar .boolean y = y) :
    own_CtW l Z (⟨"com/example/kingsround/kingsround/engine/Verdict", "properties", "()Ljava/util/List;"⟩ : MethodName) prog_108_method_4_code 1 (some (.object "java/util/List")) ({ frames := 6, cells := 7, slots := 82, locals := 76 } : Room) #[(.ref a)] h0 (fun v h L => ∃ b p1 p2 : Nat, v = some (.ref b) ∧ Fr n0 L ∧ Keep h0 h [] ∧ n0 ≤ p2 ∧ Exa Z h b "java/util/ImmutableCollections$List12" ∧ Fld Z h b "java/util/ImmutableCollections$List12" "e0" "Ljava/lang/Object;" (.ref p1) ∧ Fld Z h b "java/util/ImmutableCollections$List12" "e1" "Ljava/lang/Object;" (.ref p2) ∧ Exa Z h p1 "com/example/kingsround/kingsround/engine/Judgement$Property" ∧ Fld Z h p1 "com/example/kingsround/kingsround/engine/Judgement$Property" "held" "Z" (.int x) ∧ Exa Z h p2 "com/example/kingsround/kingsround/engine/Judgement$Property" ∧ Fld Z h p2 "com/example/kingsround/kingsround/engine/Judgement$Property" "held" "Z" (.int y)) := by
  refine own_bodyW (y := (⟨"com/example/kingsround/kingsround/engine/Verdict", "properties", "()Ljava/util/List;"⟩ : MethodName)) (Q := fun v h L => ∃ b p1 p2 : Nat, v = some (.ref b) ∧ Fr n0 L ∧ Keep h0 h [] ∧ n0 ≤ p2 ∧ Exa Z h b "java/util/ImmutableCollections$List12" ∧ Fld Z h b "java/util/ImmutableCollections$List12" "e0" "Ljava/lang/Object;" (.ref p1) ∧ Fld Z h b "java/util/ImmutableCollections$List12" "e1" "Ljava/lang/Object;" (.ref p2) ∧ Exa Z h p1 "com/example/kingsround/kingsround/engine/Judgement$Property" ∧ Fld Z h p1 "com/example/kingsround/kingsround/engine/Judgement$Property" "held" "Z" (.int x) ∧ Exa Z h p2 "com/example/kingsround/kingsround/engine/Judgement$Property" ∧ Fld Z h p2 "com/example/kingsround/kingsround/engine/Judgement$Property" "held" "Z" (.int y)) (plainFor_of_name own_pn4) ?_
  intro p e s m below meth c s₁ Bd hml0 hZ e0
  have hx := Bd.exec
  have hby := Bd.bytes
  have hml : c.maxLocals = 1 := hml0
  have hown : s.vm.findClass "com/example/kingsround/kingsround/engine/Verdict" = some m.cls := findClass_of_methodNamed Bd.named
  have hnm := (name_of_methodNamed Bd.named Bd.method).1
  have X0 : Stand p l e ({ frames := 6, cells := 7, slots := 82, locals := 76 } : Room) s m #[(.ref a)] below meth c s₁ [] 0 0 := Stand.of_body Bd
  have N0 := Fr.nil n0
  rw [own_efprp]
  have wS : ∀ a ∈ Bundle.stringAtoms, a.before a0 Z = true := fun a ha => by
    simp only [Bundle.stringAtoms, List.mem_cons, List.not_mem_nil, or_false] at ha
    rcases ha with rfl | rfl | rfl | rfl | rfl | rfl | rfl
    · exact (hw _ (List.mem_of_getElem? (i := 32) rfl))
    · exact (hw _ (List.mem_of_getElem? (i := 33) rfl))
    · exact (hw _ (List.mem_of_getElem? (i := 34) rfl))
    · exact (hw _ (List.mem_of_getElem? (i := 35) rfl))
    · exact (hw _ (List.mem_of_getElem? (i := 36) rfl))
    · exact (hw _ (List.mem_of_getElem? (i := 37) rfl))
    · exact (hw _ (List.mem_of_getElem? (i := 38) rfl))
  have lta := F1.lt
  obtain ⟨T1, h1, X1, e1, E1, A1, D1, -, st1⟩ := newO X0 hx hZ hown (hw _ (List.mem_of_getElem? (i := 28) rfl)) (hw _ (List.mem_of_getElem? (i := 29) rfl)) (hw _ (List.mem_of_getElem? (i := 30) rfl)) e0 (g := (mkF m 0 #[rv a] [])) rfl (hb hby own_d5_0) (by decide) (by decide)
  obtain ⟨a1, g1⟩ : ∃ z, z = h0.size := ⟨_, rfl⟩
  rw [← g1] at A1 D1 st1
  refine own_st st1 ?_
  have g_a1 : n0 ≤ a1 := by rw [g1]; exact Z0
  have Z1 : n0 ≤ h1.size := Nat.le_trans Z0 E1.1
  have kk1 : 0 ≤ h1.size := Nat.le_trans (Nat.zero_le _) E1.1
  show own_Go p e below _ T1 (mkF m 3 #[rv a] [(.ref a1)])
  have lt_F1_1 : a < a1 := by rw [g1]; exact F1.lt
  have lt_F2_1 : a < a1 := by rw [g1]; exact F2.lt
  have KK1 : Keep h0 h1 [] := (Keep.refl _ _).ext E1
  have F1_1 := F1.keep KK1 nin0
  have F2_1 := F2.keep KK1 nin0
  have sz1 : h0.size ≤ a1 := by rw [g1]; exact (Keep.refl h0 []).1
  have KA1 : Keep h0 h1 [] := (Keep.refl h0 []).ext E1
  have Gname0 : Fld Z h1 a1 "com/example/kingsround/kingsround/engine/Judgement$Property" "name" "Ljava/lang/String;" .null := D1 (Or.inr (hw _ (List.mem_of_getElem? (i := 44) rfl))) (ty := (.object "java/lang/String")) (by decide)
  have Gheld0 : Fld Z h1 a1 "com/example/kingsround/kingsround/engine/Judgement$Property" "held" "Z" (.int (0 : Int32)) := D1 (Or.inr (hw _ (List.mem_of_getElem? (i := 46) rfl))) (ty := .boolean) (by decide)
  have sg2 : own_V p e below T1 (mkF m 4 #[rv a] [(.ref a1), (.ref a1)]) (mkF m 3 #[rv a] [(.ref a1)]) := by
    intro t kt
    refine XS.dup X1.here hx rfl (hb hby own_d5_3) rfl rfl ?_
    show own_S p e below T1 m 4 #[rv a] [(.ref a1), (.ref a1)] _
    exact kt
  refine own_st sg2 ?_
  obtain ⟨a3, T3, h3, k3, X3, e3, E3, I3, kq3, hZ, hown, st3⟩ := ldcS (s := s) (vm0 := s.vm) X1 hx hZ hown (hw _ (List.mem_of_getElem? (i := 31) rfl)) wS e1 ((State.WarmedH.refl s).since 0) kk1 (g := (mkF m 4 #[rv a] [(.ref a1), (.ref a1)])) rfl (hb hby own_d5_4) (n := 36) (by decide) (by decide) (by decide) (by decide)
  refine own_st st3 ?_
  have Z3 : n0 ≤ h3.size := Nat.le_trans Z1 E3.1
  show own_Go p e below _ T3 (mkF m 6 #[rv a] [(.ref a3), (.ref a1), (.ref a1)])
  have KK3 : Keep h1 h3 [] := (Keep.refl _ _).ext E3
  have F1_3 := F1_1.keep KK3 nin0
  have F2_3 := F2_1.keep KK3 nin0
  have EP0_3 := A1.keep KK3
  have Gname0_3 := Gname0.keep KK3 nin0
  have Gheld0_3 := Gheld0.keep KK3 nin0
  have KA3 : Keep h0 h3 [] := KA1.ext E3
  have sg4 : own_V p e below T3 (mkF m 7 #[rv a] [(.ref a), (.ref a3), (.ref a1), (.ref a1)]) (mkF m 6 #[rv a] [(.ref a3), (.ref a1), (.ref a1)]) := by
    intro t kt
    refine XS.aloadN X3.here hx rfl (hb hby own_d5_6) rfl rfl ?_
    show own_S p e below T3 m 7 #[rv a] [(.ref a), (.ref a3), (.ref a1), (.ref a1)] _
    exact kt
  refine own_st sg4 ?_
  obtain ⟨T5, X5, e5, st5⟩ := getF X3 hx hZ hown (host := "") (Or.inl (hw _ (List.mem_of_getElem? (i := 14) rfl))) Via.refl e3 F1_3 (g := (mkF m 7 #[rv a] [(.ref a), (.ref a3), (.ref a1), (.ref a1)])) rfl rfl (hb hby own_d5_7)
  refine own_st st5 ?_
  show own_Go p e below _ T5 (mkF m 10 #[rv a] [(.int x), (.ref a3), (.ref a1), (.ref a1)])
  obtain ⟨_, T6, L6, X6, hQ6, st6⟩ := own_callI (y := (⟨"com/example/kingsround/kingsround/engine/Judgement$Property", "<init>", "(Ljava/lang/String;Z)V"⟩ : MethodName)) (a := a1) X5 hx hZ hown rfl (hw _ (List.mem_of_getElem? (i := 39) rfl)) (hw _ (List.mem_of_getElem? (i := 40) rfl)) (hw _ (List.mem_of_getElem? (i := 30) rfl)) (hw _ (List.mem_of_getElem? (i := 41) rfl)) (by decide) (own_rmpy l Z a0 hw a1 a3 x h3 n0 Z3 EP0_3 Gname0_3 Gheld0_3 g_a1 hb_x) e5 (g := (mkF m 10 #[rv a] [(.int x), (.ref a3), (.ref a1), (.ref a1)])) rfl (by rw [hml]; rfl) (argsL := [(.ref a3), (.int x)]) (rest := [(.ref a1)]) (lenOf own_pd3 rfl) rfl (W := 1) (by show 2 * 0 + _ ≤ _; exact Nat.le_of_eq rfl) (hb hby own_d5_10) (by decide) (by decide) (by decide) (by decide)
  obtain ⟨rfl, Nq6, K6, E6, Gn6, Gh6⟩ := hQ6
  refine own_st st6 ?_
  have Z6 : n0 ≤ T6.heap.size := Nat.le_trans Z3 K6.1
  have kk6 : k3 ≤ T6.heap.size := Nat.le_trans kq3 K6.1
  have N6 := Fr.app N0 Nq6
  show own_Go p e below _ T6 (mkF m 13 #[rv a] [(.ref a1)])
  have F1_6 := F1_3.keep K6 (own_ninS (by omega) nin0)
  have F2_6 := F2_3.keep K6 (own_ninS (by omega) nin0)
  have KA6 : Keep h0 T6.heap [] := KA3.trans K6 (allS (Or.inr sz1) all0)
  obtain ⟨T7, h7, X7, e7, E7, A7, D7, -, st7⟩ := newO X6 hx hZ hown (hw _ (List.mem_of_getElem? (i := 28) rfl)) (hw _ (List.mem_of_getElem? (i := 29) rfl)) (hw _ (List.mem_of_getElem? (i := 30) rfl)) rfl (g := (mkF m 13 #[rv a] [(.ref a1)])) rfl (hb hby own_d5_13) (by decide) (by decide)
  obtain ⟨a7, g7⟩ : ∃ z, z = T6.heap.size := ⟨_, rfl⟩
  rw [← g7] at A7 D7 st7
  refine own_st st7 ?_
  have g_a7 : n0 ≤ a7 := by rw [g7]; exact Z6
  have Z7 : n0 ≤ h7.size := Nat.le_trans Z6 E7.1
  have kk7 : k3 ≤ h7.size := Nat.le_trans kk6 E7.1
  show own_Go p e below _ T7 (mkF m 16 #[rv a] [(.ref a7), (.ref a1)])
  have lt_F1_7 : a < a7 := by rw [g7]; exact F1_6.lt
  have lt_F2_7 : a < a7 := by rw [g7]; exact F2_6.lt
  have lt_EQ0_7 : a1 < a7 := by rw [g7]; exact E6.lt
  have lt_H0_7 : a1 < a7 := by rw [g7]; exact Gh6.lt
  have KK7 : Keep T6.heap h7 [] := (Keep.refl _ _).ext E7
  have F1_7 := F1_6.keep KK7 nin0
  have F2_7 := F2_6.keep KK7 nin0
  have EQ0_7 := E6.keep KK7
  have H0_7 := Gh6.keep KK7 nin0
  have sz7 : h0.size ≤ a7 := by rw [g7]; exact KA6.1
  have KA7 : Keep h0 h7 [] := KA6.ext E7
  have Gname1 : Fld Z h7 a7 "com/example/kingsround/kingsround/engine/Judgement$Property" "name" "Ljava/lang/String;" .null := D7 (Or.inr (hw _ (List.mem_of_getElem? (i := 44) rfl))) (ty := (.object "java/lang/String")) (by decide)
  have Gheld1 : Fld Z h7 a7 "com/example/kingsround/kingsround/engine/Judgement$Property" "held" "Z" (.int (0 : Int32)) := D7 (Or.inr (hw _ (List.mem_of_getElem? (i := 46) rfl))) (ty := .boolean) (by decide)
  have sg8 : own_V p e below T7 (mkF m 17 #[rv a] [(.ref a7), (.ref a7), (.ref a1)]) (mkF m 16 #[rv a] [(.ref a7), (.ref a1)]) := by
    intro t kt
    refine XS.dup X7.here hx rfl (hb hby own_d5_16) rfl rfl ?_
    show own_S p e below T7 m 17 #[rv a] [(.ref a7), (.ref a7), (.ref a1)] _
    exact kt
  refine own_st sg8 ?_
  obtain ⟨a9, T9, h9, k9, X9, e9, E9, I9, kq9, hZ, hown, st9⟩ := ldcS (s := s) (vm0 := T3.vm) X7 hx hZ hown (hw _ (List.mem_of_getElem? (i := 47) rfl)) wS e7 I3 kk7 (g := (mkF m 17 #[rv a] [(.ref a7), (.ref a7), (.ref a1)])) rfl (hb hby own_d5_17) (n := 32) (by decide) (by decide) (by decide) (by decide)
  refine own_st st9 ?_
  have Z9 : n0 ≤ h9.size := Nat.le_trans Z7 E9.1
  show own_Go p e below _ T9 (mkF m 19 #[rv a] [(.ref a9), (.ref a7), (.ref a7), (.ref a1)])
  have KK9 : Keep h7 h9 [] := (Keep.refl _ _).ext E9
  have F1_9 := F1_7.keep KK9 nin0
  have F2_9 := F2_7.keep KK9 nin0
  have EQ0_9 := EQ0_7.keep KK9
  have H0_9 := H0_7.keep KK9 nin0
  have EP1_9 := A7.keep KK9
  have Gname1_9 := Gname1.keep KK9 nin0
  have Gheld1_9 := Gheld1.keep KK9 nin0
  have KA9 : Keep h0 h9 [] := KA7.ext E9
  have sg10 : own_V p e below T9 (mkF m 20 #[rv a] [(.ref a), (.ref a9), (.ref a7), (.ref a7), (.ref a1)]) (mkF m 19 #[rv a] [(.ref a9), (.ref a7), (.ref a7), (.ref a1)]) := by
    intro t kt
    refine XS.aloadN X9.here hx rfl (hb hby own_d5_19) rfl rfl ?_
    show own_S p e below T9 m 20 #[rv a] [(.ref a), (.ref a9), (.ref a7), (.ref a7), (.ref a1)] _
    exact kt
  refine own_st sg10 ?_
  obtain ⟨T11, X11, e11, st11⟩ := getF X9 hx hZ hown (host := "") (Or.inl (hw _ (List.mem_of_getElem? (i := 16) rfl))) Via.refl e9 F2_9 (g := (mkF m 20 #[rv a] [(.ref a), (.ref a9), (.ref a7), (.ref a7), (.ref a1)])) rfl rfl (hb hby own_d5_20)
  refine own_st st11 ?_
  show own_Go p e below _ T11 (mkF m 23 #[rv a] [(.int y), (.ref a9), (.ref a7), (.ref a7), (.ref a1)])
  obtain ⟨_, T12, L12, X12, hQ12, st12⟩ := own_callI (y := (⟨"com/example/kingsround/kingsround/engine/Judgement$Property", "<init>", "(Ljava/lang/String;Z)V"⟩ : MethodName)) (a := a7) X11 hx hZ hown rfl (hw _ (List.mem_of_getElem? (i := 39) rfl)) (hw _ (List.mem_of_getElem? (i := 40) rfl)) (hw _ (List.mem_of_getElem? (i := 30) rfl)) (hw _ (List.mem_of_getElem? (i := 41) rfl)) (by decide) (own_rmpy l Z a0 hw a7 a9 y h9 n0 Z9 EP1_9 Gname1_9 Gheld1_9 g_a7 hb_y) e11 (g := (mkF m 23 #[rv a] [(.int y), (.ref a9), (.ref a7), (.ref a7), (.ref a1)])) rfl (by rw [hml]; rfl) (argsL := [(.ref a9), (.int y)]) (rest := [(.ref a7), (.ref a1)]) (lenOf own_pd3 rfl) rfl (W := 2) (by show 2 * 0 + _ ≤ _; exact Nat.le_of_eq rfl) (hb hby own_d5_23) (by decide) (by decide) (by decide) (by decide)
  obtain ⟨rfl, Nq12, K12, E12, Gn12, Gh12⟩ := hQ12
  refine own_st st12 ?_
  have Z12 : n0 ≤ T12.heap.size := Nat.le_trans Z9 K12.1
  have kk12 : k9 ≤ T12.heap.size := Nat.le_trans kq9 K12.1
  have N12 := Fr.app N6 Nq12
  show own_Go p e below _ T12 (mkF m 26 #[rv a] [(.ref a7), (.ref a1)])
  have F1_12 := F1_9.keep K12 (own_ninS (by omega) nin0)
  have F2_12 := F2_9.keep K12 (own_ninS (by omega) nin0)
  have EQ0_12 := EQ0_9.keep K12
  have H0_12 := H0_9.keep K12 (own_ninS (by omega) nin0)
  have KA12 : Keep h0 T12.heap [] := KA9.trans K12 (allS (Or.inr sz7) all0)
  obtain ⟨_, T13, L13, X13, hQ13, st13⟩ := own_callS (y := (⟨"java/util/List", "of", "(Ljava/lang/Object;Ljava/lang/Object;)Ljava/util/List;"⟩ : MethodName)) X12 hx hZ hown (hw _ (List.mem_of_getElem? (i := 48) rfl)) (hw _ (List.mem_of_getElem? (i := 49) rfl)) (hw _ (List.mem_of_getElem? (i := 50) rfl)) (hw _ (List.mem_of_getElem? (i := 51) rfl)) (by decide) (own_rmlof l Z a0 hw a1 a7 T12.heap n0 Z12) rfl (g := (mkF m 26 #[rv a] [(.ref a7), (.ref a1)])) rfl (by rw [hml]; rfl) (argsL := [(.ref a1), (.ref a7)]) (rest := []) (lenOf own_pd4 rfl) rfl (W := 0) (by show 2 * 0 + _ ≤ _; exact Nat.le_of_eq rfl) (hb hby own_d5_26) (by decide) (by decide) (by decide) (by decide)
  obtain ⟨b13, rfl, Nq13, K13, sb13, E13, J013, J113⟩ := hQ13
  refine own_st st13 ?_
  have Z13 : n0 ≤ T13.heap.size := Nat.le_trans Z12 K13.1
  have kk13 : k9 ≤ T13.heap.size := Nat.le_trans kk12 K13.1
  have N13 := Fr.app N12 Nq13
  show own_Go p e below _ T13 (mkF m 29 #[rv a] [(.ref b13)])
  have F1_13 := F1_12.keep K13 nin0
  have F2_13 := F2_12.keep K13 nin0
  have EQ0_13 := EQ0_12.keep K13
  have H0_13 := H0_12.keep K13 nin0
  have EQ1_13 := E12.keep K13
  have H1_13 := Gh12.keep K13 nin0
  have KA13 : Keep h0 T13.heap [] := KA12.trans K13 all0
  exact own_retRW (s := s) (vm1 := T9.vm) X13 hx I9 kk13 Bd.notSynchronized Bd.returns rfl rfl (hb hby own_d5_29) (by decide) (by decide) rfl ⟨b13, a1, a7, rfl, N13, KA13, g_a7, E13, J013, J113, EQ0_13, H0_13, EQ1_13, H1_13⟩
theorem own_n01 {x : Int32} {P : Prop} [Decidable P] (h : x = (if P then (0 : Int32) else (1 : Int32))) : (x = 0 ∨ x = 1) ∧ nar .boolean x = x := by
  rw [h]; split
  · exact ⟨Or.inl rfl, by decide⟩
  · exact ⟨Or.inr rfl, by decide⟩
theorem own_pd5 : parseMethodDescriptor "(ZZ)V" = some ⟨[.boolean, .boolean], none⟩ := by decide +kernel
theorem own_pd6 : parseMethodDescriptor "()Z" = some ⟨[], some .boolean⟩ := by decide +kernel
theorem own_pd7 : parseMethodDescriptor "()Ljava/util/List;" = some ⟨[], some (.object "java/util/List")⟩ := by decide +kernel
theorem own_pd8 : parseMethodDescriptor "()I" = some ⟨[], some .int⟩ := by decide +kernel
theorem own_pd9 : parseMethodDescriptor "(I)Ljava/lang/Object;" = some ⟨[.int], some (.object "java/lang/Object")⟩ := by decide +kernel
theorem own_pn9 : plainName "com/example/kingsround/kingsround/engine/VerdictHeldPinLaw" = true := by first | (simp [plainName, overriddenIn]; done) | decide +kernel
theorem own_eflaw (m : MethodId) (fl : Int32) : entryFrame m #[(.int fl)] maxLocals = mkF m 0 #[iv fl, .unset, .unset, .unset, .unset, .unset, .unset, .unset] [] := by first | (simp [entryFrame, mkF, argsToLocals, Value.category, maxLocals]; done) | rfl
set_option maxRecDepth 65536 in
set_option maxHeartbeats 40000000 in
theorem own_rmlaw (l : Launch) (Z : State) (a0 : Array Value) (hw : ∀ d ∈ tables_1, d.before a0 Z = true) (fl : Int32) (em : Nat) (h0 : Heap) (n0 : Nat) (Z0 : n0 ≤ h0.size) (SE : Sta Z h0 "java/util/ImmutableCollections" "EMPTY" "Ljava/lang/Object;" (.ref em)) (hem : em < n0) :
    MetFree l Jvm.Pilot.@@N@@.x (head1 (Jvm.Cond.code Jvm.Pilot.@@N@@.x code maxLocals ret :: tables_1) room_1) (fun a U => a = #[(.int fl)] ∧ Z.Warmed39 U.vm ∧ U.heap = h0) (fun _ _ _ _ _ => True) (fun _ U o U' => ∃ v L, o = .returned v ∧ (fun v h L => v = some (.int 1) ∧ Fr n0 L) v U'.heap L ∧ ReturnedEndW U o U' L 8 84) := by
  refine own_bodyW (y := Jvm.Pilot.@@N@@.x) (Q := fun v h L => v = some (.int 1) ∧ Fr n0 L) (plainFor_of_name own_pn9) ?_
  intro p e s m below meth c s₁ Bd hml0 hZ e0
  have hx := Bd.exec
  have hby := Bd.bytes
  have hml : c.maxLocals = 8 := hml0
  have hown : s.vm.findClass "com/example/kingsround/kingsround/engine/VerdictHeldPinLaw" = some m.cls := findClass_of_methodNamed Bd.named
  have hnm := (name_of_methodNamed Bd.named Bd.method).1
  have X0 : Stand p l e room_1 s m #[(.int fl)] below meth c s₁ [] 0 0 := Stand.of_body Bd
  have N0 := Fr.nil n0
  rw [own_eflaw]
  obtain ⟨ua, hua⟩ : ∃ z : Int32, z = (if (fl &&& (1 : Int32)) = (0 : Int32) then (0 : Int32) else (1 : Int32)) := ⟨_, rfl⟩
  have sg2 : own_V p e below s₁ (mkF m 11 #[iv fl, .unset, .unset, .unset, .unset, .unset, .unset, .unset] [(.int ua)]) (mkF m 0 #[iv fl, .unset, .unset, .unset, .unset, .unset, .unset, .unset] []) := by
    intro t kt
    refine XS.iloadN X0.here hx rfl (hb hby at_0) rfl ?_
    show own_S p e below s₁ m 1 #[iv fl, .unset, .unset, .unset, .unset, .unset, .unset, .unset] [(.int fl)] _
    refine XS.iconst X0.here hx rfl (hb hby at_1) ?_
    show own_S p e below s₁ m 2 #[iv fl, .unset, .unset, .unset, .unset, .unset, .unset, .unset] [(.int (1 : Int32)), (.int fl)] _
    refine XS.iand X0.here hx rfl (hb hby at_2) rfl ?_
    show own_S p e below s₁ m 3 #[iv fl, .unset, .unset, .unset, .unset, .unset, .unset, .unset] [(.int (fl &&& (1 : Int32)))] _
    by_cases hc1 : (fl &&& (1 : Int32)) = (0 : Int32)
    · refine XS.ifYes X0.here hx rfl (pc0 := 3) (pc' := 10) rfl (hb hby at_3) rfl ((if0 _ _).trans (teq hc1).1) (by decide) (by decide) ?_
      show own_S p e below s₁ m 10 #[iv fl, .unset, .unset, .unset, .unset, .unset, .unset, .unset] [] _
      refine XS.iconst X0.here hx rfl (hb hby at_10) ?_
      show own_S p e below s₁ m 11 #[iv fl, .unset, .unset, .unset, .unset, .unset, .unset, .unset] [(.int (0 : Int32))] _
      rw [show ua = (0 : Int32) from by rw [hua, if_pos hc1]] at kt
      exact kt
    · refine XS.ifNo X0.here hx rfl (hb hby at_3) rfl ((if0 _ _).trans (feq hc1).1) ?_
      show own_S p e below s₁ m 6 #[iv fl, .unset, .unset, .unset, .unset, .unset, .unset, .unset] [] _
      refine XS.iconst X0.here hx rfl (hb hby at_6) ?_
      show own_S p e below s₁ m 7 #[iv fl, .unset, .unset, .unset, .unset, .unset, .unset, .unset] [(.int (1 : Int32))] _
      refine XS.goto X0.here hx rfl (pc0 := 7) (pc' := 11) rfl (hb hby at_7) (by decide) (by decide) ?_
      show own_S p e below s₁ m 11 #[iv fl, .unset, .unset, .unset, .unset, .unset, .unset, .unset] [(.int (1 : Int32))] _
      rw [show ua = (1 : Int32) from by rw [hua, if_neg hc1]] at kt
      exact kt
  refine own_st sg2 ?_
  obtain ⟨ub, hub⟩ : ∃ z : Int32, z = (if (fl &&& (2 : Int32)) = (0 : Int32) then (0 : Int32) else (1 : Int32)) := ⟨_, rfl⟩
  have sg4 : own_V p e below s₁ (mkF m 23 #[iv fl, iv ua, .unset, .unset, .unset, .unset, .unset, .unset] [(.int ub)]) (mkF m 11 #[iv fl, .unset, .unset, .unset, .unset, .unset, .unset, .unset] [(.int ua)]) := by
    intro t kt
    refine XS.istoreN X0.here hx rfl (hb hby at_11) rfl (l' := #[iv fl, iv ua, .unset, .unset, .unset, .unset, .unset, .unset]) rfl ?_
    show own_S p e below s₁ m 12 #[iv fl, iv ua, .unset, .unset, .unset, .unset, .unset, .unset] [] _
    refine XS.iloadN X0.here hx rfl (hb hby at_12) rfl ?_
    show own_S p e below s₁ m 13 #[iv fl, iv ua, .unset, .unset, .unset, .unset, .unset, .unset] [(.int fl)] _
    refine XS.iconst X0.here hx rfl (hb hby at_13) ?_
    show own_S p e below s₁ m 14 #[iv fl, iv ua, .unset, .unset, .unset, .unset, .unset, .unset] [(.int (2 : Int32)), (.int fl)] _
    refine XS.iand X0.here hx rfl (hb hby at_14) rfl ?_
    show own_S p e below s₁ m 15 #[iv fl, iv ua, .unset, .unset, .unset, .unset, .unset, .unset] [(.int (fl &&& (2 : Int32)))] _
    by_cases hc3 : (fl &&& (2 : Int32)) = (0 : Int32)
    · refine XS.ifYes X0.here hx rfl (pc0 := 15) (pc' := 22) rfl (hb hby at_15) rfl ((if0 _ _).trans (teq hc3).1) (by decide) (by decide) ?_
      show own_S p e below s₁ m 22 #[iv fl, iv ua, .unset, .unset, .unset, .unset, .unset, .unset] [] _
      refine XS.iconst X0.here hx rfl (hb hby at_22) ?_
      show own_S p e below s₁ m 23 #[iv fl, iv ua, .unset, .unset, .unset, .unset, .unset, .unset] [(.int (0 : Int32))] _
      rw [show ub = (0 : Int32) from by rw [hub, if_pos hc3]] at kt
      exact kt
    · refine XS.ifNo X0.here hx rfl (hb hby at_15) rfl ((if0 _ _).trans (feq hc3).1) ?_
      show own_S p e below s₁ m 18 #[iv fl, iv ua, .unset, .unset, .unset, .unset, .unset, .unset] [] _
      refine XS.iconst X0.here hx rfl (hb hby at_18) ?_
      show own_S p e below s₁ m 19 #[iv fl, iv ua, .unset, .unset, .unset, .unset, .unset, .unset] [(.int (1 : Int32))] _
      refine XS.goto X0.here hx rfl (pc0 := 19) (pc' := 23) rfl (hb hby at_19) (by decide) (by decide) ?_
      show own_S p e below s₁ m 23 #[iv fl, iv ua, .unset, .unset, .unset, .unset, .unset, .unset] [(.int (1 : Int32))] _
      rw [show ub = (1 : Int32) from by rw [hub, if_neg hc3]] at kt
      exact kt
  refine own_st sg4 ?_
  have sg5 : own_V p e below s₁ (mkF m 24 #[iv fl, iv ua, iv ub, .unset, .unset, .unset, .unset, .unset] []) (mkF m 23 #[iv fl, iv ua, .unset, .unset, .unset, .unset, .unset, .unset] [(.int ub)]) := by
    intro t kt
    refine XS.istoreN X0.here hx rfl (hb hby at_23) rfl (l' := #[iv fl, iv ua, iv ub, .unset, .unset, .unset, .unset, .unset]) rfl ?_
    show own_S p e below s₁ m 24 #[iv fl, iv ua, iv ub, .unset, .unset, .unset, .unset, .unset] [] _
    exact kt
  refine own_st sg5 ?_
  have na := own_n01 hua
  have nb := own_n01 hub
  obtain ⟨T6, h6, X6, e6, E6, A6, D6, -, st6⟩ := newO X0 hx hZ hown (hw _ (List.mem_of_getElem? (i := 0) rfl)) (hw _ (List.mem_of_getElem? (i := 1) rfl)) (hw _ (List.mem_of_getElem? (i := 2) rfl)) e0 (g := (mkF m 24 #[iv fl, iv ua, iv ub, .unset, .unset, .unset, .unset, .unset] [])) rfl (hb hby at_24) (by decide) (by decide)
  obtain ⟨a6, g6⟩ : ∃ z, z = h0.size := ⟨_, rfl⟩
  rw [← g6] at A6 D6 st6
  refine own_st st6 ?_
  have g_a6 : n0 ≤ a6 := by rw [g6]; exact Z0
  have Z6 : n0 ≤ h6.size := Nat.le_trans Z0 E6.1
  have kk6 : 0 ≤ h6.size := Nat.le_trans (Nat.zero_le _) E6.1
  show own_Go p e below _ T6 (mkF m 27 #[iv fl, iv ua, iv ub, .unset, .unset, .unset, .unset, .unset] [(.ref a6)])
  have Fagreement : Fld Z h6 a6 "com/example/kingsround/kingsround/engine/Verdict" "agreement" "Z" (.int (0 : Int32)) := D6 (Or.inr (hw _ (List.mem_of_getElem? (i := 15) rfl))) (ty := .boolean) (by decide)
  have Fvalidity : Fld Z h6 a6 "com/example/kingsround/kingsround/engine/Verdict" "validity" "Z" (.int (0 : Int32)) := D6 (Or.inr (hw _ (List.mem_of_getElem? (i := 17) rfl))) (ty := .boolean) (by decide)
  have K6 : Keep h0 h6 [] := (Keep.refl h0 []).ext E6
  have sz : h0.size ≤ a6 := Nat.le_of_eq g6.symm
  have sg7 : own_V p e below T6 (mkF m 30 #[iv fl, iv ua, iv ub, .unset, .unset, .unset, .unset, .unset] [(.int ub), (.int ua), (.ref a6), (.ref a6)]) (mkF m 27 #[iv fl, iv ua, iv ub, .unset, .unset, .unset, .unset, .unset] [(.ref a6)]) := by
    intro t kt
    refine XS.dup X6.here hx rfl (hb hby at_27) rfl rfl ?_
    show own_S p e below T6 m 28 #[iv fl, iv ua, iv ub, .unset, .unset, .unset, .unset, .unset] [(.ref a6), (.ref a6)] _
    refine XS.iloadN X6.here hx rfl (hb hby at_28) rfl ?_
    show own_S p e below T6 m 29 #[iv fl, iv ua, iv ub, .unset, .unset, .unset, .unset, .unset] [(.int ua), (.ref a6), (.ref a6)] _
    refine XS.iloadN X6.here hx rfl (hb hby at_29) rfl ?_
    show own_S p e below T6 m 30 #[iv fl, iv ua, iv ub, .unset, .unset, .unset, .unset, .unset] [(.int ub), (.int ua), (.ref a6), (.ref a6)] _
    exact kt
  refine own_st sg7 ?_
  obtain ⟨_, T8, L8, X8, hQ8, st8⟩ := own_callI (y := (⟨"com/example/kingsround/kingsround/engine/Verdict", "<init>", "(ZZ)V"⟩ : MethodName)) (a := a6) X6 hx hZ hown rfl (hw _ (List.mem_of_getElem? (i := 3) rfl)) (hw _ (List.mem_of_getElem? (i := 4) rfl)) (hw _ (List.mem_of_getElem? (i := 2) rfl)) (hw _ (List.mem_of_getElem? (i := 5) rfl)) (by decide) (own_rmvd l Z a0 hw a6 ua ub h6 n0 Z6 A6 Fagreement Fvalidity g_a6 na.2 nb.2) e6 (g := (mkF m 30 #[iv fl, iv ua, iv ub, .unset, .unset, .unset, .unset, .unset] [(.int ub), (.int ua), (.ref a6), (.ref a6)])) rfl (by rw [hml]; rfl) (argsL := [(.int ua), (.int ub)]) (rest := [(.ref a6)]) (lenOf own_pd5 rfl) rfl (W := 1) (by show 2 * 0 + _ ≤ _; exact Nat.le_of_eq rfl) (hb hby at_30) (by decide) (by decide) (by decide) (by decide)
  obtain ⟨rfl, Nq8, K8, E8, G18, G28⟩ := hQ8
  refine own_st st8 ?_
  have Z8 : n0 ≤ T8.heap.size := Nat.le_trans Z6 K8.1
  have kk8 : 0 ≤ T8.heap.size := Nat.le_trans kk6 K8.1
  have N8 := Fr.app N0 Nq8
  show own_Go p e below _ T8 (mkF m 33 #[iv fl, iv ua, iv ub, .unset, .unset, .unset, .unset, .unset] [(.ref a6)])
  have KL : Keep h0 T8.heap [] := K6.trans K8 (allS (Or.inr sz) all0)
  have sg9 : own_V p e below T8 (mkF m 35 #[iv fl, iv ua, iv ub, rv a6, .unset, .unset, .unset, .unset] [(.ref a6)]) (mkF m 33 #[iv fl, iv ua, iv ub, .unset, .unset, .unset, .unset, .unset] [(.ref a6)]) := by
    intro t kt
    refine XS.astoreN X8.here hx rfl (hb hby at_33) rfl rfl (l' := #[iv fl, iv ua, iv ub, rv a6, .unset, .unset, .unset, .unset]) rfl ?_
    show own_S p e below T8 m 34 #[iv fl, iv ua, iv ub, rv a6, .unset, .unset, .unset, .unset] [] _
    refine XS.aloadN X8.here hx rfl (hb hby at_34) rfl rfl ?_
    show own_S p e below T8 m 35 #[iv fl, iv ua, iv ub, rv a6, .unset, .unset, .unset, .unset] [(.ref a6)] _
    exact kt
  refine own_st sg9 ?_
  obtain ⟨_, T10, L10, X10, hQ10, st10⟩ := own_callV (y := (⟨"com/example/kingsround/kingsround/engine/Verdict", "held", "()Z"⟩ : MethodName)) (y0 := (⟨"com/example/kingsround/kingsround/engine/Verdict", "held", "()Z"⟩ : MethodName)) (a := a6) (C := "com/example/kingsround/kingsround/engine/Verdict") X8 hx hZ hown E8 (hw _ (List.mem_of_getElem? (i := 18) rfl)) (hw _ (List.mem_of_getElem? (i := 19) rfl)) (hw _ (List.mem_of_getElem? (i := 21) rfl)) (notFace_of_selects (args := #[]) (mvT hZ (hw _ (List.mem_of_getElem? (i := 21) rfl)))) (hw _ (List.mem_of_getElem? (i := 20) rfl)) (hw _ (List.mem_of_getElem? (i := 2) rfl)) (hw _ (List.mem_of_getElem? (i := 22) rfl)) (by decide) (own_rmvhe l Z a0 hw a6 ua ub T8.heap n0 Z8 G18 G28) rfl (g := (mkF m 35 #[iv fl, iv ua, iv ub, rv a6, .unset, .unset, .unset, .unset] [(.ref a6)])) rfl (by rw [hml]; rfl) (argsL := []) (rest := []) (lenOf own_pd6 rfl) rfl (W := 0) (by show 2 * 0 + _ ≤ _; exact Nat.le_of_eq rfl) (hb hby at_35) (by decide) (by decide) (by decide) (by decide)
  obtain ⟨rfl, Nq10, e10⟩ := hQ10
  refine own_st st10 ?_
  have N10 := Fr.app N8 Nq10
  show own_Go p e below _ T10 (mkF m 38 #[iv fl, iv ua, iv ub, rv a6, .unset, .unset, .unset, .unset] [(.int (own_and ua ub))])
  have sg11 : own_V p e below T10 (mkF m 41 #[iv fl, iv ua, iv ub, rv a6, iv (own_and ua ub), .unset, .unset, .unset] [(.ref a6)]) (mkF m 38 #[iv fl, iv ua, iv ub, rv a6, .unset, .unset, .unset, .unset] [(.int (own_and ua ub))]) := by
    intro t kt
    refine XS.istore X10.here hx rfl (hb hby at_38) rfl (l' := #[iv fl, iv ua, iv ub, rv a6, iv (own_and ua ub), .unset, .unset, .unset]) rfl ?_
    show own_S p e below T10 m 40 #[iv fl, iv ua, iv ub, rv a6, iv (own_and ua ub), .unset, .unset, .unset] [] _
    refine XS.aloadN X10.here hx rfl (hb hby at_40) rfl rfl ?_
    show own_S p e below T10 m 41 #[iv fl, iv ua, iv ub, rv a6, iv (own_and ua ub), .unset, .unset, .unset] [(.ref a6)] _
    exact kt
  refine own_st sg11 ?_
  obtain ⟨_, T12, L12, X12, I12, hZ, hown, hQ12, st12⟩ := own_callVW (y := (⟨"com/example/kingsround/kingsround/engine/Verdict", "properties", "()Ljava/util/List;"⟩ : MethodName)) (y0 := (⟨"com/example/kingsround/kingsround/engine/Verdict", "properties", "()Ljava/util/List;"⟩ : MethodName)) (a := a6) (C := "com/example/kingsround/kingsround/engine/Verdict") (s := s) (vm0 := s.vm) X10 ((State.WarmedH.refl s).since 0) kk8 hx hZ hown E8 (hw _ (List.mem_of_getElem? (i := 23) rfl)) (hw _ (List.mem_of_getElem? (i := 24) rfl)) (hw _ (List.mem_of_getElem? (i := 26) rfl)) (notFace_of_selects (args := #[]) (mvT hZ (hw _ (List.mem_of_getElem? (i := 26) rfl)))) (hw _ (List.mem_of_getElem? (i := 25) rfl)) (hw _ (List.mem_of_getElem? (i := 2) rfl)) (hw _ (List.mem_of_getElem? (i := 27) rfl)) (by decide) (own_rmprp l Z a0 hw a6 ua ub T8.heap n0 Z8 G18 G28 na.2 nb.2) e10 (g := (mkF m 41 #[iv fl, iv ua, iv ub, rv a6, iv (own_and ua ub), .unset, .unset, .unset] [(.ref a6)])) rfl (by rw [hml]; rfl) (argsL := []) (rest := []) (lenOf own_pd7 rfl) rfl (W := 0) (by show 2 * 0 + _ ≤ _; exact Nat.le_of_eq rfl) (hb hby at_41) (by decide) (by decide) (by decide) (by decide)
  obtain ⟨b12, q112, q212, rfl, Nq12, K12, s212, EB12, J012, J112, EP112, H112, EP212, H212⟩ := hQ12
  refine own_st st12 ?_
  have Z12 : n0 ≤ T12.heap.size := Nat.le_trans Z8 K12.1
  have kk12 : 0 ≤ T12.heap.size := Nat.le_trans kk8 K12.1
  have N12 := Fr.app N10 Nq12
  show own_Go p e below _ T12 (mkF m 44 #[iv fl, iv ua, iv ub, rv a6, iv (own_and ua ub), .unset, .unset, .unset] [(.ref b12)])
  have KM : Keep h0 T12.heap [] := KL.trans K12 all0
  have SM := own_Sta.keep SE KM
  have hne : q212 ≠ em := fun z => by rw [z] at s212; exact absurd hem (Nat.not_lt.mpr s212)
  have sg13 : own_V p e below T12 (mkF m 48 #[iv fl, iv ua, iv ub, rv a6, iv (own_and ua ub), rv b12, .unset, .unset] [(.ref b12)]) (mkF m 44 #[iv fl, iv ua, iv ub, rv a6, iv (own_and ua ub), .unset, .unset, .unset] [(.ref b12)]) := by
    intro t kt
    refine XS.astore X12.here hx rfl (hb hby at_44) rfl rfl (l' := #[iv fl, iv ua, iv ub, rv a6, iv (own_and ua ub), rv b12, .unset, .unset]) rfl ?_
    show own_S p e below T12 m 46 #[iv fl, iv ua, iv ub, rv a6, iv (own_and ua ub), rv b12, .unset, .unset] [] _
    refine XS.aload X12.here hx rfl (hb hby at_46) rfl rfl ?_
    show own_S p e below T12 m 48 #[iv fl, iv ua, iv ub, rv a6, iv (own_and ua ub), rv b12, .unset, .unset] [(.ref b12)] _
    exact kt
  refine own_st sg13 ?_
  obtain ⟨_, T14, L14, X14, hQ14, st14⟩ := own_callF (y := (⟨"java/util/ImmutableCollections$List12", "size", "()I"⟩ : MethodName)) (y0 := (⟨"java/util/List", "size", "()I"⟩ : MethodName)) (a := b12) (C := "java/util/ImmutableCollections$List12") X12 hx hZ hown EB12 (hw _ (List.mem_of_getElem? (i := 86) rfl)) (hw _ (List.mem_of_getElem? (i := 87) rfl)) (mvT hZ (hw _ (List.mem_of_getElem? (i := 88) rfl))) (hw _ (List.mem_of_getElem? (i := 89) rfl)) (hw _ (List.mem_of_getElem? (i := 90) rfl)) (hw _ (List.mem_of_getElem? (i := 91) rfl)) (hw _ (List.mem_of_getElem? (i := 92) rfl)) (hw _ (List.mem_of_getElem? (i := 93) rfl)) (hw _ (List.mem_of_getElem? (i := 54) rfl)) (hw _ (List.mem_of_getElem? (i := 94) rfl)) (by decide) (own_rmsiz l Z a0 hw b12  q112 q212 em T12.heap n0 Z12 J012 J112 SM hne) rfl (g := (mkF m 48 #[iv fl, iv ua, iv ub, rv a6, iv (own_and ua ub), rv b12, .unset, .unset] [(.ref b12)])) rfl (by rw [hml]; rfl) (argsL := []) (rest := []) (lenOf own_pd8 rfl) rfl (W := 0) (by show 2 * 0 + _ ≤ _; exact Nat.le_of_eq rfl) (hb hby at_48) (by decide) (by decide) (by decide) (by decide)
  obtain ⟨rfl, Nq14, e14⟩ := hQ14
  refine own_st st14 ?_
  have N14 := Fr.app N12 Nq14
  show own_Go p e below _ T14 (mkF m 53 #[iv fl, iv ua, iv ub, rv a6, iv (own_and ua ub), rv b12, .unset, .unset] [(.int (2 : Int32))])
  have sg15 : own_V p e below T14 (mkF m 62 #[iv fl, iv ua, iv ub, rv a6, iv (own_and ua ub), rv b12, .unset, .unset] [(.int (0 : Int32)), (.ref b12)]) (mkF m 53 #[iv fl, iv ua, iv ub, rv a6, iv (own_and ua ub), rv b12, .unset, .unset] [(.int (2 : Int32))]) := by
    intro t kt
    refine XS.iconst X14.here hx rfl (hb hby at_53) ?_
    show own_S p e below T14 m 54 #[iv fl, iv ua, iv ub, rv a6, iv (own_and ua ub), rv b12, .unset, .unset] [(.int (2 : Int32)), (.int (2 : Int32))] _
    refine XS.icmpYes X14.here hx rfl (pc0 := 54) (pc' := 59) rfl (hb hby at_54) rfl (teq (by decide : (2 : Int32) = (2 : Int32))).1 (by decide) (by decide) ?_
    show own_S p e below T14 m 59 #[iv fl, iv ua, iv ub, rv a6, iv (own_and ua ub), rv b12, .unset, .unset] [] _
    refine XS.aload X14.here hx rfl (hb hby at_59) rfl rfl ?_
    show own_S p e below T14 m 61 #[iv fl, iv ua, iv ub, rv a6, iv (own_and ua ub), rv b12, .unset, .unset] [(.ref b12)] _
    refine XS.iconst X14.here hx rfl (hb hby at_61) ?_
    show own_S p e below T14 m 62 #[iv fl, iv ua, iv ub, rv a6, iv (own_and ua ub), rv b12, .unset, .unset] [(.int (0 : Int32)), (.ref b12)] _
    exact kt
  refine own_st sg15 ?_
  obtain ⟨_, T16, L16, X16, hQ16, st16⟩ := own_callF (y := (⟨"java/util/ImmutableCollections$List12", "get", "(I)Ljava/lang/Object;"⟩ : MethodName)) (y0 := (⟨"java/util/List", "get", "(I)Ljava/lang/Object;"⟩ : MethodName)) (a := b12) (C := "java/util/ImmutableCollections$List12") X14 hx hZ hown EB12 (hw _ (List.mem_of_getElem? (i := 97) rfl)) (hw _ (List.mem_of_getElem? (i := 98) rfl)) (mvT hZ (hw _ (List.mem_of_getElem? (i := 99) rfl))) (hw _ (List.mem_of_getElem? (i := 100) rfl)) (hw _ (List.mem_of_getElem? (i := 101) rfl)) (hw _ (List.mem_of_getElem? (i := 102) rfl)) (hw _ (List.mem_of_getElem? (i := 103) rfl)) (hw _ (List.mem_of_getElem? (i := 93) rfl)) (hw _ (List.mem_of_getElem? (i := 54) rfl)) (hw _ (List.mem_of_getElem? (i := 104) rfl)) (by decide) (own_rmget0 l Z a0 hw b12 (0 : Int32) q112 q212 em T12.heap n0 Z12 J012 J112 SM hne rfl) e14 (g := (mkF m 62 #[iv fl, iv ua, iv ub, rv a6, iv (own_and ua ub), rv b12, .unset, .unset] [(.int (0 : Int32)), (.ref b12)])) rfl (by rw [hml]; rfl) (argsL := [(.int (0 : Int32))]) (rest := []) (lenOf own_pd9 rfl) rfl (W := 0) (by show 2 * 0 + _ ≤ _; exact Nat.le_of_eq rfl) (hb hby at_62) (by decide) (by decide) (by decide) (by decide)
  obtain ⟨rfl, Nq16, e16⟩ := hQ16
  refine own_st st16 ?_
  have N16 := Fr.app N14 Nq16
  show own_Go p e below _ T16 (mkF m 67 #[iv fl, iv ua, iv ub, rv a6, iv (own_and ua ub), rv b12, .unset, .unset] [(.ref q112)])
  obtain ⟨T17, X17, e17, st17⟩ := castY X16 hx hZ hown (hw _ (List.mem_of_getElem? (i := 105) rfl)) e16 (Ins.self EP112) (g := (mkF m 67 #[iv fl, iv ua, iv ub, rv a6, iv (own_and ua ub), rv b12, .unset, .unset] [(.ref q112)])) rfl rfl (hb hby at_67)
  refine own_st st17 ?_
  show own_Go p e below _ T17 (mkF m 70 #[iv fl, iv ua, iv ub, rv a6, iv (own_and ua ub), rv b12, .unset, .unset] [(.ref q112)])
  obtain ⟨_, T18, L18, X18, hQ18, st18⟩ := own_callV (y := (⟨"com/example/kingsround/kingsround/engine/Judgement$Property", "held", "()Z"⟩ : MethodName)) (y0 := (⟨"com/example/kingsround/kingsround/engine/Judgement$Property", "held", "()Z"⟩ : MethodName)) (a := q112) (C := "com/example/kingsround/kingsround/engine/Judgement$Property") X17 hx hZ hown EP112 (hw _ (List.mem_of_getElem? (i := 107) rfl)) (hw _ (List.mem_of_getElem? (i := 108) rfl)) (hw _ (List.mem_of_getElem? (i := 110) rfl)) (notFace_of_selects (args := #[]) (mvT hZ (hw _ (List.mem_of_getElem? (i := 110) rfl)))) (hw _ (List.mem_of_getElem? (i := 109) rfl)) (hw _ (List.mem_of_getElem? (i := 30) rfl)) (hw _ (List.mem_of_getElem? (i := 111) rfl)) (by decide) (own_rmphe l Z a0 hw q112 ua T12.heap n0 Z12 H112 na.1) e17 (g := (mkF m 70 #[iv fl, iv ua, iv ub, rv a6, iv (own_and ua ub), rv b12, .unset, .unset] [(.ref q112)])) rfl (by rw [hml]; rfl) (argsL := []) (rest := []) (lenOf own_pd6 rfl) rfl (W := 0) (by show 2 * 0 + _ ≤ _; exact Nat.le_of_eq rfl) (hb hby at_70) (by decide) (by decide) (by decide) (by decide)
  obtain ⟨rfl, Nq18, e18⟩ := hQ18
  refine own_st st18 ?_
  have N18 := Fr.app N16 Nq18
  show own_Go p e below _ T18 (mkF m 73 #[iv fl, iv ua, iv ub, rv a6, iv (own_and ua ub), rv b12, .unset, .unset] [(.int ua)])
  by_cases hc19 : ua = (0 : Int32)
  · skip
    have sg20 : own_V p e below T18 (mkF m 97 #[iv fl, iv ua, iv ub, rv a6, iv (own_and ua ub), rv b12, .unset, .unset] []) (mkF m 73 #[iv fl, iv ua, iv ub, rv a6, iv (own_and ua ub), rv b12, .unset, .unset] [(.int ua)]) := by
      intro t kt
      refine XS.ifYes X18.here hx rfl (pc0 := 73) (pc' := 97) rfl (hb hby at_73) rfl ((if0 _ _).trans (teq hc19).1) (by decide) (by decide) ?_
      exact kt
    refine own_st sg20 ?_
    have sg21 : own_V p e below T18 (mkF m 100 #[iv fl, iv ua, iv ub, rv a6, iv (own_and ua ub), rv b12, iv (0 : Int32), .unset] []) (mkF m 97 #[iv fl, iv ua, iv ub, rv a6, iv (own_and ua ub), rv b12, .unset, .unset] []) := by
      intro t kt
      refine XS.iconst X18.here hx rfl (hb hby at_97) ?_
      show own_S p e below T18 m 98 #[iv fl, iv ua, iv ub, rv a6, iv (own_and ua ub), rv b12, .unset, .unset] [(.int (0 : Int32))] _
      refine XS.istore X18.here hx rfl (hb hby at_98) rfl (l' := #[iv fl, iv ua, iv ub, rv a6, iv (own_and ua ub), rv b12, iv (0 : Int32), .unset]) rfl ?_
      show own_S p e below T18 m 100 #[iv fl, iv ua, iv ub, rv a6, iv (own_and ua ub), rv b12, iv (0 : Int32), .unset] [] _
      exact kt
    refine own_st sg21 ?_
    obtain ⟨ee, hee⟩ : ∃ z : Int32, z = (if ua = (0 : Int32) then (0 : Int32) else ub) := ⟨_, rfl⟩
    have sg23 : own_V p e below T18 (mkF m 113 #[iv fl, iv ua, iv ub, rv a6, iv (own_and ua ub), rv b12, iv (0 : Int32), iv ee] []) (mkF m 100 #[iv fl, iv ua, iv ub, rv a6, iv (own_and ua ub), rv b12, iv (0 : Int32), .unset] []) := by
      intro t kt
      refine XS.iloadN X18.here hx rfl (hb hby at_100) rfl ?_
      show own_S p e below T18 m 101 #[iv fl, iv ua, iv ub, rv a6, iv (own_and ua ub), rv b12, iv (0 : Int32), .unset] [(.int ua)] _
      by_cases hc22 : ua = (0 : Int32)
      · refine XS.ifYes X18.here hx rfl (pc0 := 101) (pc' := 110) rfl (hb hby at_101) rfl ((if0 _ _).trans (teq hc22).1) (by decide) (by decide) ?_
        show own_S p e below T18 m 110 #[iv fl, iv ua, iv ub, rv a6, iv (own_and ua ub), rv b12, iv (0 : Int32), .unset] [] _
        refine XS.iconst X18.here hx rfl (hb hby at_110) ?_
        show own_S p e below T18 m 111 #[iv fl, iv ua, iv ub, rv a6, iv (own_and ua ub), rv b12, iv (0 : Int32), .unset] [(.int (0 : Int32))] _
        refine XS.istore X18.here hx rfl (hb hby at_111) rfl (l' := #[iv fl, iv ua, iv ub, rv a6, iv (own_and ua ub), rv b12, iv (0 : Int32), iv (0 : Int32)]) rfl ?_
        show own_S p e below T18 m 113 #[iv fl, iv ua, iv ub, rv a6, iv (own_and ua ub), rv b12, iv (0 : Int32), iv (0 : Int32)] [] _
        rw [show ee = (0 : Int32) from by rw [hee, if_pos hc22]] at kt
        exact kt
      · refine XS.ifNo X18.here hx rfl (hb hby at_101) rfl ((if0 _ _).trans (feq hc22).1) ?_
        show own_S p e below T18 m 104 #[iv fl, iv ua, iv ub, rv a6, iv (own_and ua ub), rv b12, iv (0 : Int32), .unset] [] _
        refine XS.iloadN X18.here hx rfl (hb hby at_104) rfl ?_
        show own_S p e below T18 m 105 #[iv fl, iv ua, iv ub, rv a6, iv (own_and ua ub), rv b12, iv (0 : Int32), .unset] [(.int ub)] _
        refine XS.istore X18.here hx rfl (hb hby at_105) rfl (l' := #[iv fl, iv ua, iv ub, rv a6, iv (own_and ua ub), rv b12, iv (0 : Int32), iv ub]) rfl ?_
        show own_S p e below T18 m 107 #[iv fl, iv ua, iv ub, rv a6, iv (own_and ua ub), rv b12, iv (0 : Int32), iv ub] [] _
        refine XS.goto X18.here hx rfl (pc0 := 107) (pc' := 113) rfl (hb hby at_107) (by decide) (by decide) ?_
        show own_S p e below T18 m 113 #[iv fl, iv ua, iv ub, rv a6, iv (own_and ua ub), rv b12, iv (0 : Int32), iv ub] [] _
        rw [show ee = ub from by rw [hee, if_neg hc22]] at kt
        exact kt
    refine own_st sg23 ?_
    obtain ⟨rr, hrr⟩ : ∃ z : Int32, z = (if (own_and ua ub) = ee then (if (own_and ua ub) = (0 : Int32) then (1 : Int32) else (0 : Int32)) else (0 : Int32)) := ⟨_, rfl⟩
    have sg26 : own_V p e below T18 (mkF m 132 #[iv fl, iv ua, iv ub, rv a6, iv (own_and ua ub), rv b12, iv (0 : Int32), iv ee] [(.int rr)]) (mkF m 113 #[iv fl, iv ua, iv ub, rv a6, iv (own_and ua ub), rv b12, iv (0 : Int32), iv ee] []) := by
      intro t kt
      refine XS.iload X18.here hx rfl (hb hby at_113) rfl ?_
      show own_S p e below T18 m 115 #[iv fl, iv ua, iv ub, rv a6, iv (own_and ua ub), rv b12, iv (0 : Int32), iv ee] [(.int (own_and ua ub))] _
      refine XS.iload X18.here hx rfl (hb hby at_115) rfl ?_
      show own_S p e below T18 m 117 #[iv fl, iv ua, iv ub, rv a6, iv (own_and ua ub), rv b12, iv (0 : Int32), iv ee] [(.int ee), (.int (own_and ua ub))] _
      by_cases hc24 : (own_and ua ub) = ee
      · refine XS.icmpNo X18.here hx rfl (hb hby at_117) rfl (teq hc24).2 ?_
        show own_S p e below T18 m 120 #[iv fl, iv ua, iv ub, rv a6, iv (own_and ua ub), rv b12, iv (0 : Int32), iv ee] [] _
        refine XS.iload X18.here hx rfl (hb hby at_120) rfl ?_
        show own_S p e below T18 m 122 #[iv fl, iv ua, iv ub, rv a6, iv (own_and ua ub), rv b12, iv (0 : Int32), iv ee] [(.int (own_and ua ub))] _
        refine XS.iload X18.here hx rfl (hb hby at_122) rfl ?_
        show own_S p e below T18 m 124 #[iv fl, iv ua, iv ub, rv a6, iv (own_and ua ub), rv b12, iv (0 : Int32), iv ee] [(.int (0 : Int32)), (.int (own_and ua ub))] _
        by_cases hc25 : (own_and ua ub) = (0 : Int32)
        · refine XS.icmpNo X18.here hx rfl (hb hby at_124) rfl (teq hc25).2 ?_
          show own_S p e below T18 m 127 #[iv fl, iv ua, iv ub, rv a6, iv (own_and ua ub), rv b12, iv (0 : Int32), iv ee] [] _
          refine XS.iconst X18.here hx rfl (hb hby at_127) ?_
          show own_S p e below T18 m 128 #[iv fl, iv ua, iv ub, rv a6, iv (own_and ua ub), rv b12, iv (0 : Int32), iv ee] [(.int (1 : Int32))] _
          refine XS.goto X18.here hx rfl (pc0 := 128) (pc' := 132) rfl (hb hby at_128) (by decide) (by decide) ?_
          show own_S p e below T18 m 132 #[iv fl, iv ua, iv ub, rv a6, iv (own_and ua ub), rv b12, iv (0 : Int32), iv ee] [(.int (1 : Int32))] _
          rw [show rr = (1 : Int32) from by rw [hrr, if_pos hc24, if_pos hc25]] at kt
          exact kt
        · refine XS.icmpYes X18.here hx rfl (pc0 := 124) (pc' := 131) rfl (hb hby at_124) rfl (feq hc25).2 (by decide) (by decide) ?_
          show own_S p e below T18 m 131 #[iv fl, iv ua, iv ub, rv a6, iv (own_and ua ub), rv b12, iv (0 : Int32), iv ee] [] _
          refine XS.iconst X18.here hx rfl (hb hby at_131) ?_
          show own_S p e below T18 m 132 #[iv fl, iv ua, iv ub, rv a6, iv (own_and ua ub), rv b12, iv (0 : Int32), iv ee] [(.int (0 : Int32))] _
          rw [show rr = (0 : Int32) from by rw [hrr, if_pos hc24, if_neg hc25]] at kt
          exact kt
      · refine XS.icmpYes X18.here hx rfl (pc0 := 117) (pc' := 131) rfl (hb hby at_117) rfl (feq hc24).2 (by decide) (by decide) ?_
        show own_S p e below T18 m 131 #[iv fl, iv ua, iv ub, rv a6, iv (own_and ua ub), rv b12, iv (0 : Int32), iv ee] [] _
        refine XS.iconst X18.here hx rfl (hb hby at_131) ?_
        show own_S p e below T18 m 132 #[iv fl, iv ua, iv ub, rv a6, iv (own_and ua ub), rv b12, iv (0 : Int32), iv ee] [(.int (0 : Int32))] _
        rw [show rr = (0 : Int32) from by rw [hrr, if_neg hc24]] at kt
        exact kt
    refine own_st sg26 ?_
    have hone : rr = 1 := by
      have h1 : own_and ua ub = 0 := if_pos hc19
      have h2 : ee = 0 := by rw [hee, if_pos hc19]
      rw [hrr, h1, h2, if_pos rfl, if_pos rfl]
    rw [hone]
    show own_Go p e below _ T18 (mkF m 132 #[iv fl, iv ua, iv ub, rv a6, iv (own_and ua ub), rv b12, iv (0 : Int32), iv ee] [(.int (1 : Int32))])
    exact own_retZW (s := s) (vm1 := T12.vm) X18 hx I12 (Nat.le_refl _) Bd.notSynchronized Bd.returns (hb hby at_132) (by decide) (by decide) (by decide) e18 ⟨rfl, N18⟩
  have sg27 : own_V p e below T18 (mkF m 76 #[iv fl, iv ua, iv ub, rv a6, iv (own_and ua ub), rv b12, .unset, .unset] []) (mkF m 73 #[iv fl, iv ua, iv ub, rv a6, iv (own_and ua ub), rv b12, .unset, .unset] [(.int ua)]) := by
    intro t kt
    refine XS.ifNo X18.here hx rfl (hb hby at_73) rfl ((if0 _ _).trans (feq hc19).1) ?_
    exact kt
  refine own_st sg27 ?_
  have sg28 : own_V p e below T18 (mkF m 79 #[iv fl, iv ua, iv ub, rv a6, iv (own_and ua ub), rv b12, .unset, .unset] [(.int (1 : Int32)), (.ref b12)]) (mkF m 76 #[iv fl, iv ua, iv ub, rv a6, iv (own_and ua ub), rv b12, .unset, .unset] []) := by
    intro t kt
    refine XS.aload X18.here hx rfl (hb hby at_76) rfl rfl ?_
    show own_S p e below T18 m 78 #[iv fl, iv ua, iv ub, rv a6, iv (own_and ua ub), rv b12, .unset, .unset] [(.ref b12)] _
    refine XS.iconst X18.here hx rfl (hb hby at_78) ?_
    show own_S p e below T18 m 79 #[iv fl, iv ua, iv ub, rv a6, iv (own_and ua ub), rv b12, .unset, .unset] [(.int (1 : Int32)), (.ref b12)] _
    exact kt
  refine own_st sg28 ?_
  obtain ⟨_, T29, L29, X29, hQ29, st29⟩ := own_callF (y := (⟨"java/util/ImmutableCollections$List12", "get", "(I)Ljava/lang/Object;"⟩ : MethodName)) (y0 := (⟨"java/util/List", "get", "(I)Ljava/lang/Object;"⟩ : MethodName)) (a := b12) (C := "java/util/ImmutableCollections$List12") X18 hx hZ hown EB12 (hw _ (List.mem_of_getElem? (i := 97) rfl)) (hw _ (List.mem_of_getElem? (i := 98) rfl)) (mvT hZ (hw _ (List.mem_of_getElem? (i := 99) rfl))) (hw _ (List.mem_of_getElem? (i := 100) rfl)) (hw _ (List.mem_of_getElem? (i := 101) rfl)) (hw _ (List.mem_of_getElem? (i := 102) rfl)) (hw _ (List.mem_of_getElem? (i := 103) rfl)) (hw _ (List.mem_of_getElem? (i := 93) rfl)) (hw _ (List.mem_of_getElem? (i := 54) rfl)) (hw _ (List.mem_of_getElem? (i := 104) rfl)) (by decide) (own_rmget1 l Z a0 hw b12 (1 : Int32) q112 q212 em T12.heap n0 Z12 J012 J112 SM hne rfl) e18 (g := (mkF m 79 #[iv fl, iv ua, iv ub, rv a6, iv (own_and ua ub), rv b12, .unset, .unset] [(.int (1 : Int32)), (.ref b12)])) rfl (by rw [hml]; rfl) (argsL := [(.int (1 : Int32))]) (rest := []) (lenOf own_pd9 rfl) rfl (W := 0) (by show 2 * 0 + _ ≤ _; exact Nat.le_of_eq rfl) (hb hby at_79) (by decide) (by decide) (by decide) (by decide)
  obtain ⟨rfl, Nq29, e29⟩ := hQ29
  refine own_st st29 ?_
  have N29 := Fr.app N18 Nq29
  show own_Go p e below _ T29 (mkF m 84 #[iv fl, iv ua, iv ub, rv a6, iv (own_and ua ub), rv b12, .unset, .unset] [(.ref q212)])
  obtain ⟨T30, X30, e30, st30⟩ := castY X29 hx hZ hown (hw _ (List.mem_of_getElem? (i := 105) rfl)) e29 (Ins.self EP212) (g := (mkF m 84 #[iv fl, iv ua, iv ub, rv a6, iv (own_and ua ub), rv b12, .unset, .unset] [(.ref q212)])) rfl rfl (hb hby at_84)
  refine own_st st30 ?_
  show own_Go p e below _ T30 (mkF m 87 #[iv fl, iv ua, iv ub, rv a6, iv (own_and ua ub), rv b12, .unset, .unset] [(.ref q212)])
  obtain ⟨_, T31, L31, X31, hQ31, st31⟩ := own_callV (y := (⟨"com/example/kingsround/kingsround/engine/Judgement$Property", "held", "()Z"⟩ : MethodName)) (y0 := (⟨"com/example/kingsround/kingsround/engine/Judgement$Property", "held", "()Z"⟩ : MethodName)) (a := q212) (C := "com/example/kingsround/kingsround/engine/Judgement$Property") X30 hx hZ hown EP212 (hw _ (List.mem_of_getElem? (i := 107) rfl)) (hw _ (List.mem_of_getElem? (i := 108) rfl)) (hw _ (List.mem_of_getElem? (i := 110) rfl)) (notFace_of_selects (args := #[]) (mvT hZ (hw _ (List.mem_of_getElem? (i := 110) rfl)))) (hw _ (List.mem_of_getElem? (i := 109) rfl)) (hw _ (List.mem_of_getElem? (i := 30) rfl)) (hw _ (List.mem_of_getElem? (i := 111) rfl)) (by decide) (own_rmphe l Z a0 hw q212 ub T12.heap n0 Z12 H212 nb.1) e30 (g := (mkF m 87 #[iv fl, iv ua, iv ub, rv a6, iv (own_and ua ub), rv b12, .unset, .unset] [(.ref q212)])) rfl (by rw [hml]; rfl) (argsL := []) (rest := []) (lenOf own_pd6 rfl) rfl (W := 0) (by show 2 * 0 + _ ≤ _; exact Nat.le_of_eq rfl) (hb hby at_87) (by decide) (by decide) (by decide) (by decide)
  obtain ⟨rfl, Nq31, e31⟩ := hQ31
  refine own_st st31 ?_
  have N31 := Fr.app N29 Nq31
  show own_Go p e below _ T31 (mkF m 90 #[iv fl, iv ua, iv ub, rv a6, iv (own_and ua ub), rv b12, .unset, .unset] [(.int ub)])
  obtain ⟨al, hal⟩ : ∃ z : Int32, z = (if ub = (0 : Int32) then (0 : Int32) else (1 : Int32)) := ⟨_, rfl⟩
  have sg33 : own_V p e below T31 (mkF m 98 #[iv fl, iv ua, iv ub, rv a6, iv (own_and ua ub), rv b12, .unset, .unset] [(.int al)]) (mkF m 90 #[iv fl, iv ua, iv ub, rv a6, iv (own_and ua ub), rv b12, .unset, .unset] [(.int ub)]) := by
    intro t kt
    by_cases hc32 : ub = (0 : Int32)
    · refine XS.ifYes X31.here hx rfl (pc0 := 90) (pc' := 97) rfl (hb hby at_90) rfl ((if0 _ _).trans (teq hc32).1) (by decide) (by decide) ?_
      show own_S p e below T31 m 97 #[iv fl, iv ua, iv ub, rv a6, iv (own_and ua ub), rv b12, .unset, .unset] [] _
      refine XS.iconst X31.here hx rfl (hb hby at_97) ?_
      show own_S p e below T31 m 98 #[iv fl, iv ua, iv ub, rv a6, iv (own_and ua ub), rv b12, .unset, .unset] [(.int (0 : Int32))] _
      rw [show al = (0 : Int32) from by rw [hal, if_pos hc32]] at kt
      exact kt
    · refine XS.ifNo X31.here hx rfl (hb hby at_90) rfl ((if0 _ _).trans (feq hc32).1) ?_
      show own_S p e below T31 m 93 #[iv fl, iv ua, iv ub, rv a6, iv (own_and ua ub), rv b12, .unset, .unset] [] _
      refine XS.iconst X31.here hx rfl (hb hby at_93) ?_
      show own_S p e below T31 m 94 #[iv fl, iv ua, iv ub, rv a6, iv (own_and ua ub), rv b12, .unset, .unset] [(.int (1 : Int32))] _
      refine XS.goto X31.here hx rfl (pc0 := 94) (pc' := 98) rfl (hb hby at_94) (by decide) (by decide) ?_
      show own_S p e below T31 m 98 #[iv fl, iv ua, iv ub, rv a6, iv (own_and ua ub), rv b12, .unset, .unset] [(.int (1 : Int32))] _
      rw [show al = (1 : Int32) from by rw [hal, if_neg hc32]] at kt
      exact kt
  refine own_st sg33 ?_
  have sg34 : own_V p e below T31 (mkF m 100 #[iv fl, iv ua, iv ub, rv a6, iv (own_and ua ub), rv b12, iv al, .unset] []) (mkF m 98 #[iv fl, iv ua, iv ub, rv a6, iv (own_and ua ub), rv b12, .unset, .unset] [(.int al)]) := by
    intro t kt
    refine XS.istore X31.here hx rfl (hb hby at_98) rfl (l' := #[iv fl, iv ua, iv ub, rv a6, iv (own_and ua ub), rv b12, iv al, .unset]) rfl ?_
    show own_S p e below T31 m 100 #[iv fl, iv ua, iv ub, rv a6, iv (own_and ua ub), rv b12, iv al, .unset] [] _
    exact kt
  refine own_st sg34 ?_
  obtain ⟨ee, hee⟩ : ∃ z : Int32, z = (if ua = (0 : Int32) then (0 : Int32) else ub) := ⟨_, rfl⟩
  have sg36 : own_V p e below T31 (mkF m 113 #[iv fl, iv ua, iv ub, rv a6, iv (own_and ua ub), rv b12, iv al, iv ee] []) (mkF m 100 #[iv fl, iv ua, iv ub, rv a6, iv (own_and ua ub), rv b12, iv al, .unset] []) := by
    intro t kt
    refine XS.iloadN X31.here hx rfl (hb hby at_100) rfl ?_
    show own_S p e below T31 m 101 #[iv fl, iv ua, iv ub, rv a6, iv (own_and ua ub), rv b12, iv al, .unset] [(.int ua)] _
    by_cases hc35 : ua = (0 : Int32)
    · refine XS.ifYes X31.here hx rfl (pc0 := 101) (pc' := 110) rfl (hb hby at_101) rfl ((if0 _ _).trans (teq hc35).1) (by decide) (by decide) ?_
      show own_S p e below T31 m 110 #[iv fl, iv ua, iv ub, rv a6, iv (own_and ua ub), rv b12, iv al, .unset] [] _
      refine XS.iconst X31.here hx rfl (hb hby at_110) ?_
      show own_S p e below T31 m 111 #[iv fl, iv ua, iv ub, rv a6, iv (own_and ua ub), rv b12, iv al, .unset] [(.int (0 : Int32))] _
      refine XS.istore X31.here hx rfl (hb hby at_111) rfl (l' := #[iv fl, iv ua, iv ub, rv a6, iv (own_and ua ub), rv b12, iv al, iv (0 : Int32)]) rfl ?_
      show own_S p e below T31 m 113 #[iv fl, iv ua, iv ub, rv a6, iv (own_and ua ub), rv b12, iv al, iv (0 : Int32)] [] _
      rw [show ee = (0 : Int32) from by rw [hee, if_pos hc35]] at kt
      exact kt
    · refine XS.ifNo X31.here hx rfl (hb hby at_101) rfl ((if0 _ _).trans (feq hc35).1) ?_
      show own_S p e below T31 m 104 #[iv fl, iv ua, iv ub, rv a6, iv (own_and ua ub), rv b12, iv al, .unset] [] _
      refine XS.iloadN X31.here hx rfl (hb hby at_104) rfl ?_
      show own_S p e below T31 m 105 #[iv fl, iv ua, iv ub, rv a6, iv (own_and ua ub), rv b12, iv al, .unset] [(.int ub)] _
      refine XS.istore X31.here hx rfl (hb hby at_105) rfl (l' := #[iv fl, iv ua, iv ub, rv a6, iv (own_and ua ub), rv b12, iv al, iv ub]) rfl ?_
      show own_S p e below T31 m 107 #[iv fl, iv ua, iv ub, rv a6, iv (own_and ua ub), rv b12, iv al, iv ub] [] _
      refine XS.goto X31.here hx rfl (pc0 := 107) (pc' := 113) rfl (hb hby at_107) (by decide) (by decide) ?_
      show own_S p e below T31 m 113 #[iv fl, iv ua, iv ub, rv a6, iv (own_and ua ub), rv b12, iv al, iv ub] [] _
      rw [show ee = ub from by rw [hee, if_neg hc35]] at kt
      exact kt
  refine own_st sg36 ?_
  obtain ⟨rr, hrr⟩ : ∃ z : Int32, z = (if (own_and ua ub) = ee then (if (own_and ua ub) = al then (1 : Int32) else (0 : Int32)) else (0 : Int32)) := ⟨_, rfl⟩
  have sg39 : own_V p e below T31 (mkF m 132 #[iv fl, iv ua, iv ub, rv a6, iv (own_and ua ub), rv b12, iv al, iv ee] [(.int rr)]) (mkF m 113 #[iv fl, iv ua, iv ub, rv a6, iv (own_and ua ub), rv b12, iv al, iv ee] []) := by
    intro t kt
    refine XS.iload X31.here hx rfl (hb hby at_113) rfl ?_
    show own_S p e below T31 m 115 #[iv fl, iv ua, iv ub, rv a6, iv (own_and ua ub), rv b12, iv al, iv ee] [(.int (own_and ua ub))] _
    refine XS.iload X31.here hx rfl (hb hby at_115) rfl ?_
    show own_S p e below T31 m 117 #[iv fl, iv ua, iv ub, rv a6, iv (own_and ua ub), rv b12, iv al, iv ee] [(.int ee), (.int (own_and ua ub))] _
    by_cases hc37 : (own_and ua ub) = ee
    · refine XS.icmpNo X31.here hx rfl (hb hby at_117) rfl (teq hc37).2 ?_
      show own_S p e below T31 m 120 #[iv fl, iv ua, iv ub, rv a6, iv (own_and ua ub), rv b12, iv al, iv ee] [] _
      refine XS.iload X31.here hx rfl (hb hby at_120) rfl ?_
      show own_S p e below T31 m 122 #[iv fl, iv ua, iv ub, rv a6, iv (own_and ua ub), rv b12, iv al, iv ee] [(.int (own_and ua ub))] _
      refine XS.iload X31.here hx rfl (hb hby at_122) rfl ?_
      show own_S p e below T31 m 124 #[iv fl, iv ua, iv ub, rv a6, iv (own_and ua ub), rv b12, iv al, iv ee] [(.int al), (.int (own_and ua ub))] _
      by_cases hc38 : (own_and ua ub) = al
      · refine XS.icmpNo X31.here hx rfl (hb hby at_124) rfl (teq hc38).2 ?_
        show own_S p e below T31 m 127 #[iv fl, iv ua, iv ub, rv a6, iv (own_and ua ub), rv b12, iv al, iv ee] [] _
        refine XS.iconst X31.here hx rfl (hb hby at_127) ?_
        show own_S p e below T31 m 128 #[iv fl, iv ua, iv ub, rv a6, iv (own_and ua ub), rv b12, iv al, iv ee] [(.int (1 : Int32))] _
        refine XS.goto X31.here hx rfl (pc0 := 128) (pc' := 132) rfl (hb hby at_128) (by decide) (by decide) ?_
        show own_S p e below T31 m 132 #[iv fl, iv ua, iv ub, rv a6, iv (own_and ua ub), rv b12, iv al, iv ee] [(.int (1 : Int32))] _
        rw [show rr = (1 : Int32) from by rw [hrr, if_pos hc37, if_pos hc38]] at kt
        exact kt
      · refine XS.icmpYes X31.here hx rfl (pc0 := 124) (pc' := 131) rfl (hb hby at_124) rfl (feq hc38).2 (by decide) (by decide) ?_
        show own_S p e below T31 m 131 #[iv fl, iv ua, iv ub, rv a6, iv (own_and ua ub), rv b12, iv al, iv ee] [] _
        refine XS.iconst X31.here hx rfl (hb hby at_131) ?_
        show own_S p e below T31 m 132 #[iv fl, iv ua, iv ub, rv a6, iv (own_and ua ub), rv b12, iv al, iv ee] [(.int (0 : Int32))] _
        rw [show rr = (0 : Int32) from by rw [hrr, if_pos hc37, if_neg hc38]] at kt
        exact kt
    · refine XS.icmpYes X31.here hx rfl (pc0 := 117) (pc' := 131) rfl (hb hby at_117) rfl (feq hc37).2 (by decide) (by decide) ?_
      show own_S p e below T31 m 131 #[iv fl, iv ua, iv ub, rv a6, iv (own_and ua ub), rv b12, iv al, iv ee] [] _
      refine XS.iconst X31.here hx rfl (hb hby at_131) ?_
      show own_S p e below T31 m 132 #[iv fl, iv ua, iv ub, rv a6, iv (own_and ua ub), rv b12, iv al, iv ee] [(.int (0 : Int32))] _
      rw [show rr = (0 : Int32) from by rw [hrr, if_neg hc37]] at kt
      exact kt
  refine own_st sg39 ?_
  have hone : rr = 1 := by
    have h2 : ee = ub := by rw [hee, if_neg hc19]
    have h3 : own_and ua ub = (if ub = (0 : Int32) then (0 : Int32) else (1 : Int32)) := if_neg hc19
    rcases nb.1 with z | z
    · rw [if_pos z] at h3 hal
      rw [hrr, h3, hal, h2, z, if_pos rfl, if_pos rfl]
    · have z1 : ¬ ub = 0 := by rw [z]; decide
      rw [if_neg z1] at h3 hal
      rw [hrr, h3, hal, h2, z, if_pos rfl, if_pos rfl]
  rw [hone]
  show own_Go p e below _ T31 (mkF m 132 #[iv fl, iv ua, iv ub, rv a6, iv (own_and ua ub), rv b12, iv al, iv ee] [(.int (1 : Int32))])
  exact own_retZW (s := s) (vm1 := T12.vm) X31 hx I12 (Nat.le_refl _) Bd.notSynchronized Bd.returns (hb hby at_132) (by decide) (by decide) (by decide) e31 ⟨rfl, N31⟩
set_option maxRecDepth 65536 in
set_option maxHeartbeats 40000000 in
theorem comes_1 {Post : Tables → Env → Array Value → State → Outcome → State → Prop} (hpost : ∀ tb e args s v u, (limb_1_1.after args s (.returned v) u = true ∧ limb_1_2.after args s (.returned v) u = true ∧ True) → ReturnedEndW s (.returned v) u (Jvm.fieldLocs frame_1_writes args s ++ Jvm.arrayLocs frame_1_arrays args s ++ Jvm.staticLocs frame_1_statics s) 24 2176 → Post tb e args s (.returned v) u) :
    ArmFor flags0 classFile x code maxLocals ret World_1 tables_1 room_1 Calls_1 rest_1 Pre_1 Post := by
  intro l hfl _ _ p e ha hc hk s m args below hf hA hF happ hP
  obtain ⟨hcalls, hrest, hpre⟩ := hP
  obtain ⟨-, -, -, hnamed, -, -, -, hat⟩ := (Spec.applies_iff hf).mp happ
  obtain ⟨hg, hn⟩ := and_e (Cond.before_iff.mp (show (Jvm.Cond.and given_1 narrow_1).before args s = true from hpre))
  obtain ⟨g1, g2⟩ := and_e hg
  obtain ⟨w0, rfl⟩ : ∃ w0 : Value, args = #[w0] := by
    have hs : args.size = 1 := by simpa [Cond.value, given_1] using g1
    obtain ⟨L⟩ := args
    match L, hs with
    | [w0], _ => exact ⟨w0, rfl⟩
  have hw := fun d (hd : d ∈ tables_1) => atoms_spec (ws := Jvm.Cond.code x code maxLocals ret :: tables_1) hat d (List.mem_cons_of_mem _ hd)
  have hfit : Fit s := fun {y c} hc i hi => by
    obtain ⟨ha, rfl⟩ := Array.getElem?_eq_some_iff.mp hc
    have q := List.all_eq_true.mp ((Array.all_eq_true_iff_forall_mem.mp hF) _ (Array.getElem_mem ha)) i (List.mem_range.mpr hi)
    simpa [Array.getElem?_eq_getElem hi] using q
  obtain ⟨hsets, hown0⟩ := atoms_of _ (rest_1_c_eq ▸ (show rest_1_c.before _ s = true from hrest))
  have hr0 := Cond.before_iff.mp hown0
  obtain ⟨i0, ei0⟩ := is_v g2
  obtain rfl : w0 = (.int i0) := Option.some.inj ei0
  have ex0 := hsets _ (List.mem_of_getElem? (i := 2) rfl)
  have ex1 := Cond.before_iff.mp ex0
  obtain ⟨em, eem⟩ := exa_v ex1
  have EX := Exa.start eem ex1
  have SE := Sta.start eem (Or.inl (hsets _ (List.mem_of_getElem? (i := 1) rfl)))
  obtain ⟨n, o, h1, h2, h3, _, L, rfl, ⟨rfl, N⟩, hq⟩ := own_rmlaw l s _ hw i0 em s.heap s.heap.size (Nat.le_refl _) SE EX.lt p e ha hc hk s m _ below hf ((Spec.applies_iff_loose hf).mp happ).1 ⟨rfl, State.Warmed39.refl s, rfl⟩ trivial
  refine ⟨n, _, h1, h2, h3, hpost _ _ _ _ _ _ ⟨Cond.after_iff.mpr rfl, Cond.after_iff.mpr (eq_i res_at (Term.int_eval (1)) rfl), trivial⟩ ⟨hq.1, hq.2.1, hq.2.2.1, (hq.2.2.2.sift fun y hy => Or.inr (N y hy)).mono (by decide) (by decide)⟩⟩
theorem main_1_1 : Claimed_1_1 := comes_1 fun _ _ _ _ _ _ h hF => ⟨h.1, hF⟩
theorem main_1_2 : Claimed_1_2 := comes_1 fun _ _ _ _ _ _ h hF => ⟨h.2.1, hF⟩
end Jvm.Pilot.@@N@@
namespace Jvm.Pilot.@@N@@
open Jvm Jvm.ClassFile Sem Op Lib Jvm.Free Jvm.Stand Jvm.Pilot.@@N@@.Jvm.D
/-! MADE BY PROGRAM (witnessworld.py) out of the Statement's table words and the real class files: 29 classes; the members and pool entries that the words name. The judged class is class 1, her method 1. -/
namespace start1
open Jvm.ClassFile
def u (s : String) : CpInfo := .utf8 (stringToUtf16 s)
/-- a pool by its gaps: so many unusable entries, then the entry; so many at the end -/
def gap : Nat → List CpInfo → List CpInfo
  | 0, r => r
  | n + 1, r => .unusable :: gap n r
def poolList (es : List (Nat × CpInfo)) (last : Nat) : List CpInfo := es.foldr (fun e r => gap e.1 (e.2 :: r)) (gap last [])
def pool (es : List (Nat × CpInfo)) (last : Nat) : Array CpInfo := ⟨poolList es last⟩
def fileOf (pool : Array CpInfo) (this : Nat) (attrs : Array Attribute := #[]) (ms : Array MethodInfo := #[]) (fl : Nat := 33) (sup : Nat := 0) (ifs : Array Nat := #[]) (fds : Array FieldInfo := #[]) : ClassFile where
  minorVersion := 0
  majorVersion := 65
  constantPool := pool
  accessFlags := fl
  thisClass := this
  superClass := sup
  interfaces := ifs
  fields := fds
  methods := ms
  attributes := attrs
def plain (name : String) (sup : Option ClassId) : Class where
  name := name
  kind := .ordinary
  loader := none
  accessFlags := 33
  super := sup
  interfaces := #[]
  cf := none
  fields := #[]
  methods := #[]
  instanceTypes := #[]
  staticTypes := #[]
  resolved := #[]
  callSites := []
  init := .initialized
  statics := none
  mirror := none

def pool0 : Array CpInfo := pool [(5, u "<init>"), (0, u "()V"), (1, .class_ 10), (1, u "java/lang/Object")] 113

def k0c0 : Code := { maxStack := 0, maxLocals := 1, code := object_method_1_code, exceptionTable := #[], attributes := #[] }
def k0m0 : Method := { name := "<init>", desc := "()V", sig := { parameters := [], returnType := none }, accessFlags := 1, code := some k0c0 }
/-- java/lang/Object -/
def k0 : Class := { plain "java/lang/Object" none with
  accessFlags := 33
  interfaces := #[]
  cf := some (fileOf pool0 8 #[] #[{ accessFlags := 1, nameIndex := 5, descriptorIndex := 6, attributes := #[] }] 33 0 #[] #[])
  fields := #[]
  methods := #[k0m0]
  instanceTypes := #[]
  staticTypes := #[]
  resolved := Array.replicate 124 none
  statics := none }

def pool1 : Array CpInfo := pool [(2, .class_ 4), (1, u "java/lang/Object"), (0, u "<init>"), (0, u "()V"), (0, .class_ 8), (0, u "com/example/kingsround/kingsround/engine/Verdict"), (0, .methodref 7 10), (0, .nameAndType 5 11), (0, u "(ZZ)V"), (0, .methodref 7 13), (0, .nameAndType 14 15), (0, u "held"), (0, u "()Z"), (0, .methodref 7 17), (0, .nameAndType 18 19), (0, u "properties"), (0, u "()Ljava/util/List;"), (0, .interfaceMethodref 21 22), (0, .class_ 23), (0, .nameAndType 24 25), (0, u "java/util/List"), (0, u "size"), (0, u "()I"), (0, .interfaceMethodref 21 27), (0, .nameAndType 28 29), (0, u "get"), (0, u "(I)Ljava/lang/Object;"), (0, .class_ 31), (0, u "com/example/kingsround/kingsround/engine/Judgement$Property"), (0, .methodref 30 13), (0, .class_ 34), (0, u "com/example/kingsround/kingsround/engine/VerdictHeldPinLaw"), (2, u "law"), (0, u "(I)Z")] 7

def k1m0 : Method := { name := "<init>", desc := "()V", sig := { parameters := [], returnType := none }, accessFlags := 1, code := none }
def k1c1 : Code := { maxStack := 4, maxLocals := 8, code := code, exceptionTable := #[], attributes := #[] }
def k1m1 : Method := { name := "law", desc := "(I)Z", sig := { parameters := [.int], returnType := some .boolean }, accessFlags := 9, code := some k1c1 }
/-- com/example/kingsround/kingsround/engine/VerdictHeldPinLaw -/
def k1 : Class := { plain "com/example/kingsround/kingsround/engine/VerdictHeldPinLaw" (some 0) with
  accessFlags := 49
  interfaces := #[]
  cf := some (fileOf pool1 33 #[] #[{ accessFlags := 1, nameIndex := 5, descriptorIndex := 6, attributes := #[] }, { accessFlags := 9, nameIndex := 37, descriptorIndex := 38, attributes := #[] }] 49 2 #[] #[])
  fields := #[]
  methods := #[k1m0, k1m1]
  instanceTypes := #[]
  staticTypes := #[]
  resolved := Array.replicate 46 none
  statics := none }

def pool2 : Array CpInfo := pool [(1, .methodref 2 3), (0, .class_ 4), (0, .nameAndType 5 6), (0, u "java/lang/Object"), (0, u "<init>"), (0, u "()V"), (0, .class_ 8), (0, u "java/lang/Record")] 13

def k2c0 : Code := { maxStack := 1, maxLocals := 1, code := jdk_30_method_1_code, exceptionTable := #[], attributes := #[] }
def k2m0 : Method := { name := "<init>", desc := "()V", sig := { parameters := [], returnType := none }, accessFlags := 4, code := some k2c0 }
/-- java/lang/Record -/
def k2 : Class := { plain "java/lang/Record" (some 0) with
  accessFlags := 1057
  interfaces := #[]
  cf := some (fileOf pool2 7 #[] #[{ accessFlags := 4, nameIndex := 5, descriptorIndex := 6, attributes := #[] }] 1057 2 #[] #[])
  fields := #[]
  methods := #[k2m0]
  instanceTypes := #[]
  staticTypes := #[]
  resolved := Array.replicate 22 none
  statics := none }

def pool3 : Array CpInfo := pool [(2, .class_ 4), (1, u "com/example/kingsround/kingsround/engine/Judgement"), (18, .class_ 24), (0, u "java/lang/Object"), (9, .class_ 35), (0, u "com/example/kingsround/kingsround/engine/Judgement$Property")] 22

/-- com/example/kingsround/kingsround/engine/Judgement -/
def k3 : Class := { plain "com/example/kingsround/kingsround/engine/Judgement" (some 0) with
  accessFlags := 1537
  interfaces := #[]
  cf := some (fileOf pool3 2 #[.nestMembers #[34]] #[] 1537 23 #[] #[])
  fields := #[]
  methods := #[]
  instanceTypes := #[]
  staticTypes := #[]
  resolved := Array.replicate 58 none
  statics := none }

def pool4 : Array CpInfo := pool [(1, .methodref 2 3), (0, .class_ 4), (0, .nameAndType 5 6), (0, u "java/lang/Record"), (0, u "<init>"), (0, u "()V"), (0, .fieldref 8 9), (0, .class_ 10), (0, .nameAndType 11 12), (0, u "com/example/kingsround/kingsround/engine/Verdict"), (0, u "agreement"), (0, u "Z"), (0, .fieldref 8 14), (0, .nameAndType 15 12), (0, u "validity"), (20, u "(ZZ)V"), (10, .class_ 48), (0, u "com/example/kingsround/kingsround/engine/Judgement$Property"), (0, .string 11), (0, .methodref 47 51), (0, .nameAndType 5 52), (0, u "(Ljava/lang/String;Z)V"), (0, .string 15), (0, .interfaceMethodref 55 56), (0, .class_ 57), (0, .nameAndType 58 59), (0, u "java/util/List"), (0, u "of"), (0, u "(Ljava/lang/Object;Ljava/lang/Object;)Ljava/util/List;"), (3, u "()Z"), (42, .class_ 107), (0, u "com/example/kingsround/kingsround/engine/Judgement"), (11, u "properties"), (0, u "()Ljava/util/List;"), (1, u "held")] 26

def k4c0 : Code := { maxStack := 2, maxLocals := 3, code := prog_108_method_1_code, exceptionTable := #[], attributes := #[] }
def k4m0 : Method := { name := "<init>", desc := "(ZZ)V", sig := { parameters := [.boolean, .boolean], returnType := none }, accessFlags := 1, code := some k4c0 }
def k4c1 : Code := { maxStack := 5, maxLocals := 1, code := prog_108_method_4_code, exceptionTable := #[], attributes := #[] }
def k4m1 : Method := { name := "properties", desc := "()Ljava/util/List;", sig := { parameters := [], returnType := some (.object "java/util/List") }, accessFlags := 1, code := some k4c1 }
def k4c2 : Code := { maxStack := 1, maxLocals := 1, code := prog_108_method_5_code, exceptionTable := #[], attributes := #[] }
def k4m2 : Method := { name := "held", desc := "()Z", sig := { parameters := [], returnType := some .boolean }, accessFlags := 1, code := some k4c2 }
/-- com/example/kingsround/kingsround/engine/Verdict -/
def k4 : Class := { plain "com/example/kingsround/kingsround/engine/Verdict" (some 2) with
  accessFlags := 49
  interfaces := #[3]
  cf := some (fileOf pool4 8 #[] #[{ accessFlags := 1, nameIndex := 5, descriptorIndex := 36, attributes := #[] }, { accessFlags := 1, nameIndex := 119, descriptorIndex := 120, attributes := #[] }, { accessFlags := 1, nameIndex := 122, descriptorIndex := 63, attributes := #[] }] 49 2 #[106] #[{ accessFlags := 18, nameIndex := 11, descriptorIndex := 12, attributes := #[] }, { accessFlags := 18, nameIndex := 15, descriptorIndex := 12, attributes := #[] }])
  fields := #[{ name := "agreement", type := .boolean, accessFlags := 18, slot := 0, constantValue := 0 }, { name := "validity", type := .boolean, accessFlags := 18, slot := 1, constantValue := 0 }]
  methods := #[k4m0, k4m1, k4m2]
  instanceTypes := #[.boolean, .boolean]
  staticTypes := #[]
  resolved := Array.replicate 149 none
  statics := none }

def pool5 : Array CpInfo := pool [(1, .methodref 2 3), (0, .class_ 4), (0, .nameAndType 5 6), (0, u "java/lang/Record"), (0, u "<init>"), (0, u "()V"), (0, .fieldref 8 9), (0, .class_ 10), (0, .nameAndType 11 12), (0, u "com/example/kingsround/kingsround/engine/Judgement$Property"), (0, u "name"), (0, u "Ljava/lang/String;"), (0, .fieldref 8 14), (0, .nameAndType 15 16), (0, u "held"), (0, u "Z"), (12, u "(Ljava/lang/String;Z)V"), (6, u "()Z"), (3, .class_ 41), (0, u "com/example/kingsround/kingsround/engine/Judgement")] 20

def k5c0 : Code := { maxStack := 2, maxLocals := 3, code := prog_74_method_1_code, exceptionTable := #[], attributes := #[] }
def k5m0 : Method := { name := "<init>", desc := "(Ljava/lang/String;Z)V", sig := { parameters := [(.object "java/lang/String"), .boolean], returnType := none }, accessFlags := 1, code := some k5c0 }
def k5c1 : Code := { maxStack := 1, maxLocals := 1, code := prog_74_method_6_code, exceptionTable := #[], attributes := #[] }
def k5m1 : Method := { name := "held", desc := "()Z", sig := { parameters := [], returnType := some .boolean }, accessFlags := 1, code := some k5c1 }
/-- com/example/kingsround/kingsround/engine/Judgement$Property -/
def k5 : Class := { plain "com/example/kingsround/kingsround/engine/Judgement$Property" (some 2) with
  accessFlags := 49
  interfaces := #[]
  cf := some (fileOf pool5 8 #[.nestHost 40] #[{ accessFlags := 1, nameIndex := 5, descriptorIndex := 29, attributes := #[] }, { accessFlags := 1, nameIndex := 15, descriptorIndex := 36, attributes := #[] }] 49 2 #[] #[{ accessFlags := 18, nameIndex := 11, descriptorIndex := 12, attributes := #[] }, { accessFlags := 18, nameIndex := 15, descriptorIndex := 16, attributes := #[] }])
  fields := #[{ name := "name", type := (.object "java/lang/String"), accessFlags := 18, slot := 0, constantValue := 0 }, { name := "held", type := .boolean, accessFlags := 18, slot := 1, constantValue := 0 }]
  methods := #[k5m0, k5m1]
  instanceTypes := #[(.object "java/lang/String"), .boolean]
  staticTypes := #[]
  resolved := Array.replicate 62 none
  statics := none }

def pool6 : Array CpInfo := pool [(1, .class_ 2), (0, u "java/io/Serializable"), (0, .class_ 4), (0, u "java/lang/Object")] 2

/-- java/io/Serializable -/
def k6 : Class := { plain "java/io/Serializable" (some 0) with
  accessFlags := 1537
  interfaces := #[]
  cf := some (fileOf pool6 1 #[] #[] 1537 3 #[] #[])
  fields := #[]
  methods := #[]
  instanceTypes := #[]
  staticTypes := #[]
  resolved := Array.replicate 7 none
  statics := none }

def pool7 : Array CpInfo := pool [(1, .class_ 2), (0, u "java/lang/Comparable"), (0, .class_ 4), (0, u "java/lang/Object")] 7

/-- java/lang/Comparable -/
def k7 : Class := { plain "java/lang/Comparable" (some 0) with
  accessFlags := 1537
  interfaces := #[]
  cf := some (fileOf pool7 1 #[] #[] 1537 3 #[] #[])
  fields := #[]
  methods := #[]
  instanceTypes := #[]
  staticTypes := #[]
  resolved := Array.replicate 12 none
  statics := none }

def pool8 : Array CpInfo := pool [(2, .class_ 4), (1, u "java/lang/CharSequence"), (42, .class_ 48), (0, u "java/lang/CharSequence$1CodePointIterator"), (10, .class_ 60), (0, u "java/lang/CharSequence$1CharIterator"), (5, .class_ 67), (0, u "java/lang/Object")] 63

/-- java/lang/CharSequence -/
def k8 : Class := { plain "java/lang/CharSequence" (some 0) with
  accessFlags := 1537
  interfaces := #[]
  cf := some (fileOf pool8 2 #[.nestMembers #[47, 59]] #[] 1537 66 #[] #[])
  fields := #[]
  methods := #[]
  instanceTypes := #[]
  staticTypes := #[]
  resolved := Array.replicate 131 none
  statics := none }

def pool9 : Array CpInfo := pool [(1, .class_ 2), (0, u "java/lang/constant/Constable"), (0, .class_ 4), (0, u "java/lang/Object")] 6

/-- java/lang/constant/Constable -/
def k9 : Class := { plain "java/lang/constant/Constable" (some 0) with
  accessFlags := 1537
  interfaces := #[]
  cf := some (fileOf pool9 1 #[] #[] 1537 3 #[] #[])
  fields := #[]
  methods := #[]
  instanceTypes := #[]
  staticTypes := #[]
  resolved := Array.replicate 11 none
  statics := none }

def pool10 : Array CpInfo := pool [(1, .class_ 2), (0, u "java/lang/constant/ConstantDesc"), (0, .class_ 4), (0, u "java/lang/Object")] 32

/-- java/lang/constant/ConstantDesc -/
def k10 : Class := { plain "java/lang/constant/ConstantDesc" (some 0) with
  accessFlags := 1537
  interfaces := #[]
  cf := some (fileOf pool10 1 #[] #[] 1537 3 #[] #[])
  fields := #[]
  methods := #[]
  instanceTypes := #[]
  staticTypes := #[]
  resolved := Array.replicate 37 none
  statics := none }

def pool11 : Array CpInfo := pool [(2, .class_ 4), (1, u "java/lang/Object"), (0, u "<init>"), (0, u "()V"), (3, .class_ 12), (1, u "java/lang/String"), (0, u "value"), (0, u "[B"), (2, u "coder"), (0, u "B"), (2, u "hash"), (0, u "I"), (2, u "hashIsZero"), (0, u "Z"), (13, u "COMPACT_STRINGS"), (534, .class_ 576), (0, u "java/lang/CharSequence"), (22, u "CASE_INSENSITIVE_ORDER"), (0, u "Ljava/util/Comparator;"), (500, u "serialPersistentFields"), (0, u "[Ljava/io/ObjectStreamField;"), (0, .class_ 1104), (0, u "java/lang/String$CaseInsensitiveComparator"), (1, .class_ 1107), (0, u "java/io/Serializable"), (0, .class_ 1109), (0, u "java/lang/Comparable"), (0, .class_ 1111), (0, u "java/lang/constant/Constable"), (0, .class_ 1113), (0, u "java/lang/constant/ConstantDesc"), (2, u "serialVersionUID"), (0, u "J"), (3, u "REPL"), (0, u "C"), (2, u "LATIN1"), (1, u "UTF16")] 323

def k11m0 : Method := { name := "<init>", desc := "()V", sig := { parameters := [], returnType := none }, accessFlags := 1, code := none }
/-- java/lang/String -/
def k11 : Class := { plain "java/lang/String" (some 0) with
  accessFlags := 49
  interfaces := #[6, 7, 8, 9, 10]
  cf := some (fileOf pool11 10 #[.nestMembers #[1103]] #[{ accessFlags := 1, nameIndex := 5, descriptorIndex := 6, attributes := #[] }] 49 2 #[1106, 1108, 575, 1110, 1112] #[{ accessFlags := 18, nameIndex := 13, descriptorIndex := 14, attributes := #[] }, { accessFlags := 18, nameIndex := 17, descriptorIndex := 18, attributes := #[] }, { accessFlags := 2, nameIndex := 21, descriptorIndex := 22, attributes := #[] }, { accessFlags := 2, nameIndex := 25, descriptorIndex := 26, attributes := #[] }, { accessFlags := 26, nameIndex := 1116, descriptorIndex := 1117, attributes := #[] }, { accessFlags := 24, nameIndex := 40, descriptorIndex := 26, attributes := #[] }, { accessFlags := 26, nameIndex := 1101, descriptorIndex := 1102, attributes := #[] }, { accessFlags := 26, nameIndex := 1121, descriptorIndex := 1122, attributes := #[] }, { accessFlags := 25, nameIndex := 599, descriptorIndex := 600, attributes := #[] }, { accessFlags := 24, nameIndex := 1125, descriptorIndex := 18, attributes := #[] }, { accessFlags := 24, nameIndex := 1127, descriptorIndex := 18, attributes := #[] }])
  fields := #[{ name := "value", type := (.array .byte), accessFlags := 18, slot := 0, constantValue := 0 }, { name := "coder", type := .byte, accessFlags := 18, slot := 1, constantValue := 0 }, { name := "hash", type := .int, accessFlags := 2, slot := 2, constantValue := 0 }, { name := "hashIsZero", type := .boolean, accessFlags := 2, slot := 3, constantValue := 0 }, { name := "serialVersionUID", type := .long, accessFlags := 26, slot := 0, constantValue := 0 }, { name := "COMPACT_STRINGS", type := .boolean, accessFlags := 24, slot := 1, constantValue := 0 }, { name := "serialPersistentFields", type := (.array (.object "java/io/ObjectStreamField")), accessFlags := 26, slot := 2, constantValue := 0 }, { name := "REPL", type := .char, accessFlags := 26, slot := 3, constantValue := 0 }, { name := "CASE_INSENSITIVE_ORDER", type := (.object "java/util/Comparator"), accessFlags := 25, slot := 4, constantValue := 0 }, { name := "LATIN1", type := .byte, accessFlags := 24, slot := 5, constantValue := 0 }, { name := "UTF16", type := .byte, accessFlags := 24, slot := 6, constantValue := 0 }]
  methods := #[k11m0]
  instanceTypes := #[(.array .byte), .byte, .int, .boolean]
  staticTypes := #[.long, .boolean, (.array (.object "java/io/ObjectStreamField")), .char, (.object "java/util/Comparator"), .byte, .byte]
  resolved := Array.replicate 1451 none
  statics := none }

def pool12 : Array CpInfo := pool [(8, .class_ 10), (1, u "java/lang/Iterable"), (24, .class_ 36), (0, u "java/lang/Object")] 25

/-- java/lang/Iterable -/
def k12 : Class := { plain "java/lang/Iterable" (some 0) with
  accessFlags := 1537
  interfaces := #[]
  cf := some (fileOf pool12 8 #[] #[] 1537 35 #[] #[])
  fields := #[]
  methods := #[]
  instanceTypes := #[]
  staticTypes := #[]
  resolved := Array.replicate 62 none
  statics := none }

def pool13 : Array CpInfo := pool [(10, .class_ 12), (1, u "java/util/Collection"), (47, .class_ 61), (0, u "java/lang/Object"), (0, .class_ 63), (0, u "java/lang/Iterable")] 51

/-- java/util/Collection -/
def k13 : Class := { plain "java/util/Collection" (some 0) with
  accessFlags := 1537
  interfaces := #[12]
  cf := some (fileOf pool13 10 #[] #[] 1537 60 #[62] #[])
  fields := #[]
  methods := #[]
  instanceTypes := #[]
  staticTypes := #[]
  resolved := Array.replicate 115 none
  statics := none }

def pool14 : Array CpInfo := pool [(8, .class_ 10), (1, u "java/util/SequencedCollection"), (15, .class_ 27), (0, u "java/lang/Object"), (0, .class_ 29), (0, u "java/util/Collection")] 27

/-- java/util/SequencedCollection -/
def k14 : Class := { plain "java/util/SequencedCollection" (some 0) with
  accessFlags := 1537
  interfaces := #[13]
  cf := some (fileOf pool14 8 #[] #[] 1537 26 #[28] #[])
  fields := #[]
  methods := #[]
  instanceTypes := #[]
  staticTypes := #[]
  resolved := Array.replicate 57 none
  statics := none }

def pool15 : Array CpInfo := pool [(8, .class_ 10), (1, u "java/util/List"), (37, u "<init>"), (26, u "get"), (0, u "(I)Ljava/lang/Object;"), (2, u "size"), (0, u "()I"), (7, u "of"), (7, .class_ 97), (0, u "java/util/ImmutableCollections$List12"), (2, .methodref 96 101), (0, .nameAndType 48 102), (0, u "(Ljava/lang/Object;Ljava/lang/Object;)V"), (0, .class_ 104), (0, u "java/lang/Object"), (15, .class_ 121), (0, u "java/util/SequencedCollection"), (79, u "(Ljava/lang/Object;Ljava/lang/Object;)Ljava/util/List;")] 49

def k15m0 : Method := { name := "size", desc := "()I", sig := { parameters := [], returnType := some .int }, accessFlags := 1025, code := none }
def k15m1 : Method := { name := "get", desc := "(I)Ljava/lang/Object;", sig := { parameters := [.int], returnType := some (.object "java/lang/Object") }, accessFlags := 1025, code := none }
def k15c2 : Code := { maxStack := 4, maxLocals := 2, code := jdk_40_method_38_code, exceptionTable := #[], attributes := #[] }
def k15m2 : Method := { name := "of", desc := "(Ljava/lang/Object;Ljava/lang/Object;)Ljava/util/List;", sig := { parameters := [(.object "java/lang/Object"), (.object "java/lang/Object")], returnType := some (.object "java/util/List") }, accessFlags := 9, code := some k15c2 }
/-- java/util/List -/
def k15 : Class := { plain "java/util/List" (some 0) with
  accessFlags := 1537
  interfaces := #[14]
  cf := some (fileOf pool15 8 #[] #[{ accessFlags := 1025, nameIndex := 79, descriptorIndex := 80, attributes := #[] }, { accessFlags := 1025, nameIndex := 75, descriptorIndex := 76, attributes := #[] }, { accessFlags := 9, nameIndex := 88, descriptorIndex := 201, attributes := #[] }] 1537 103 #[120] #[])
  fields := #[]
  methods := #[k15m0, k15m1, k15m2]
  instanceTypes := #[]
  staticTypes := #[]
  resolved := Array.replicate 251 none
  statics := none }

def pool16 : Array CpInfo := pool [(1, .methodref 2 3), (0, .class_ 4), (0, .nameAndType 5 6), (0, u "java/lang/Object"), (0, u "<init>"), (0, u "()V"), (1, .class_ 10), (1, u "java/util/AbstractCollection"), (66, .class_ 78), (0, u "java/util/Collection")] 81

def k16c0 : Code := { maxStack := 1, maxLocals := 1, code := jdk_22_method_1_code, exceptionTable := #[], attributes := #[] }
def k16m0 : Method := { name := "<init>", desc := "()V", sig := { parameters := [], returnType := none }, accessFlags := 4, code := some k16c0 }
/-- java/util/AbstractCollection -/
def k16 : Class := { plain "java/util/AbstractCollection" (some 0) with
  accessFlags := 1057
  interfaces := #[13]
  cf := some (fileOf pool16 8 #[] #[{ accessFlags := 4, nameIndex := 5, descriptorIndex := 6, attributes := #[] }] 1057 2 #[77] #[])
  fields := #[]
  methods := #[k16m0]
  instanceTypes := #[]
  staticTypes := #[]
  resolved := Array.replicate 160 none
  statics := none }

def pool17 : Array CpInfo := pool [(1, .methodref 2 3), (0, .class_ 4), (0, .nameAndType 5 6), (0, u "java/util/AbstractCollection"), (0, u "<init>"), (0, u "()V"), (1, .class_ 10), (1, u "java/util/ImmutableCollections"), (2, .class_ 14), (0, u "java/util/ImmutableCollections$AbstractImmutableCollection")] 41

def k17c0 : Code := { maxStack := 1, maxLocals := 1, code := jdk_47_method_1_code, exceptionTable := #[], attributes := #[] }
def k17m0 : Method := { name := "<init>", desc := "()V", sig := { parameters := [], returnType := none }, accessFlags := 0, code := some k17c0 }
/-- java/util/ImmutableCollections$AbstractImmutableCollection -/
def k17 : Class := { plain "java/util/ImmutableCollections$AbstractImmutableCollection" (some 16) with
  accessFlags := 1056
  interfaces := #[]
  cf := some (fileOf pool17 13 #[.nestHost 8] #[{ accessFlags := 0, nameIndex := 5, descriptorIndex := 6, attributes := #[] }] 1056 2 #[] #[])
  fields := #[]
  methods := #[k17m0]
  instanceTypes := #[]
  staticTypes := #[]
  resolved := Array.replicate 56 none
  statics := none }

def pool18 : Array CpInfo := pool [(1, .class_ 2), (0, u "java/util/RandomAccess"), (0, .class_ 4), (0, u "java/lang/Object")] 2

/-- java/util/RandomAccess -/
def k18 : Class := { plain "java/util/RandomAccess" (some 0) with
  accessFlags := 1537
  interfaces := #[]
  cf := some (fileOf pool18 1 #[] #[] 1537 3 #[] #[])
  fields := #[]
  methods := #[]
  instanceTypes := #[]
  staticTypes := #[]
  resolved := Array.replicate 7 none
  statics := none }

def pool19 : Array CpInfo := pool [(1, .methodref 2 3), (0, .class_ 4), (0, .nameAndType 5 6), (0, u "java/util/ImmutableCollections$AbstractImmutableCollection"), (0, u "<init>"), (0, u "()V"), (1, .class_ 10), (1, u "java/util/ImmutableCollections"), (3, .class_ 16), (1, u "java/util/ImmutableCollections$AbstractImmutableList"), (60, .class_ 78), (0, u "java/util/List"), (45, .class_ 125), (0, u "java/util/RandomAccess")] 70

def k19c0 : Code := { maxStack := 1, maxLocals := 1, code := jdk_46_method_1_code, exceptionTable := #[], attributes := #[] }
def k19m0 : Method := { name := "<init>", desc := "()V", sig := { parameters := [], returnType := none }, accessFlags := 0, code := some k19c0 }
/-- java/util/ImmutableCollections$AbstractImmutableList -/
def k19 : Class := { plain "java/util/ImmutableCollections$AbstractImmutableList" (some 17) with
  accessFlags := 1056
  interfaces := #[15, 18]
  cf := some (fileOf pool19 14 #[.nestHost 8] #[{ accessFlags := 0, nameIndex := 5, descriptorIndex := 6, attributes := #[] }] 1056 2 #[77, 124] #[])
  fields := #[]
  methods := #[k19m0]
  instanceTypes := #[]
  staticTypes := #[]
  resolved := Array.replicate 196 none
  statics := none }

def pool20 : Array CpInfo := pool [(1, .methodref 2 3), (0, .class_ 4), (0, .nameAndType 5 6), (0, u "java/util/ImmutableCollections$AbstractImmutableList"), (0, u "<init>"), (0, u "()V"), (0, .methodref 8 9), (0, .class_ 10), (0, .nameAndType 11 12), (0, u "java/util/Objects"), (0, u "requireNonNull"), (0, u "(Ljava/lang/Object;)Ljava/lang/Object;"), (0, .fieldref 14 15), (0, .class_ 16), (0, .nameAndType 17 18), (0, u "java/util/ImmutableCollections$List12"), (0, u "e0"), (0, u "Ljava/lang/Object;"), (0, .fieldref 20 21), (0, .class_ 22), (0, .nameAndType 23 18), (0, u "java/util/ImmutableCollections"), (0, u "EMPTY"), (0, .fieldref 14 25), (0, .nameAndType 26 18), (0, u "e1"), (24, u "size"), (0, u "()I"), (17, .class_ 71), (0, u "java/io/Serializable"), (13, u "(Ljava/lang/Object;Ljava/lang/Object;)V"), (4, u "get"), (0, u "(I)Ljava/lang/Object;")] 33

def k20c0 : Code := { maxStack := 2, maxLocals := 3, code := jdk_44_method_2_code, exceptionTable := #[], attributes := #[] }
def k20m0 : Method := { name := "<init>", desc := "(Ljava/lang/Object;Ljava/lang/Object;)V", sig := { parameters := [(.object "java/lang/Object"), (.object "java/lang/Object")], returnType := none }, accessFlags := 0, code := some k20c0 }
def k20c1 : Code := { maxStack := 2, maxLocals := 1, code := jdk_44_method_3_code, exceptionTable := #[], attributes := #[] }
def k20m1 : Method := { name := "size", desc := "()I", sig := { parameters := [], returnType := some .int }, accessFlags := 1, code := some k20c1 }
def k20c2 : Code := { maxStack := 2, maxLocals := 2, code := jdk_44_method_5_code, exceptionTable := #[], attributes := #[] }
def k20m2 : Method := { name := "get", desc := "(I)Ljava/lang/Object;", sig := { parameters := [.int], returnType := some (.object "java/lang/Object") }, accessFlags := 1, code := some k20c2 }
/-- java/util/ImmutableCollections$List12 -/
def k20 : Class := { plain "java/util/ImmutableCollections$List12" (some 19) with
  accessFlags := 48
  interfaces := #[6]
  cf := some (fileOf pool20 14 #[.nestHost 20] #[{ accessFlags := 0, nameIndex := 5, descriptorIndex := 85, attributes := #[] }, { accessFlags := 1, nameIndex := 51, descriptorIndex := 52, attributes := #[] }, { accessFlags := 1, nameIndex := 90, descriptorIndex := 91, attributes := #[] }] 48 2 #[70] #[{ accessFlags := 18, nameIndex := 17, descriptorIndex := 18, attributes := #[] }, { accessFlags := 18, nameIndex := 26, descriptorIndex := 18, attributes := #[] }])
  fields := #[{ name := "e0", type := (.object "java/lang/Object"), accessFlags := 18, slot := 0, constantValue := 0 }, { name := "e1", type := (.object "java/lang/Object"), accessFlags := 18, slot := 1, constantValue := 0 }]
  methods := #[k20m0, k20m1, k20m2]
  instanceTypes := #[(.object "java/lang/Object"), (.object "java/lang/Object")]
  staticTypes := #[]
  resolved := Array.replicate 125 none
  statics := none }

def pool21 : Array CpInfo := pool [(2, .class_ 4), (1, u "java/lang/Object"), (0, u "<init>"), (0, u "()V"), (35, .class_ 44), (1, u "java/util/Objects"), (0, u "requireNonNull"), (0, u "(Ljava/lang/Object;)Ljava/lang/Object;")] 137

def k21m0 : Method := { name := "<init>", desc := "()V", sig := { parameters := [], returnType := none }, accessFlags := 2, code := none }
def k21c1 : Code := { maxStack := 2, maxLocals := 1, code := jdk_31_method_10_code, exceptionTable := #[], attributes := #[] }
def k21m1 : Method := { name := "requireNonNull", desc := "(Ljava/lang/Object;)Ljava/lang/Object;", sig := { parameters := [(.object "java/lang/Object")], returnType := some (.object "java/lang/Object") }, accessFlags := 9, code := some k21c1 }
/-- java/util/Objects -/
def k21 : Class := { plain "java/util/Objects" (some 0) with
  accessFlags := 49
  interfaces := #[]
  cf := some (fileOf pool21 42 #[] #[{ accessFlags := 2, nameIndex := 5, descriptorIndex := 6, attributes := #[] }, { accessFlags := 9, nameIndex := 45, descriptorIndex := 46, attributes := #[] }] 49 2 #[] #[])
  fields := #[]
  methods := #[k21m0, k21m1]
  instanceTypes := #[]
  staticTypes := #[]
  resolved := Array.replicate 184 none
  statics := none }

def pool22 : Array CpInfo := pool [(2, .class_ 4), (1, u "java/lang/Object"), (0, u "<init>"), (0, u "()V"), (3, .class_ 11), (0, u "java/util/ImmutableCollections$List12"), (0, .class_ 13), (0, u "java/util/ImmutableCollections$ListN"), (3, u "Z"), (29, .class_ 49), (1, u "java/util/ImmutableCollections"), (0, u "$assertionsDisabled"), (5, u "[Ljava/lang/Object;"), (5, u "EMPTY_LIST"), (0, u "Ljava/util/ImmutableCollections$ListN;"), (8, u "EMPTY_LIST_NULLS"), (22, u "SALT32L"), (0, u "J"), (2, u "REVERSE"), (6, u "archivedObjects"), (2, u "EMPTY"), (0, u "Ljava/lang/Object;"), (0, .class_ 112), (0, u "java/util/ImmutableCollections$SetN"), (5, u "EMPTY_SET"), (0, u "Ljava/util/ImmutableCollections$SetN;"), (0, .class_ 121), (0, u "java/util/ImmutableCollections$MapN"), (3, u "EMPTY_MAP"), (0, u "Ljava/util/ImmutableCollections$MapN;"), (4, u "EXPAND_FACTOR"), (0, u "I"), (36, .class_ 170), (0, u "java/util/ImmutableCollections$MapN$MapNIterator"), (0, .class_ 172), (0, u "java/util/ImmutableCollections$MapN$1"), (0, .class_ 174), (0, u "java/util/ImmutableCollections$Map1"), (0, .class_ 176), (0, u "java/util/ImmutableCollections$AbstractImmutableMap"), (0, .class_ 178), (0, u "java/util/ImmutableCollections$SetN$SetNIterator"), (0, .class_ 180), (0, u "java/util/ImmutableCollections$Set12"), (0, .class_ 182), (0, u "java/util/ImmutableCollections$Set12$1"), (0, .class_ 184), (0, u "java/util/ImmutableCollections$AbstractImmutableSet"), (0, .class_ 186), (0, u "java/util/ImmutableCollections$SubList"), (0, .class_ 188), (0, u "java/util/ImmutableCollections$ListItr"), (0, .class_ 190), (0, u "java/util/ImmutableCollections$AbstractImmutableList"), (0, .class_ 192), (0, u "java/util/ImmutableCollections$AbstractImmutableCollection"), (0, .class_ 194), (0, u "java/util/ImmutableCollections$Access"), (0, .class_ 196), (0, u "java/util/ImmutableCollections$Access$1")] 16

def k22m0 : Method := { name := "<init>", desc := "()V", sig := { parameters := [], returnType := none }, accessFlags := 2, code := none }
/-- java/util/ImmutableCollections -/
def k22 : Class := { plain "java/util/ImmutableCollections" (some 0) with
  accessFlags := 32
  interfaces := #[]
  cf := some (fileOf pool22 47 #[.nestMembers #[120, 169, 171, 173, 175, 111, 177, 179, 181, 183, 12, 10, 185, 187, 189, 191, 193, 195]] #[{ accessFlags := 2, nameIndex := 5, descriptorIndex := 6, attributes := #[] }] 32 2 #[] #[{ accessFlags := 26, nameIndex := 95, descriptorIndex := 96, attributes := #[] }, { accessFlags := 26, nameIndex := 99, descriptorIndex := 17, attributes := #[] }, { accessFlags := 10, nameIndex := 106, descriptorIndex := 56, attributes := #[] }, { accessFlags := 26, nameIndex := 109, descriptorIndex := 110, attributes := #[] }, { accessFlags := 24, nameIndex := 62, descriptorIndex := 63, attributes := #[] }, { accessFlags := 24, nameIndex := 72, descriptorIndex := 63, attributes := #[] }, { accessFlags := 24, nameIndex := 118, descriptorIndex := 119, attributes := #[] }, { accessFlags := 24, nameIndex := 125, descriptorIndex := 126, attributes := #[] }, { accessFlags := 24, nameIndex := 131, descriptorIndex := 132, attributes := #[] }, { accessFlags := 4120, nameIndex := 50, descriptorIndex := 17, attributes := #[] }])
  fields := #[{ name := "SALT32L", type := .long, accessFlags := 26, slot := 0, constantValue := 0 }, { name := "REVERSE", type := .boolean, accessFlags := 26, slot := 1, constantValue := 0 }, { name := "archivedObjects", type := (.array (.object "java/lang/Object")), accessFlags := 10, slot := 2, constantValue := 0 }, { name := "EMPTY", type := (.object "java/lang/Object"), accessFlags := 26, slot := 3, constantValue := 0 }, { name := "EMPTY_LIST", type := (.object "java/util/ImmutableCollections$ListN"), accessFlags := 24, slot := 4, constantValue := 0 }, { name := "EMPTY_LIST_NULLS", type := (.object "java/util/ImmutableCollections$ListN"), accessFlags := 24, slot := 5, constantValue := 0 }, { name := "EMPTY_SET", type := (.object "java/util/ImmutableCollections$SetN"), accessFlags := 24, slot := 6, constantValue := 0 }, { name := "EMPTY_MAP", type := (.object "java/util/ImmutableCollections$MapN"), accessFlags := 24, slot := 7, constantValue := 0 }, { name := "EXPAND_FACTOR", type := .int, accessFlags := 24, slot := 8, constantValue := 0 }, { name := "$assertionsDisabled", type := .boolean, accessFlags := 4120, slot := 9, constantValue := 0 }]
  methods := #[k22m0]
  instanceTypes := #[]
  staticTypes := #[.long, .boolean, (.array (.object "java/lang/Object")), (.object "java/lang/Object"), (.object "java/util/ImmutableCollections$ListN"), (.object "java/util/ImmutableCollections$ListN"), (.object "java/util/ImmutableCollections$SetN"), (.object "java/util/ImmutableCollections$MapN"), .int, .boolean]
  resolved := Array.replicate 213 none
  statics := some 0 }

def pool23 : Array CpInfo := pool [(2, .class_ 4), (1, u "java/util/ImmutableCollections$AbstractImmutableList"), (3, .class_ 10), (1, u "java/util/ImmutableCollections$ListN"), (0, u "elements"), (0, u "[Ljava/lang/Object;"), (2, u "allowNulls"), (0, u "Z"), (42, .class_ 60), (0, u "java/io/Serializable"), (53, .class_ 115), (0, u "java/util/ImmutableCollections")] 3

/-- java/util/ImmutableCollections$ListN -/
def k23 : Class := { plain "java/util/ImmutableCollections$ListN" (some 19) with
  accessFlags := 48
  interfaces := #[6]
  cf := some (fileOf pool23 8 #[.nestHost 114] #[] 48 2 #[59] #[{ accessFlags := 18, nameIndex := 11, descriptorIndex := 12, attributes := #[] }, { accessFlags := 18, nameIndex := 15, descriptorIndex := 16, attributes := #[] }])
  fields := #[{ name := "elements", type := (.array (.object "java/lang/Object")), accessFlags := 18, slot := 0, constantValue := 0 }, { name := "allowNulls", type := .boolean, accessFlags := 18, slot := 1, constantValue := 0 }]
  methods := #[]
  instanceTypes := #[(.array (.object "java/lang/Object")), .boolean]
  staticTypes := #[]
  resolved := Array.replicate 119 none
  statics := none }

def pool24 : Array CpInfo := pool [(1, u "java/lang/Cloneable"), (0, .class_ 1), (0, u "java/lang/Object"), (0, .class_ 3)] 3

/-- java/lang/Cloneable -/
def k24 : Class := { plain "java/lang/Cloneable" (some 0) with
  accessFlags := 1537
  interfaces := #[]
  cf := some (fileOf pool24 2 #[] #[] 1537 4 #[] #[])
  fields := #[]
  methods := #[]
  instanceTypes := #[]
  staticTypes := #[]
  resolved := Array.replicate 8 none
  statics := none }

/-- the primitive byte -/
def k25 : Class := { plain "byte" none with kind := .primitive 'B', accessFlags := 0x411 }
/-- [B -/
def k26 : Class := { plain "[B" (some 0) with kind := .array 25 .byte, interfaces := #[24, 6], accessFlags := 1041 }

/-- the primitive int -/
def k27 : Class := { plain "int" none with kind := .primitive 'I', accessFlags := 0x411 }
/-- [I -/
def k28 : Class := { plain "[I" (some 0) with kind := .array 27 .int, interfaces := #[24, 6], accessFlags := 1041 }

def heap : Heap := #[{ cls := 22, slots := #[.long 0, .int 0, .null, .ref 1, .ref 2, .null, .null, .null, .int 0, .int 1], vm := .statics 22 },
  { cls := 0, slots := #[], vm := .none },
  { cls := 23, slots := #[.null, .int 0], vm := .none }]
def classes : Array Class := #[k0, k1, k2, k3, k4, k5, k6, k7, k8, k9, k10, k11, k12, k13, k14, k15, k16, k17, k18, k19, k20, k21, k22, k23, k24, k25, k26, k27, k28]
def interned : List (Array UInt16 × Addr) := []
def slotsUsed : Nat := 12
def theMethod : MethodId := ⟨1, 1⟩
def args0 : Array Value := #[.int 5]
def aboutOver (below : List Frame) : State where
  vm := { classes := classes, interned := interned.toArray }
  heap := heap
  slotsUsed := slotsUsed
  threads := #[{ frames := .invoking theMethod args0 :: below }]
def below0 : List Frame := [.native { method := ⟨0, 0⟩, args := #[] }]
def about1 : State := aboutOver below0
def p0 : Program := .bare "" "" ""
def e0 : Env := launch0.env 0 0 0
theorem w_frames : about1.frames = Frame.invoking theMethod args0 :: below0 := rfl
set_option maxRecDepth 65536 in
theorem w_args : argsFit about1.vm theMethod args0 = true := by decide +kernel
set_option maxRecDepth 65536 in
theorem w_heap : heapFits about1 = true := by decide +kernel
set_option maxRecDepth 65536 in
theorem w_runnable : about1.curStatus? = some .runnable := by decide +kernel
set_option maxRecDepth 65536 in
theorem w_alone : about1.alone = true := by decide +kernel
set_option maxRecDepth 65536 in
theorem w_named : about1.methodNamed? x = some theMethod := by decide +kernel
set_option maxRecDepth 65536 in
theorem w_hears : about1.hears theMethod below0 = true := by decide +kernel
set_option maxRecDepth 65536 in
theorem w_ripe : about1.ripe theMethod args0 below0 = true := by decide +kernel
theorem w_running : about1.status = .running := rfl
set_option maxRecDepth 65536 in
theorem w_room : about1.hasRoom e0.platform room_1 = true :=
  launch0.hasRoom_least _ room_1 (by decide +kernel) (by decide +kernel) (by decide +kernel) (by decide +kernel) (by decide +kernel) (by decide +kernel)
theorem allAtoms_all (ts : List Jvm.Cond) (a : Array Jvm.Value) (st : Jvm.State) : (allAtoms ts).before a st = ts.all (fun c => c.before a st) := by
  induction ts with
  | nil => rfl
  | cons c t ih =>
    show (Jvm.Cond.and c (allAtoms t)).before a st = _
    rw [Jvm.Cond.before_and, ih, List.all_cons]
def words1 : List Jvm.Cond := Jvm.Cond.code x code maxLocals ret :: tables_1
/-- a 'code' word, met by the world's own term for the bytes: nothing is compared byte by byte -/
theorem code_word {y : MethodName} {bytes : ByteArray} {mx : Nat} {rt : Option FieldType} {a : Array Value} {s : State} {m : MethodId} {meth : Method} {c : Code} (h1 : s.methodNamed? y = some m) (h2 : s.vm.method? m = some meth) (h3 : meth.code = some c) (h4 : c.code = bytes)
    (h5 : (c.maxLocals == mx && c.exceptionTable.isEmpty && decide (c.maxStack ≤ mostOperands) && decide (meth.sig.returnType = rt) && !meth.locks && decide (parseMethodDescriptor y.desc = some meth.sig)) = true) : (Jvm.Cond.code y bytes mx rt).before a s = true := by
  simp only [Bool.and_eq_true, beq_iff_eq, Bool.not_eq_true', decide_eq_true_eq] at h5
  obtain ⟨⟨⟨⟨⟨g1, g2⟩, g3⟩, g4⟩, g5⟩, g6⟩ := h5
  simp [Cond.before, Cond.holds, Cond.value, h1, h2, h3, h4, g1, g2, g3, g4, g5, g6]
def isCode : Jvm.Cond → Bool
  | .code _ _ _ _ => true
  | _ => false
theorem all_split {L : List Jvm.Cond} {P : Jvm.Cond → Bool} (h1 : L.all (fun c => isCode c || P c) = true) (h2 : ∀ c ∈ L.filter isCode, P c = true) : L.all P = true := by
  refine List.all_eq_true.mpr fun c hc => ?_
  have h := List.all_eq_true.mp h1 c hc
  rcases Bool.eq_false_or_eq_true (isCode c) with hi | hi
  · exact h2 c (List.mem_filter.mpr ⟨hc, hi⟩)
  · simpa [hi] using h
set_option maxRecDepth 65536 in
theorem w_c0 : (Jvm.Cond.code x code maxLocals ret).before args0 about1 = true := code_word (m := ⟨1, 1⟩) (meth := k1m1) (c := k1c1) (by decide +kernel) rfl rfl rfl (by decide +kernel)
set_option maxRecDepth 65536 in
theorem w_c1 : (Jvm.Cond.code ({ cls := "com/example/kingsround/kingsround/engine/Verdict", name := "<init>", desc := "(ZZ)V" } : Jvm.MethodName) prog_108_method_1_code (3 : Nat) (Option.none : Option Jvm.ClassFile.FieldType)).before args0 about1 = true := code_word (m := ⟨4, 0⟩) (meth := k4m0) (c := k4c0) (by decide +kernel) rfl rfl rfl (by decide +kernel)
set_option maxRecDepth 65536 in
theorem w_c2 : (Jvm.Cond.code ({ cls := "java/lang/Record", name := "<init>", desc := "()V" } : Jvm.MethodName) jdk_30_method_1_code (1 : Nat) (Option.none : Option Jvm.ClassFile.FieldType)).before args0 about1 = true := code_word (m := ⟨2, 0⟩) (meth := k2m0) (c := k2c0) (by decide +kernel) rfl rfl rfl (by decide +kernel)
set_option maxRecDepth 65536 in
theorem w_c3 : (Jvm.Cond.code ({ cls := "java/lang/Object", name := "<init>", desc := "()V" } : Jvm.MethodName) object_method_1_code (1 : Nat) (Option.none : Option Jvm.ClassFile.FieldType)).before args0 about1 = true := code_word (m := ⟨0, 0⟩) (meth := k0m0) (c := k0c0) (by decide +kernel) rfl rfl rfl (by decide +kernel)
set_option maxRecDepth 65536 in
theorem w_c4 : (Jvm.Cond.code ({ cls := "com/example/kingsround/kingsround/engine/Verdict", name := "held", desc := "()Z" } : Jvm.MethodName) prog_108_method_5_code (1 : Nat) (Option.some Jvm.ClassFile.FieldType.boolean)).before args0 about1 = true := code_word (m := ⟨4, 2⟩) (meth := k4m2) (c := k4c2) (by decide +kernel) rfl rfl rfl (by decide +kernel)
set_option maxRecDepth 65536 in
theorem w_c5 : (Jvm.Cond.code ({ cls := "com/example/kingsround/kingsround/engine/Verdict", name := "properties", desc := "()Ljava/util/List;" } : Jvm.MethodName) prog_108_method_4_code (1 : Nat) (Option.some (Jvm.ClassFile.FieldType.object "java/util/List"))).before args0 about1 = true := code_word (m := ⟨4, 1⟩) (meth := k4m1) (c := k4c1) (by decide +kernel) rfl rfl rfl (by decide +kernel)
set_option maxRecDepth 65536 in
theorem w_c6 : (Jvm.Cond.code ({ cls := "com/example/kingsround/kingsround/engine/Judgement$Property", name := "<init>", desc := "(Ljava/lang/String;Z)V" } : Jvm.MethodName) prog_74_method_1_code (3 : Nat) (Option.none : Option Jvm.ClassFile.FieldType)).before args0 about1 = true := code_word (m := ⟨5, 0⟩) (meth := k5m0) (c := k5c0) (by decide +kernel) rfl rfl rfl (by decide +kernel)
set_option maxRecDepth 65536 in
theorem w_c7 : (Jvm.Cond.code ({ cls := "java/util/List", name := "of", desc := "(Ljava/lang/Object;Ljava/lang/Object;)Ljava/util/List;" } : Jvm.MethodName) jdk_40_method_38_code (2 : Nat) (Option.some (Jvm.ClassFile.FieldType.object "java/util/List"))).before args0 about1 = true := code_word (m := ⟨15, 2⟩) (meth := k15m2) (c := k15c2) (by decide +kernel) rfl rfl rfl (by decide +kernel)
set_option maxRecDepth 65536 in
theorem w_c8 : (Jvm.Cond.code ({ cls := "java/util/ImmutableCollections$List12", name := "<init>", desc := "(Ljava/lang/Object;Ljava/lang/Object;)V" } : Jvm.MethodName) jdk_44_method_2_code (3 : Nat) (Option.none : Option Jvm.ClassFile.FieldType)).before args0 about1 = true := code_word (m := ⟨20, 0⟩) (meth := k20m0) (c := k20c0) (by decide +kernel) rfl rfl rfl (by decide +kernel)
set_option maxRecDepth 65536 in
theorem w_c9 : (Jvm.Cond.code ({ cls := "java/util/ImmutableCollections$AbstractImmutableList", name := "<init>", desc := "()V" } : Jvm.MethodName) jdk_46_method_1_code (1 : Nat) (Option.none : Option Jvm.ClassFile.FieldType)).before args0 about1 = true := code_word (m := ⟨19, 0⟩) (meth := k19m0) (c := k19c0) (by decide +kernel) rfl rfl rfl (by decide +kernel)
set_option maxRecDepth 65536 in
theorem w_c10 : (Jvm.Cond.code ({ cls := "java/util/ImmutableCollections$AbstractImmutableCollection", name := "<init>", desc := "()V" } : Jvm.MethodName) jdk_47_method_1_code (1 : Nat) (Option.none : Option Jvm.ClassFile.FieldType)).before args0 about1 = true := code_word (m := ⟨17, 0⟩) (meth := k17m0) (c := k17c0) (by decide +kernel) rfl rfl rfl (by decide +kernel)
set_option maxRecDepth 65536 in
theorem w_c11 : (Jvm.Cond.code ({ cls := "java/util/AbstractCollection", name := "<init>", desc := "()V" } : Jvm.MethodName) jdk_22_method_1_code (1 : Nat) (Option.none : Option Jvm.ClassFile.FieldType)).before args0 about1 = true := code_word (m := ⟨16, 0⟩) (meth := k16m0) (c := k16c0) (by decide +kernel) rfl rfl rfl (by decide +kernel)
set_option maxRecDepth 65536 in
theorem w_c12 : (Jvm.Cond.code ({ cls := "java/util/Objects", name := "requireNonNull", desc := "(Ljava/lang/Object;)Ljava/lang/Object;" } : Jvm.MethodName) jdk_31_method_10_code (1 : Nat) (Option.some (Jvm.ClassFile.FieldType.object "java/lang/Object"))).before args0 about1 = true := code_word (m := ⟨21, 1⟩) (meth := k21m1) (c := k21c1) (by decide +kernel) rfl rfl rfl (by decide +kernel)
set_option maxRecDepth 65536 in
theorem w_c13 : (Jvm.Cond.code ({ cls := "java/util/ImmutableCollections$List12", name := "size", desc := "()I" } : Jvm.MethodName) jdk_44_method_3_code (1 : Nat) (Option.some Jvm.ClassFile.FieldType.int)).before args0 about1 = true := code_word (m := ⟨20, 1⟩) (meth := k20m1) (c := k20c1) (by decide +kernel) rfl rfl rfl (by decide +kernel)
set_option maxRecDepth 65536 in
theorem w_c14 : (Jvm.Cond.code ({ cls := "java/util/ImmutableCollections$List12", name := "get", desc := "(I)Ljava/lang/Object;" } : Jvm.MethodName) jdk_44_method_5_code (2 : Nat) (Option.some (Jvm.ClassFile.FieldType.object "java/lang/Object"))).before args0 about1 = true := code_word (m := ⟨20, 2⟩) (meth := k20m2) (c := k20c2) (by decide +kernel) rfl rfl rfl (by decide +kernel)
set_option maxRecDepth 65536 in
theorem w_c15 : (Jvm.Cond.code ({ cls := "com/example/kingsround/kingsround/engine/Judgement$Property", name := "held", desc := "()Z" } : Jvm.MethodName) prog_74_method_6_code (1 : Nat) (Option.some Jvm.ClassFile.FieldType.boolean)).before args0 about1 = true := code_word (m := ⟨5, 1⟩) (meth := k5m1) (c := k5c1) (by decide +kernel) rfl rfl rfl (by decide +kernel)
def codes1 : List Jvm.Cond := [Jvm.Cond.code x code maxLocals ret, Jvm.Cond.code ({ cls := "com/example/kingsround/kingsround/engine/Verdict", name := "<init>", desc := "(ZZ)V" } : Jvm.MethodName) prog_108_method_1_code (3 : Nat) (Option.none : Option Jvm.ClassFile.FieldType), Jvm.Cond.code ({ cls := "java/lang/Record", name := "<init>", desc := "()V" } : Jvm.MethodName) jdk_30_method_1_code (1 : Nat) (Option.none : Option Jvm.ClassFile.FieldType), Jvm.Cond.code ({ cls := "java/lang/Object", name := "<init>", desc := "()V" } : Jvm.MethodName) object_method_1_code (1 : Nat) (Option.none : Option Jvm.ClassFile.FieldType), Jvm.Cond.code ({ cls := "com/example/kingsround/kingsround/engine/Verdict", name := "held", desc := "()Z" } : Jvm.MethodName) prog_108_method_5_code (1 : Nat) (Option.some Jvm.ClassFile.FieldType.boolean), Jvm.Cond.code ({ cls := "com/example/kingsround/kingsround/engine/Verdict", name := "properties", desc := "()Ljava/util/List;" } : Jvm.MethodName) prog_108_method_4_code (1 : Nat) (Option.some (Jvm.ClassFile.FieldType.object "java/util/List")), Jvm.Cond.code ({ cls := "com/example/kingsround/kingsround/engine/Judgement$Property", name := "<init>", desc := "(Ljava/lang/String;Z)V" } : Jvm.MethodName) prog_74_method_1_code (3 : Nat) (Option.none : Option Jvm.ClassFile.FieldType), Jvm.Cond.code ({ cls := "java/util/List", name := "of", desc := "(Ljava/lang/Object;Ljava/lang/Object;)Ljava/util/List;" } : Jvm.MethodName) jdk_40_method_38_code (2 : Nat) (Option.some (Jvm.ClassFile.FieldType.object "java/util/List")), Jvm.Cond.code ({ cls := "java/util/ImmutableCollections$List12", name := "<init>", desc := "(Ljava/lang/Object;Ljava/lang/Object;)V" } : Jvm.MethodName) jdk_44_method_2_code (3 : Nat) (Option.none : Option Jvm.ClassFile.FieldType), Jvm.Cond.code ({ cls := "java/util/ImmutableCollections$AbstractImmutableList", name := "<init>", desc := "()V" } : Jvm.MethodName) jdk_46_method_1_code (1 : Nat) (Option.none : Option Jvm.ClassFile.FieldType), Jvm.Cond.code ({ cls := "java/util/ImmutableCollections$AbstractImmutableCollection", name := "<init>", desc := "()V" } : Jvm.MethodName) jdk_47_method_1_code (1 : Nat) (Option.none : Option Jvm.ClassFile.FieldType), Jvm.Cond.code ({ cls := "java/util/AbstractCollection", name := "<init>", desc := "()V" } : Jvm.MethodName) jdk_22_method_1_code (1 : Nat) (Option.none : Option Jvm.ClassFile.FieldType), Jvm.Cond.code ({ cls := "java/util/Objects", name := "requireNonNull", desc := "(Ljava/lang/Object;)Ljava/lang/Object;" } : Jvm.MethodName) jdk_31_method_10_code (1 : Nat) (Option.some (Jvm.ClassFile.FieldType.object "java/lang/Object")), Jvm.Cond.code ({ cls := "java/util/ImmutableCollections$List12", name := "size", desc := "()I" } : Jvm.MethodName) jdk_44_method_3_code (1 : Nat) (Option.some Jvm.ClassFile.FieldType.int), Jvm.Cond.code ({ cls := "java/util/ImmutableCollections$List12", name := "get", desc := "(I)Ljava/lang/Object;" } : Jvm.MethodName) jdk_44_method_5_code (2 : Nat) (Option.some (Jvm.ClassFile.FieldType.object "java/lang/Object")), Jvm.Cond.code ({ cls := "com/example/kingsround/kingsround/engine/Judgement$Property", name := "held", desc := "()Z" } : Jvm.MethodName) prog_74_method_6_code (1 : Nat) (Option.some Jvm.ClassFile.FieldType.boolean)]
set_option maxRecDepth 65536 in
theorem codes_eq : words1.filter isCode = codes1 := rfl
theorem w_codes : ∀ c ∈ words1.filter isCode, c.before args0 about1 = true := by
  rw [codes_eq]
  intro c hc
  simp only [codes1, List.mem_cons, List.not_mem_nil, or_false] at hc
  rcases hc with rfl | rfl | rfl | rfl | rfl | rfl | rfl | rfl | rfl | rfl | rfl | rfl | rfl | rfl | rfl | rfl
  · exact w_c0
  · exact w_c1
  · exact w_c2
  · exact w_c3
  · exact w_c4
  · exact w_c5
  · exact w_c6
  · exact w_c7
  · exact w_c8
  · exact w_c9
  · exact w_c10
  · exact w_c11
  · exact w_c12
  · exact w_c13
  · exact w_c14
  · exact w_c15
set_option maxRecDepth 65536 in
theorem w_t1 : (words1.take 24).all (fun c => isCode c || c.before args0 about1) = true := by decide +kernel
set_option maxRecDepth 65536 in
theorem w_t2 : ((words1.drop 24).take 24).all (fun c => isCode c || c.before args0 about1) = true := by decide +kernel
set_option maxRecDepth 65536 in
theorem w_t3 : (((words1.drop 24).drop 24).take 24).all (fun c => isCode c || c.before args0 about1) = true := by decide +kernel
set_option maxRecDepth 65536 in
theorem w_t4 : ((((words1.drop 24).drop 24).drop 24).take 24).all (fun c => isCode c || c.before args0 about1) = true := by decide +kernel
set_option maxRecDepth 65536 in
theorem w_t5 : ((((words1.drop 24).drop 24).drop 24).drop 24).all (fun c => isCode c || c.before args0 about1) = true := by decide +kernel
theorem w_tables : (allAtoms (Jvm.Cond.code x code maxLocals ret :: tables_1)).before args0 about1 = true := by
  rw [allAtoms_all]
  show words1.all (fun c => c.before args0 about1) = true
  refine all_split ?_ w_codes
  rw [← List.take_append_drop 24 words1, List.all_append, w_t1, ← List.take_append_drop 24 (words1.drop 24), List.all_append, w_t2, ← List.take_append_drop 24 ((words1.drop 24).drop 24), List.all_append, w_t3, ← List.take_append_drop 24 (((words1.drop 24).drop 24).drop 24), List.all_append, w_t4, w_t5]
  rfl
set_option maxRecDepth 65536 in
theorem w_rest : rest_1_c.before args0 about1 = true := by decide +kernel
set_option maxRecDepth 65536 in
theorem w_case : (Jvm.Cond.and given_1 narrow_1).before args0 about1 = true := by decide +kernel
theorem w_applies : (headSpec (Jvm.Cond.code x code maxLocals ret :: tables_1) room_1).applies x e0.platform about1 = true :=
  (Spec.applies_iff w_frames).mpr ⟨w_running, w_runnable, w_alone, w_named, w_hears, w_ripe, w_room, w_tables⟩
theorem atStart : AtStart classFile x code maxLocals ret World_1 tables_1 room_1 Calls_1 rest_1 Pre_1 launch0 p0 e0 about1 theMethod args0 below0 :=
  ⟨lists_1, trivial, launch0.admits_env _ _ _, launch0.least_env, fairChoices_fair.cas, fairChoices_fair.clock, w_frames, w_args, w_heap, w_applies, trivial, w_rest, w_case⟩
end start1
theorem witness_1 : WitnessClaimed_1 := ⟨start1.p0, start1.e0, start1.about1, start1.theMethod, start1.args0, start1.below0, start1.atStart⟩
end Jvm.Pilot.@@N@@
