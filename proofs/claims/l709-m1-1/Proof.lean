import JvmDerived
import JvmDerived.Pilot.@@N@@Statement
import JvmDerived.Pilot.@@N@@Code
set_option linter.unusedVariables false
set_option linter.unusedSimpArgs false
namespace Jvm.RoadKit
open Sem ClassFile Op Lib Jvm.Stand Jvm.Free Jvm.LawKit
section Own
variable {p : Program} {l : Launch} {e : Env} {R : Room} {s : State} {m : MethodId} {args : Array Value} {below : List Frame} {meth : Method} {c : Code} {T T' : State} {locs : List Loc} {cells slots : Nat} {Z : State} {a0 : Array Value} {h h' : Heap}
abbrev own_lv (x : Int64) : Slot := .val (.long x)
abbrev own_S (p : Program) (e : Env) (below : List Frame) (T : State) (m : MethodId) (pc : Nat) (L : Array Slot) (S : List Value) (t : State) : Prop := Steps p.tables e below (T.setTop (mkF m pc L S)) t
/-- in one state, from the second frame to the first -/
abbrev own_V (p : Program) (e : Env) (below : List Frame) (T : State) (f' f : JFrame) : Prop := ∀ t, Steps p.tables e below (T.setTop f') t → Steps p.tables e below (T.setTop f) t
/-- from this frame on the run comes to an end that G says -/
def own_Go (p : Program) (e : Env) (below : List Frame) (G : State → Outcome → Prop) (T : State) (f : JFrame) : Prop :=
  ∃ t o, Steps p.tables e below (T.setTop f) t ∧ G t o
theorem own_st {G : State → Outcome → Prop} {f f' : JFrame} (st : ∀ t, Steps p.tables e below (T'.setTop f') t → Steps p.tables e below (T.setTop f) t) (k : own_Go p e below G T' f') : own_Go p e below G T f := by
  obtain ⟨t, o, h1, h2⟩ := k
  exact ⟨t, o, st t h1, h2⟩
/-- from this frame on the run comes to a state and a frame that P says -/
def own_Pk (p : Program) (e : Env) (below : List Frame) (P : State → JFrame → Prop) (T : State) (f : JFrame) : Prop :=
  ∃ T' f', P T' f' ∧ ∀ t, Steps p.tables e below (T'.setTop f') t → Steps p.tables e below (T.setTop f) t
theorem own_sp {P : State → JFrame → Prop} {f f' : JFrame} (st : ∀ t, Steps p.tables e below (T'.setTop f') t → Steps p.tables e below (T.setTop f) t) (k : own_Pk p e below P T' f') : own_Pk p e below P T f := by
  obtain ⟨T2, f2, h1, h2⟩ := k
  exact ⟨T2, f2, h1, fun t q => st t (h2 t q)⟩
theorem own_pm {P P' : State → JFrame → Prop} {f : JFrame} (k : own_Pk p e below P T f) (q : ∀ T' f', P T' f' → P' T' f') : own_Pk p e below P' T f := by
  obtain ⟨T2, f2, h1, h2⟩ := k
  exact ⟨T2, f2, q _ _ h1, h2⟩
/-- it returned, Q says what, and the frame is kept -/
def own_End (s : State) (below : List Frame) (Q : Option Value → Heap → List Loc → Prop) (C S : Nat) : State → Outcome → Prop := fun t o =>
  t.status = .running ∧ Ended t below o ∧ ∃ v L, o = .returned v ∧ Q v t.heap L ∧ FrameEnd s o t L C S
theorem own_body {y : MethodName} {bytes : ByteArray} {ml : Nat} {rt : Option FieldType} {rm : Room} {as' : Array Value} {h0 : Heap} {Q : Option Value → Heap → List Loc → Prop} {C S : Nat} {ws : List Jvm.Cond} (hp : plainFor y = true)
    (H : ∀ p e s m below meth c s₁, BodyLoose p l y (head1 (Jvm.Cond.code y bytes ml rt :: ws) rm) bytes ml rt e s m as' below meth c s₁ → c.maxLocals = ml → Z.Warmed39 s.vm → s₁.heap = h0 → own_Go p e below (own_End s below Q C S) s₁ (entryFrame m as' ml)) :
    MetFree l y (head1 (Jvm.Cond.code y bytes ml rt :: ws) rm) (fun a U => a = as' ∧ Z.Warmed39 U.vm ∧ U.heap = h0) (fun _ _ _ _ _ => True) (fun _ U o U' => ∃ v L, o = .returned v ∧ Q v U'.heap L ∧ FrameEnd U o U' L C S) := by
  refine MetFree.of_bodySF hp hisR ?_
  intro p e s m args below meth c s₁ Bd hml hP hK
  obtain ⟨rfl, hZ, hh⟩ := hP
  have e0 : s₁.heap = h0 := by rw [← hh, Bd.state]; rfl
  obtain ⟨t, o, h1, h2, h3, h4⟩ := H p e s m below meth c s₁ Bd hml hZ e0
  exact ⟨t, o, h1, h2, h3, h4⟩
/-- a callee's contract -/
abbrev own_Ct (l : Launch) (Z : State) (y : MethodName) (bytes : ByteArray) (ml : Nat) (rt : Option FieldType) (rm : Room) (as' : Array Value) (h0 : Heap) (Q : Option Value → Heap → List Loc → Prop) : Prop :=
  MetFree l y (head1 [Jvm.Cond.code y bytes ml rt] rm) (fun a U => a = as' ∧ Z.Warmed39 U.vm ∧ U.heap = h0) (fun _ _ _ _ _ => True) (fun _ U o U' => ∃ v L, o = .returned v ∧ Q v U'.heap L ∧ FrameEnd U o U' L rm.cells rm.slots)
section Ret
variable {Q : Option Value → Heap → List Loc → Prop} {C S : Nat}
theorem own_out {v : Option Value} {f : JFrame} (X : Stand p l e R s m args below meth c T locs cells slots) (hv : meth.sig.returnType = none → v = none) (hlocks : meth.locks = false) (hC : cells ≤ C) (hS : slots ≤ S) (eT : T.heap = h) (hq : Q v h locs)
    (go : ∀ fs, (∀ (f : JFrame) (acts : List Action), f.method = m → f.locked = none → f.entered = [] → (doReturn e (T.setTop f) acts v).1 = T.setFrames fs) → Steps p.tables e below (T.setTop f) (T.setFrames fs)) :
    own_Go p e below (own_End s below Q C S) T f := by
  obtain ⟨fs, hr, hrun, hended, hW, hsame⟩ := X.leave (v := v) hv hlocks
  refine ⟨_, _, go fs hr, hrun, hended, _, _, rfl, ?_, ⟨_, rfl⟩, hW, hsame.mono hC hS⟩
  show Q v T.heap locs
  rw [eT]; exact hq
theorem own_retI (X : Stand p l e R s m args below meth c T locs cells slots) (hx : p.tables.exec = Jvm.exec) (hlocks : meth.locks = false) (hret : meth.sig.returnType = some .int) {pc : Nat} {Ls : Array Slot} {z : Int32} {rest : List Value} (hd : decode c.code pc = .ok (.ireturn, 1)) (hC : cells ≤ C) (hS : slots ≤ S) (eT : T.heap = h) (hq : Q (some (.int z)) h locs) :
    own_Go p e below (own_End s below Q C S) T (mkF m pc Ls (.int z :: rest)) :=
  own_out X (fun q => by rw [hret] at q; cases q) hlocks hC hS eT hq fun fs hr => retOut X hx hret rfl (Or.inl ⟨rfl, Or.inl rfl, z, rfl⟩) hd hr
theorem own_retZ (X : Stand p l e R s m args below meth c T locs cells slots) (hx : p.tables.exec = Jvm.exec) (hlocks : meth.locks = false) (hret : meth.sig.returnType = some .boolean) {pc : Nat} {Ls : Array Slot} {z : Int32} {rest : List Value} (hd : decode c.code pc = .ok (.ireturn, 1)) (hz : z = 0 ∨ z = 1) (hC : cells ≤ C) (hS : slots ≤ S) (eT : T.heap = h) (hq : Q (some (.int z)) h locs) :
    own_Go p e below (own_End s below Q C S) T (mkF m pc Ls (.int z :: rest)) :=
  own_out X (fun q => by rw [hret] at q; cases q) hlocks hC hS eT hq fun fs hr => retN X hx hret (Or.inl rfl) hd (by
    have : nar .boolean z = z := by rcases hz with rfl | rfl <;> decide
    rw [this]; exact hr)
theorem own_retB (X : Stand p l e R s m args below meth c T locs cells slots) (hx : p.tables.exec = Jvm.exec) (hlocks : meth.locks = false) (hret : meth.sig.returnType = some .byte) {pc : Nat} {Ls : Array Slot} {z : Int32} {rest : List Value} (hd : decode c.code pc = .ok (.ireturn, 1)) (hz : nar .byte z = z) (hC : cells ≤ C) (hS : slots ≤ S) (eT : T.heap = h) (hq : Q (some (.int z)) h locs) :
    own_Go p e below (own_End s below Q C S) T (mkF m pc Ls (.int z :: rest)) :=
  own_out X (fun q => by rw [hret] at q; cases q) hlocks hC hS eT hq fun fs hr => retN X hx hret (Or.inr (Or.inl rfl)) hd (by rw [hz]; exact hr)
theorem own_retJ (X : Stand p l e R s m args below meth c T locs cells slots) (hx : p.tables.exec = Jvm.exec) (hlocks : meth.locks = false) (hret : meth.sig.returnType = some .long) {pc : Nat} {Ls : Array Slot} {z : Int64} {rest : List Value} (hd : decode c.code pc = .ok (.lreturn, 1)) (hC : cells ≤ C) (hS : slots ≤ S) (eT : T.heap = h) (hq : Q (some (.long z)) h locs) :
    own_Go p e below (own_End s below Q C S) T (mkF m pc Ls (.long z :: rest)) :=
  own_out X (fun q => by rw [hret] at q; cases q) hlocks hC hS eT hq fun fs hr => retOut X hx hret rfl (Or.inr (Or.inl ⟨rfl, rfl, z, rfl⟩)) hd hr
theorem own_retR {t : FieldType} {w : Value} (X : Stand p l e R s m args below meth c T locs cells slots) (hx : p.tables.exec = Jvm.exec) (hlocks : meth.locks = false) (hret : meth.sig.returnType = some t) (ht : t.isReference = true) (hw : w.isRef = true) {pc : Nat} {Ls : Array Slot} {rest : List Value} (hd : decode c.code pc = .ok (.areturn, 1)) (hC : cells ≤ C) (hS : slots ≤ S) (eT : T.heap = h) (hq : Q (some w) h locs) :
    own_Go p e below (own_End s below Q C S) T (mkF m pc Ls (w :: rest)) :=
  own_out X (fun q => by rw [hret] at q; cases q) hlocks hC hS eT hq fun fs hr => retOut X hx hret (by cases t <;> cases w <;> first | rfl | (cases ht; done) | (cases hw; done)) (Or.inr (Or.inr (Or.inr (Or.inr ⟨rfl, ht, hw⟩)))) hd hr
theorem own_retV (X : Stand p l e R s m args below meth c T locs cells slots) (hx : p.tables.exec = Jvm.exec) (hlocks : meth.locks = false) (hret : meth.sig.returnType = none) {pc : Nat} {Ls : Array Slot} (hd : decode c.code pc = .ok (.return_, 1)) (hC : cells ≤ C) (hS : slots ≤ S) (eT : T.heap = h) (hq : Q none h locs) :
    own_Go p e below (own_End s below Q C S) T (mkF m pc Ls []) :=
  own_out X (fun _ => rfl) hlocks hC hS eT hq fun fs hr => X.returnOut hx hret hd hr
end Ret
section Call
variable {own : String} {index : Nat} {y : MethodName} {bytes : ByteArray} {ml : Nat} {rt : Option FieldType} {rm : Room} {Q : Option Value → Heap → List Loc → Prop} {g : JFrame} {argsL rest : List Value} {W : Nat}
theorem own_callS (X : Stand p l e R s m args below meth c T locs cells slots) (hx : p.tables.exec = Jvm.exec) (hZ : Z.Warmed39 s.vm) (hown : s.vm.findClass own = some m.cls)
    (w1 : (Jvm.Cond.methodLink own index y).before a0 Z = true) (w2 : (Jvm.Cond.static y).before a0 Z = true) (w3 : (Jvm.Cond.initialized y.cls).before a0 Z = true) (w4 : (Jvm.Cond.code y bytes ml rt).before a0 Z = true)
    (hy : y.cls ≠ "java/lang/invoke/MethodHandle" ∧ y.cls ≠ "java/lang/invoke/VarHandle") (ct : own_Ct l Z y bytes ml rt rm argsL.toArray h Q) (eT : T.heap = h) (hg : g.method = m) (hsize : g.locals.size = c.maxLocals)
    (hlen : ∀ sig, parseMethodDescriptor y.desc = some sig → argsL.length = sig.parameters.length) (hstack : g.stack = argsL.reverse ++ rest) (hW : 2 * g.monitorRoom + (rest.map fun v => v.category).sum ≤ W) (hdg : decode c.code g.pc = .ok (.invokestatic index, 3))
    (hf : rm.frames + 1 ≤ R.frames) (hl : W + (ml + 11) + rm.locals ≤ R.locals) (hc : cells + rm.cells ≤ R.cells) (hs : slots + rm.slots ≤ R.slots) :
    ∃ v T' L, Stand p l e R s m args below meth c T' (locs ++ L) (cells + rm.cells) (slots + rm.slots) ∧ Q v T'.heap L ∧ ∀ target, Steps p.tables e below (T'.setTop { g with pc := g.pc + 3, stack := v.toList ++ rest }) target → Steps p.tables e below (T.setTop g) target := by
  obtain ⟨v, vm1, ⟨T1, L1, k1, n1⟩, -, X1, ⟨L, hQ, h1, h2, h3⟩, st⟩ := Jvm.LawKit.callS X hx hown (mvT hZ w1) (mvT hZ w2) (mvT hZ w3) (mvT hZ w4) hy (backOf (W := W) ct hZ w4 w3 hf hl) hg hsize hlen hstack hW hdg (fun _ _ => ⟨rfl, eT, hc, hs⟩)
  dsimp only [Pt.U, Pt.locs, Pt.cells, Pt.slots] at X1 h1 h2 h3 hQ st
  subst h1 h2 h3
  exact ⟨v, T1, L, X1, hQ, st⟩
theorem own_callI {a : Addr} (X : Stand p l e R s m args below meth c T locs cells slots) (hx : p.tables.exec = Jvm.exec) (hZ : Z.Warmed39 s.vm) (hown : s.vm.findClass own = some m.cls) (hy1 : y.name = "<init>")
    (w1 : (Jvm.Cond.methodLink own index y).before a0 Z = true) (w2 : (Jvm.Cond.instanceMethod y).before a0 Z = true) (w3 : (Jvm.Cond.initialized y.cls).before a0 Z = true) (w4 : (Jvm.Cond.code y bytes ml none).before a0 Z = true)
    (hy : y.cls ≠ "java/lang/invoke/MethodHandle" ∧ y.cls ≠ "java/lang/invoke/VarHandle") (ct : own_Ct l Z y bytes ml none rm (.ref a :: argsL).toArray h Q) (eT : T.heap = h) (hg : g.method = m) (hsize : g.locals.size = c.maxLocals)
    (hlen : ∀ sig, parseMethodDescriptor y.desc = some sig → argsL.length = sig.parameters.length) (hstack : g.stack = argsL.reverse ++ .ref a :: rest) (hW : 2 * g.monitorRoom + (rest.map fun v => v.category).sum ≤ W) (hdg : decode c.code g.pc = .ok (.invokespecial index, 3))
    (hf : rm.frames + 1 ≤ R.frames) (hl : W + (ml + 11) + rm.locals ≤ R.locals) (hc : cells + rm.cells ≤ R.cells) (hs : slots + rm.slots ≤ R.slots) :
    ∃ v T' L, Stand p l e R s m args below meth c T' (locs ++ L) (cells + rm.cells) (slots + rm.slots) ∧ Q v T'.heap L ∧ ∀ target, Steps p.tables e below (T'.setTop { g with pc := g.pc + 3, stack := v.toList ++ rest }) target → Steps p.tables e below (T.setTop g) target := by
  obtain ⟨v, vm1, ⟨T1, L1, k1, n1⟩, -, X1, ⟨L, hQ, h1, h2, h3⟩, st⟩ := X.specialBack hx hy1 hown (mvT hZ w1) (mvT hZ w2) (mvT hZ w4) hy (backOf (W := W) ct hZ w4 w3 hf hl) hg hsize (Steps.refl _) hlen hstack hW hdg (fun _ _ => ⟨rfl, eT, hc, hs⟩)
  dsimp only [Pt.U, Pt.locs, Pt.cells, Pt.slots] at X1 h1 h2 h3 hQ st
  subst h1 h2 h3
  exact ⟨v, T1, L, X1, hQ, fun t k => st.trans k⟩
theorem own_callV {a : Addr} {C : String} (X : Stand p l e R s m args below meth c T locs cells slots) (hx : p.tables.exec = Jvm.exec) (hZ : Z.Warmed39 s.vm) (hown : s.vm.findClass own = some m.cls) (E : Exa Z h a C) {y0 : MethodName}
    (w1 : (Jvm.Cond.methodLink own index y0).before a0 Z = true) (w2 : (Jvm.Cond.declares y0).before a0 Z = true) (w5 : (Jvm.Cond.selects C y0 y).before a0 Z = true) (nf : NotFace s y0) (w6 : (Jvm.Cond.instanceMethod y).before a0 Z = true) (w3 : (Jvm.Cond.initialized y.cls).before a0 Z = true) (w4 : (Jvm.Cond.code y bytes ml rt).before a0 Z = true)
    (hy : y0.cls ≠ "java/lang/invoke/MethodHandle" ∧ y0.cls ≠ "java/lang/invoke/VarHandle") (ct : own_Ct l Z y bytes ml rt rm (.ref a :: argsL).toArray h Q) (eT : T.heap = h) (hg : g.method = m) (hsize : g.locals.size = c.maxLocals)
    (hlen : ∀ sig, parseMethodDescriptor y0.desc = some sig → argsL.length = sig.parameters.length) (hstack : g.stack = argsL.reverse ++ .ref a :: rest) (hW : 2 * g.monitorRoom + (rest.map fun v => v.category).sum ≤ W) (hdg : decode c.code g.pc = .ok (.invokevirtual index, 3))
    (hf : rm.frames + 1 ≤ R.frames) (hl : W + (ml + 11) + rm.locals ≤ R.locals) (hc : cells + rm.cells ≤ R.cells) (hs : slots + rm.slots ≤ R.slots) :
    ∃ v T' L, Stand p l e R s m args below meth c T' (locs ++ L) (cells + rm.cells) (slots + rm.slots) ∧ Q v T'.heap L ∧ ∀ target, Steps p.tables e below (T'.setTop { g with pc := g.pc + 3, stack := v.toList ++ rest }) target → Steps p.tables e below (T.setTop g) target := by
  obtain ⟨cq, kq, qa, qb, qc⟩ := isOf hZ eT E
  obtain ⟨v, vm1, ⟨T1, L1, k1, n1⟩, -, X1, ⟨L, hQ, h1, h2, h3⟩, st⟩ := X.virtualBack hx (y := y0) (z := y) hown (mvT hZ w1) (mvT hZ w2) nf (mvT hZ w5) (mvT hZ w6) hy (backOf (W := W) ct hZ w4 w3 hf hl) qa qc hg hsize (Steps.refl _) hlen hstack hW hdg (fun _ _ => ⟨rfl, eT, hc, hs⟩)
  dsimp only [Pt.U, Pt.locs, Pt.cells, Pt.slots] at X1 h1 h2 h3 hQ st
  subst h1 h2 h3
  exact ⟨v, T1, L, X1, hQ, fun t k => st.trans k⟩
theorem own_callP {a : Addr} {C C0 : String} {x z : MethodName} (X : Stand p l e R s m args below meth c T locs cells slots) (hx : p.tables.exec = Jvm.exec) (hZ : Z.Warmed39 s.vm) (hown : s.vm.findClass own = some m.cls) (E : Exa Z h a C0) (hz : z.cls = y.cls)
    (w1 : (Jvm.Cond.methodLink own index y).before a0 Z = true) (w2 : (Jvm.Cond.instanceMethod y).before a0 Z = true) (w5 : (Jvm.Cond.selects C x z).before a0 Z = true) (wp : (Jvm.Cond.privateMethod y).before a0 Z = true) (w3 : (Jvm.Cond.initialized y.cls).before a0 Z = true) (w4 : (Jvm.Cond.code y bytes ml rt).before a0 Z = true)
    (hy : y.cls ≠ "java/lang/invoke/MethodHandle" ∧ y.cls ≠ "java/lang/invoke/VarHandle") (ct : own_Ct l Z y bytes ml rt rm (.ref a :: argsL).toArray h Q) (eT : T.heap = h) (hg : g.method = m) (hsize : g.locals.size = c.maxLocals)
    (hlen : ∀ sig, parseMethodDescriptor y.desc = some sig → argsL.length = sig.parameters.length) (hstack : g.stack = argsL.reverse ++ .ref a :: rest) (hW : 2 * g.monitorRoom + (rest.map fun v => v.category).sum ≤ W) (hdg : decode c.code g.pc = .ok (.invokevirtual index, 3))
    (hf : rm.frames + 1 ≤ R.frames) (hl : W + (ml + 11) + rm.locals ≤ R.locals) (hc : cells + rm.cells ≤ R.cells) (hs : slots + rm.slots ≤ R.slots) :
    ∃ v T' L, Stand p l e R s m args below meth c T' (locs ++ L) (cells + rm.cells) (slots + rm.slots) ∧ Q v T'.heap L ∧ ∀ target, Steps p.tables e below (T'.setTop { g with pc := g.pc + 3, stack := v.toList ++ rest }) target → Steps p.tables e below (T.setTop g) target := by
  obtain ⟨cq, q1, q2⟩ := E.cell
  have hp : s.PrivateAt y := Cond.privateMethod_at (mvP hZ wp (args := #[]))
  have w5' : (Jvm.Cond.selects C x z).before args s = true := mvT hZ w5
  obtain ⟨c2, r2, m2, -, -, q3, -, kP, hkP, hkPi⟩ := Cond.selects_spec w5'
  have hcl : s.vm.findClass y.cls = some m2.cls := hz ▸ findClass_of_methodNamed q3
  have hsel : (Jvm.Cond.selects y.cls y y).before args s = true := selects_self_of_private hcl hkP hkPi hp (mvT hZ w2) hy
  obtain ⟨v, vm1, ⟨T1, L1, k1, n1⟩, -, X1, ⟨L, hQ, h1, h2, h3⟩, st⟩ := X.privateBack hx hown (mvT hZ w1) (mvT hZ w2) hsel hp (mvT hZ w4) hy (backOf (W := W) ct hZ w4 w3 hf hl) hg hsize (Steps.refl _) (a := a) (by rw [eT]; exact q1) q2 hlen hstack hW hdg (fun _ _ => ⟨rfl, eT, hc, hs⟩)
  dsimp only [Pt.U, Pt.locs, Pt.cells, Pt.slots] at X1 h1 h2 h3 hQ st
  subst h1 h2 h3
  exact ⟨v, T1, L, X1, hQ, fun t k => st.trans k⟩
theorem own_callF {a : Addr} {C : String} {count : Nat} (X : Stand p l e R s m args below meth c T locs cells slots) (hx : p.tables.exec = Jvm.exec) (hZ : Z.Warmed39 s.vm) (hown : s.vm.findClass own = some m.cls) (E : Exa Z h a C) {y0 : MethodName}
    (w1 : (Jvm.Cond.methodLink own index y0).before a0 Z = true) (w2 : (Jvm.Cond.declares y0).before a0 Z = true) (wf : (Jvm.Cond.interfaceMethod y0.cls y0.cls y0.name y0.desc).before args s = true) (w5 : (Jvm.Cond.selects C y0 y).before a0 Z = true) (w6 : (Jvm.Cond.instanceMethod y).before a0 Z = true) (wp : (Jvm.Cond.publicMethod y).before a0 Z = true) (wu : (Jvm.Cond.unhidden C y0.name y0.desc).before a0 Z = true) (wk : (Jvm.Cond.castable C y0.cls).before a0 Z = true) (w3 : (Jvm.Cond.initialized y.cls).before a0 Z = true) (w4 : (Jvm.Cond.code y bytes ml rt).before a0 Z = true)
    (hy : y0.cls ≠ "java/lang/invoke/MethodHandle" ∧ y0.cls ≠ "java/lang/invoke/VarHandle") (ct : own_Ct l Z y bytes ml rt rm (.ref a :: argsL).toArray h Q) (eT : T.heap = h) (hg : g.method = m) (hsize : g.locals.size = c.maxLocals)
    (hlen : ∀ sig, parseMethodDescriptor y0.desc = some sig → argsL.length = sig.parameters.length) (hstack : g.stack = argsL.reverse ++ .ref a :: rest) (hW : 2 * g.monitorRoom + (rest.map fun v => v.category).sum ≤ W) (hdg : decode c.code g.pc = .ok (.invokeinterface index count, 5))
    (hf : rm.frames + 1 ≤ R.frames) (hl : W + (ml + 11) + rm.locals ≤ R.locals) (hc : cells + rm.cells ≤ R.cells) (hs : slots + rm.slots ≤ R.slots) :
    ∃ v T' L, Stand p l e R s m args below meth c T' (locs ++ L) (cells + rm.cells) (slots + rm.slots) ∧ Q v T'.heap L ∧ ∀ target, Steps p.tables e below (T'.setTop { g with pc := g.pc + 5, stack := v.toList ++ rest }) target → Steps p.tables e below (T.setTop g) target := by
  obtain ⟨cq, kq, qa, qb, qc⟩ := isOf hZ eT E
  obtain ⟨v, vm1, ⟨T1, L1, k1, n1⟩, -, X1, ⟨L, hQ, h1, h2, h3⟩, st⟩ := X.interfaceBack hx (xi := y0) (y := y) hown (mvT hZ w1) (mvT hZ w2) wf (mvT hZ w5) (mvT hZ w6) (mvT hZ wp) (mvT hZ wu) (mvT hZ wk) hy (backOf (W := W) ct hZ w4 w3 hf hl) qa qb qc hg hsize (Steps.refl _) hlen hstack hW hdg (fun _ _ => ⟨rfl, eT, hc, hs⟩)
  dsimp only [Pt.U, Pt.locs, Pt.cells, Pt.slots] at X1 h1 h2 h3 hQ st
  subst h1 h2 h3
  exact ⟨v, T1, L, X1, hQ, fun t k => st.trans k⟩
end Call
/-- getfield by an entry that is resolved already -/
theorem own_getR {O n d : String} {a : Addr} {v : Value} (X : Stand p l e R s m args below meth c T locs cells slots) (hx : p.tables.exec = Jvm.exec) (hZ : Z.Warmed39 s.vm) {own : String} {index : Nat} (hown : s.vm.findClass own = some m.cls) (w : (Jvm.Cond.fieldRef own index O n d).before a0 Z = true) (eT : T.heap = h) (F : Fld Z h a O n d v)
    {g : JFrame} (hg : g.method = m) {rest : List Value} (hs : g.stack = .ref a :: rest) (hd : decode c.code g.pc = .ok (.getfield index, 3)) :
    ∀ t, Steps p.tables e below (T.setTop { g with pc := g.pc + 3, stack := v :: rest }) t → Steps p.tables e below (T.setTop g) t := by
  have hT : Z.Warmed39 T.vm := wtrans hZ X.warmed
  have w' := Cond.fieldRef_warmed39 hT w
  have hownT : (Z.setVm T.vm).vm.findClass own = some m.cls := by
    show T.vm.findClass own = _
    rw [X.warmed.alike.findClass]; exact hown
  obtain ⟨c1, k1, i1, f1, q1, q2⟩ := Cond.fieldRef_spec hownT w'
  obtain ⟨cell, cf, k, i, f, h1, h2, h3, h4, -, -, h7⟩ := F
  obtain ⟨k', hi, -⟩ := State.fieldFound?_setVm (s := Z) hT.alike h2
  cases q1.symm.trans hi
  exact fun t kt => (X.getfieldR hx hg q2 h3 hs (by rw [eT]; exact h1) h4 h7 hd (Steps.refl _)).trans kt
theorem own_Sta.keep {C n d : String} {v : Value} (S : Sta Z h C n d v) (K : Keep h h' []) : Sta Z h' C n d v := by
  obtain ⟨cf, i, k, f, st, cell, h1, h2, h3, h4, h5, h6, h7⟩ := S
  exact ⟨cf, i, k, f, st, cell, h1, h2, h3, h4, K.2.1 _ _ h5 nin0, h6, h7⟩
theorem own_imod (x y : Int32) : x - (x / y) * y = x % y := by
  apply Int32.toInt_inj.mp
  have h1 := rng32 (x % y)
  rw [Int32.toInt_sub, Int32.toInt_mul, Int32.toInt_div, Int.bmod_mul_bmod, Int.sub_bmod_bmod, Int.mul_comm (x.toInt.tdiv y.toInt), ← Int.tmod_def, ← Int32.toInt_mod]
  exact Int.bmod_eq_of_le_mul_two (by omega) (by omega)
theorem own_irem {T target : State} {g : JFrame} (h : At T m c below) (hx : p.tables.exec = Jvm.exec) (hg : g.method = m) {x y : Int32} {rest : List Value} (hd : decode c.code g.pc = .ok (.irem, 1)) (hs : g.stack = .int y :: .int x :: rest) (hy : y ≠ 0)
    (hr : Steps p.tables e below (T.setTop { g with pc := g.pc + 1, stack := .int (x % y) :: rest }) target) : Steps p.tables e below (T.setTop g) target := by
  refine XS.irem h hx hg hd hs hy ?_
  rw [own_imod x y]
  exact hr
section Cmp
theorem own_tltL {x y : Int64} (h : x < y) : ifCond.holds .lt (lcmpW x y) = true ∧ ifCond.holds .ge (lcmpW x y) = false := by
  rw [if0, if0]; exact ⟨(tlt ((lw_lt x y).mpr h)).1, (tlt ((lw_lt x y).mpr h)).2.1⟩
theorem own_fltL {x y : Int64} (h : ¬ x < y) : ifCond.holds .lt (lcmpW x y) = false ∧ ifCond.holds .ge (lcmpW x y) = true := by
  have q : ¬ lcmpW x y < 0 := fun q => h ((lw_lt x y).mp q)
  rw [if0, if0]; exact ⟨(flt q).1, (flt q).2.1⟩
theorem own_tgtL {x y : Int64} (h : y < x) : ifCond.holds .gt (lcmpW x y) = true ∧ ifCond.holds .le (lcmpW x y) = false := by
  rw [if0, if0]; exact ⟨(tlt ((lw_gt x y).mpr h)).2.2.1, (tlt ((lw_gt x y).mpr h)).2.2.2⟩
theorem own_fgtL {x y : Int64} (h : ¬ y < x) : ifCond.holds .gt (lcmpW x y) = false ∧ ifCond.holds .le (lcmpW x y) = true := by
  have q : ¬ 0 < lcmpW x y := fun q => h ((lw_gt x y).mp q)
  rw [if0, if0]; exact ⟨(flt q).2.2.1, (flt q).2.2.2⟩
theorem own_teqL {x y : Int64} (h : x = y) : ifCond.holds .eq (lcmpW x y) = true ∧ ifCond.holds .ne (lcmpW x y) = false := by
  rw [if0, if0]; exact ⟨(teq ((lw_eq x y).mpr h)).1, (teq ((lw_eq x y).mpr h)).2⟩
theorem own_feqL {x y : Int64} (h : ¬ x = y) : ifCond.holds .eq (lcmpW x y) = false ∧ ifCond.holds .ne (lcmpW x y) = true := by
  have q : ¬ lcmpW x y = 0 := fun q => h ((lw_eq x y).mp q)
  rw [if0, if0]; exact ⟨(feq q).1, (feq q).2⟩
end Cmp
/-- an array: its kind, its length, its values -/
def own_AV (Z : State) (h : Heap) (a : Addr) (ty : FieldType) (n : Nat) (f : Nat → Value) : Prop :=
  ∃ cl : Cell, Arr Z h a cl ty ∧ cl.slots.size = n ∧ (∀ i, i < n → cl.slots[i]? = some (f i)) ∧ ∀ i, i < n → fits ty (f i) = true
/-- an array of int-like values -/
def own_AI (Z : State) (h : Heap) (a : Addr) (ty : FieldType) (n : Nat) (f : Nat → Int32) : Prop := own_AV Z h a ty n (fun i => .int (f i))
def own_AL (Z : State) (h : Heap) (a : Addr) (n : Nat) (f : Nat → Int64) : Prop := own_AV Z h a .long n (fun i => .long (f i))
def own_updV (f : Nat → Value) (k : Nat) (v : Value) : Nat → Value := fun i => if i = k then v else f i
def own_upd (f : Nat → Int32) (k : Nat) (v : Int32) : Nat → Int32 := fun i => if i = k then v else f i
def own_updL (f : Nat → Int64) (k : Nat) (v : Int64) : Nat → Int64 := fun i => if i = k then v else f i
theorem own_idx {j : Int32} {k n : Nat} {cl : Cell} (S : cl.slots.size = n) (hj : j.toInt = (k : Int)) (hk : k < n) : ¬ (j < 0 ∨ cl.slots.size ≤ j.toNatClampNeg) ∧ j.toNatClampNeg = k := by
  have e0 : (0 : Int32).toInt = 0 := by decide
  have e1 : j.toNatClampNeg = k := by
    show j.toInt.toNat = k
    rw [hj]; rfl
  refine ⟨?_, e1⟩
  rintro (q | q)
  · rw [Int32.lt_iff_toInt_lt, e0, hj] at q; omega
  · rw [e1, S] at q; omega
section AV
variable {a b : Addr} {ty : FieldType} {n : Nat} {f : Nat → Value}
theorem own_AV.lt (A : own_AV Z h a ty n f) : a < h.size := by obtain ⟨cl, h1, -⟩ := A; exact h1.lt
theorem own_AV.ext (A : own_AV Z h a ty n f) (E : Ext h h') : own_AV Z h' a ty n f := by obtain ⟨cl, h1, r⟩ := A; exact ⟨cl, h1.ext E, r⟩
theorem own_AV.other (A : own_AV Z h b ty n f) {sl : Nat} {v : Value} (W : Wr h h' a sl v) (q : b ≠ a) : own_AV Z h' b ty n f := by obtain ⟨cl, h1, r⟩ := A; exact ⟨cl, h1.other W q, r⟩
theorem own_AV.keep {ws : List Addr} (A : own_AV Z h a ty n f) (K : Keep h h' ws) (q : a ∉ ws) : own_AV Z h' a ty n f := by obtain ⟨cl, h1, r⟩ := A; exact ⟨cl, ⟨K.2.1 a cl h1.1 q, h1.2⟩, r⟩
theorem own_AV.congr {g : Nat → Value} (A : own_AV Z h a ty n f) (q : ∀ i, i < n → f i = g i) : own_AV Z h a ty n g := by
  obtain ⟨cl, h1, h2, h3, h4⟩ := A
  exact ⟨cl, h1, h2, fun i hi => by rw [← q i hi]; exact h3 i hi, fun i hi => by rw [← q i hi]; exact h4 i hi⟩
theorem own_AV.new {cA : ClassId} {z : Int32} (A : Arr Z h a (newA cA ty z) ty) (hn : z.toNatClampNeg = n) (hf : fits ty (defaultValue ty) = true) : own_AV Z h a ty n (fun _ => defaultValue ty) :=
  ⟨_, A, by rw [sz_new, hn], fun i hi => by subst hn; simp only [newA, Array.getElem?_replicate, hi, if_true], fun _ _ => hf⟩
theorem own_AV.set {k : Nat} {v : Value} (F : own_AV Z h a ty n f) (hk : k < n) (hv : fits ty v = true) (W : Wr h h' a k v) : own_AV Z h' a ty n (own_updV f k v) := by
  obtain ⟨cl, A, S, H, G⟩ := F
  refine ⟨_, A.same W, by rw [sz_set, S], fun i hi => ?_, fun i hi => ?_⟩
  · by_cases q : i = k
    · subst q; simp [Cell.setSlot, own_updV, S, hk]
    · have q' : ¬ k = i := fun r => q r.symm
      simp only [Cell.setSlot, own_updV, q, if_false]
      rw [Array.getElem?_setIfInBounds_ne q']
      exact H i hi
  · by_cases q : i = k
    · simp only [own_updV, q, if_true]; exact hv
    · simp only [own_updV, q, if_false]; exact G i hi
end AV
theorem own_ninS {x y : Nat} {L : List Nat} (q : x ≠ y) (r : x ∉ L) : x ∉ y :: L := ninS q r
theorem own_AL.congr {a : Addr} {n : Nat} {f g : Nat → Int64} (A : own_AL Z h a n f) (q : ∀ i, i < n → f i = g i) : own_AL Z h a n g := own_AV.congr A fun i hi => congrArg Value.long (q i hi)
section AI
variable {a b : Addr} {ty : FieldType} {n : Nat} {f : Nat → Int32}
theorem own_AI.lt (A : own_AI Z h a ty n f) : a < h.size := own_AV.lt A
theorem own_AI.ext (A : own_AI Z h a ty n f) (E : Ext h h') : own_AI Z h' a ty n f := own_AV.ext A E
theorem own_AI.other (A : own_AI Z h b ty n f) {sl : Nat} {v : Value} (W : Wr h h' a sl v) (q : b ≠ a) : own_AI Z h' b ty n f := own_AV.other A W q
theorem own_AI.keep {ws : List Addr} (A : own_AI Z h a ty n f) (K : Keep h h' ws) (q : a ∉ ws) : own_AI Z h' a ty n f := own_AV.keep A K q
theorem own_AI.congr {g : Nat → Int32} (A : own_AI Z h a ty n f) (q : ∀ i, i < n → f i = g i) : own_AI Z h a ty n g := own_AV.congr A fun i hi => congrArg Value.int (q i hi)
theorem own_AI.set {k : Nat} {v : Int32} (F : own_AI Z h a ty n f) (hk : k < n) (hv : fits ty (.int v) = true) (W : Wr h h' a k (.int v)) : own_AI Z h' a ty n (own_upd f k v) :=
  (own_AV.set F hk hv W).congr fun i _ => by
    by_cases q : i = k <;> simp [own_updV, own_upd, q]
end AI
section Rd
variable {a : Addr} {n k : Nat} {j : Int32} {g : JFrame} {rest : List Value}
theorem own_rdI {f : Nat → Int32} (X : Stand p l e R s m args below meth c T locs cells slots) (hx : p.tables.exec = Jvm.exec) (hZ : Z.Warmed39 s.vm) (eT : T.heap = h) (A : own_AI Z h a .int n f) (hj : j.toInt = (k : Int)) (hk : k < n) (hg : g.method = m) (hs : g.stack = .int j :: .ref a :: rest) (hd : decode c.code g.pc = .ok (.iaload, 1)) :
    ∀ t, Steps p.tables e below (T.setTop { g with pc := g.pc + 1, stack := .int (f k) :: rest }) t → Steps p.tables e below (T.setTop g) t := by
  obtain ⟨cl, A1, S, H, -⟩ := A
  obtain ⟨hin, e1⟩ := own_idx S hj hk
  exact X.iaload hx (by rw [eT]; exact A1.1) (State.isArrayOf_alike hZ.alike A1.2.1) A1.2.2 hin (by rw [e1]; exact H k hk) hg hs hd
theorem own_rdB {f : Nat → Int32} (X : Stand p l e R s m args below meth c T locs cells slots) (hx : p.tables.exec = Jvm.exec) (hZ : Z.Warmed39 s.vm) (eT : T.heap = h) (A : own_AI Z h a .byte n f) (hj : j.toInt = (k : Int)) (hk : k < n) (hg : g.method = m) (hs : g.stack = .int j :: .ref a :: rest) (hd : decode c.code g.pc = .ok (.baload, 1)) :
    ∀ t, Steps p.tables e below (T.setTop { g with pc := g.pc + 1, stack := .int (f k) :: rest }) t → Steps p.tables e below (T.setTop g) t := by
  obtain ⟨cl, A1, S, H, -⟩ := A
  obtain ⟨hin, e1⟩ := own_idx S hj hk
  exact X.baloadBytes hx (by rw [eT]; exact A1.1) (State.isArrayOf_alike hZ.alike A1.2.1) A1.2.2 hin (by rw [e1]; exact H k hk) hg hs hd
theorem own_rdZ {f : Nat → Int32} (X : Stand p l e R s m args below meth c T locs cells slots) (hx : p.tables.exec = Jvm.exec) (hZ : Z.Warmed39 s.vm) (eT : T.heap = h) (A : own_AI Z h a .boolean n f) (hj : j.toInt = (k : Int)) (hk : k < n) (hg : g.method = m) (hs : g.stack = .int j :: .ref a :: rest) (hd : decode c.code g.pc = .ok (.baload, 1)) :
    ∀ t, Steps p.tables e below (T.setTop { g with pc := g.pc + 1, stack := .int (f k) :: rest }) t → Steps p.tables e below (T.setTop g) t := by
  obtain ⟨cl, A1, S, H, -⟩ := A
  obtain ⟨hin, e1⟩ := own_idx S hj hk
  exact X.baloadBooleans hx (by rw [eT]; exact A1.1) (State.isArrayOf_alike hZ.alike A1.2.1) A1.2.2 hin (by rw [e1]; exact H k hk) hg hs hd
theorem own_rdC {f : Nat → Int32} (X : Stand p l e R s m args below meth c T locs cells slots) (hx : p.tables.exec = Jvm.exec) (hZ : Z.Warmed39 s.vm) (eT : T.heap = h) (A : own_AI Z h a .char n f) (hj : j.toInt = (k : Int)) (hk : k < n) (hg : g.method = m) (hs : g.stack = .int j :: .ref a :: rest) (hd : decode c.code g.pc = .ok (.caload, 1)) :
    ∀ t, Steps p.tables e below (T.setTop { g with pc := g.pc + 1, stack := .int (f k) :: rest }) t → Steps p.tables e below (T.setTop g) t := by
  obtain ⟨cl, A1, S, H, -⟩ := A
  obtain ⟨hin, e1⟩ := own_idx S hj hk
  exact X.caload hx (by rw [eT]; exact A1.1) (State.isArrayOf_alike hZ.alike A1.2.1) A1.2.2 hin (by rw [e1]; exact H k hk) hg hs hd
theorem own_wrC {f : Nat → Int32} {x : Int32} (X : Stand p l e R s m args below meth c T locs cells slots) (hx : p.tables.exec = Jvm.exec) (hZ : Z.Warmed39 s.vm) (eT : T.heap = h) (A : own_AI Z h a .char n f) (hj : j.toInt = (k : Int)) (hk : k < n) (hg : g.method = m) (hs : g.stack = .int x :: .int j :: .ref a :: rest) (hd : decode c.code g.pc = .ok (.castore, 1)) :
    ∃ T' h', Stand p l e R s m args below meth c T' (locs ++ [⟨a, k⟩]) cells slots ∧ T'.heap = h' ∧ Wr h h' a k (.int (nar .char x)) ∧ own_AI Z h' a .char n (own_upd f k (nar .char x)) ∧ ∀ t, Steps p.tables e below (T'.setTop { g with pc := g.pc + 1, stack := rest }) t → Steps p.tables e below (T.setTop g) t := by
  have A0 := A
  obtain ⟨cl, A1, S, H, -⟩ := A
  obtain ⟨hin, e1⟩ := own_idx S hj hk
  obtain ⟨T', h', X', e', W', st⟩ := stC X hx hZ eT A1 hin hg hs hd
  rw [e1] at X' W'
  exact ⟨T', h', X', e', W', A0.set hk (fits_nar_char x) W', st⟩
theorem own_rdL {f : Nat → Int64} (X : Stand p l e R s m args below meth c T locs cells slots) (hx : p.tables.exec = Jvm.exec) (hZ : Z.Warmed39 s.vm) (eT : T.heap = h) (A : own_AL Z h a n f) (hj : j.toInt = (k : Int)) (hk : k < n) (hg : g.method = m) (hs : g.stack = .int j :: .ref a :: rest) (hd : decode c.code g.pc = .ok (.laload, 1)) :
    ∀ t, Steps p.tables e below (T.setTop { g with pc := g.pc + 1, stack := .long (f k) :: rest }) t → Steps p.tables e below (T.setTop g) t := by
  obtain ⟨cl, A1, S, H, -⟩ := A
  obtain ⟨hin, e1⟩ := own_idx S hj hk
  exact X.laload hx (by rw [eT]; exact A1.1) (State.isArrayOf_alike hZ.alike A1.2.1) A1.2.2 hin (by rw [e1]; exact H k hk) hg hs hd
theorem own_rdR {f : Nat → Value} {ty : FieldType} (X : Stand p l e R s m args below meth c T locs cells slots) (hx : p.tables.exec = Jvm.exec) (hZ : Z.Warmed39 s.vm) (eT : T.heap = h) (A : own_AV Z h a ty n f) (ht : ty.isReference = true) (hj : j.toInt = (k : Int)) (hk : k < n) (hg : g.method = m) (hs : g.stack = .int j :: .ref a :: rest) (hd : decode c.code g.pc = .ok (.aaload, 1)) :
    ∀ t, Steps p.tables e below (T.setTop { g with pc := g.pc + 1, stack := f k :: rest }) t → Steps p.tables e below (T.setTop g) t := by
  obtain ⟨cl, A1, S, H, -⟩ := A
  obtain ⟨hin, e1⟩ := own_idx S hj hk
  exact X.aaload hx (by rw [eT]; exact A1.1) (State.isArrayOf_alike hZ.alike A1.2.1) ht A1.2.2 hin (by rw [e1]; exact H k hk) hg hs hd
theorem own_len {f : Nat → Value} {ty : FieldType} {z : Int32} (X : Stand p l e R s m args below meth c T locs cells slots) (hx : p.tables.exec = Jvm.exec) (hZ : Z.Warmed39 s.vm) (eT : T.heap = h) (A : own_AV Z h a ty n f) (hz : n.toInt32 = z) (hg : g.method = m) (hs : g.stack = .ref a :: rest) (hd : decode c.code g.pc = .ok (.arraylength, 1)) :
    ∀ t, Steps p.tables e below (T.setTop { g with pc := g.pc + 1, stack := .int z :: rest }) t → Steps p.tables e below (T.setTop g) t := by
  obtain ⟨cl, A1, S, -, -⟩ := A
  subst hz S
  exact X.arraylength hx (by rw [eT]; exact A1.1) (State.isArrayOf_alike hZ.alike A1.2.1) hg hs hd
theorem own_wrI {f : Nat → Int32} {x : Int32} (X : Stand p l e R s m args below meth c T locs cells slots) (hx : p.tables.exec = Jvm.exec) (hZ : Z.Warmed39 s.vm) (eT : T.heap = h) (A : own_AI Z h a .int n f) (hj : j.toInt = (k : Int)) (hk : k < n) (hg : g.method = m) (hs : g.stack = .int x :: .int j :: .ref a :: rest) (hd : decode c.code g.pc = .ok (.iastore, 1)) :
    ∃ T' h', Stand p l e R s m args below meth c T' (locs ++ [⟨a, k⟩]) cells slots ∧ T'.heap = h' ∧ Wr h h' a k (.int x) ∧ own_AI Z h' a .int n (own_upd f k x) ∧ ∀ t, Steps p.tables e below (T'.setTop { g with pc := g.pc + 1, stack := rest }) t → Steps p.tables e below (T.setTop g) t := by
  have A0 := A
  obtain ⟨cl, A1, S, H, -⟩ := A
  obtain ⟨hin, e1⟩ := own_idx S hj hk
  obtain ⟨T', h', X', e', W', st⟩ := stI X hx hZ eT A1 hin hg hs hd
  rw [e1] at X' W'
  exact ⟨T', h', X', e', W', A0.set hk rfl W', st⟩
theorem own_wrB {f : Nat → Int32} {x : Int32} (X : Stand p l e R s m args below meth c T locs cells slots) (hx : p.tables.exec = Jvm.exec) (hZ : Z.Warmed39 s.vm) (eT : T.heap = h) (A : own_AI Z h a .byte n f) (hj : j.toInt = (k : Int)) (hk : k < n) (hg : g.method = m) (hs : g.stack = .int x :: .int j :: .ref a :: rest) (hd : decode c.code g.pc = .ok (.bastore, 1)) :
    ∃ T' h', Stand p l e R s m args below meth c T' (locs ++ [⟨a, k⟩]) cells slots ∧ T'.heap = h' ∧ Wr h h' a k (.int (nar .byte x)) ∧ own_AI Z h' a .byte n (own_upd f k (nar .byte x)) ∧ ∀ t, Steps p.tables e below (T'.setTop { g with pc := g.pc + 1, stack := rest }) t → Steps p.tables e below (T.setTop g) t := by
  have A0 := A
  obtain ⟨cl, A1, S, H, -⟩ := A
  obtain ⟨hin, e1⟩ := own_idx S hj hk
  obtain ⟨T', h', X', e', W', st⟩ := stB X hx hZ eT A1 hin hg hs hd
  rw [e1] at X' W'
  exact ⟨T', h', X', e', W', A0.set hk (fits_nar_byte x) W', st⟩
theorem own_wrZ {f : Nat → Int32} {x : Int32} (X : Stand p l e R s m args below meth c T locs cells slots) (hx : p.tables.exec = Jvm.exec) (hZ : Z.Warmed39 s.vm) (eT : T.heap = h) (A : own_AI Z h a .boolean n f) (hj : j.toInt = (k : Int)) (hk : k < n) (hg : g.method = m) (hs : g.stack = .int x :: .int j :: .ref a :: rest) (hd : decode c.code g.pc = .ok (.bastore, 1)) :
    ∃ T' h', Stand p l e R s m args below meth c T' (locs ++ [⟨a, k⟩]) cells slots ∧ T'.heap = h' ∧ Wr h h' a k (.int (nar .boolean x)) ∧ own_AI Z h' a .boolean n (own_upd f k (nar .boolean x)) ∧ ∀ t, Steps p.tables e below (T'.setTop { g with pc := g.pc + 1, stack := rest }) t → Steps p.tables e below (T.setTop g) t := by
  have A0 := A
  obtain ⟨cl, A1, S, H, -⟩ := A
  obtain ⟨hin, e1⟩ := own_idx S hj hk
  obtain ⟨T', h', X', e', W', st⟩ := stZ X hx hZ eT A1 hin hg hs hd
  rw [e1] at X' W'
  exact ⟨T', h', X', e', W', A0.set hk (fits_nar_bool x) W', st⟩
theorem own_wrL {f : Nat → Int64} {x : Int64} (X : Stand p l e R s m args below meth c T locs cells slots) (hx : p.tables.exec = Jvm.exec) (hZ : Z.Warmed39 s.vm) (eT : T.heap = h) (A : own_AL Z h a n f) (hj : j.toInt = (k : Int)) (hk : k < n) (hg : g.method = m) (hs : g.stack = .long x :: .int j :: .ref a :: rest) (hd : decode c.code g.pc = .ok (.lastore, 1)) :
    ∃ T' h', Stand p l e R s m args below meth c T' (locs ++ [⟨a, k⟩]) cells slots ∧ T'.heap = h' ∧ Wr h h' a k (.long x) ∧ own_AL Z h' a n (own_updL f k x) ∧ ∀ t, Steps p.tables e below (T'.setTop { g with pc := g.pc + 1, stack := rest }) t → Steps p.tables e below (T.setTop g) t := by
  have A0 := A
  obtain ⟨cl, A1, S, H, -⟩ := A
  obtain ⟨hin, e1⟩ := own_idx S hj hk
  obtain ⟨T', h', X', e', W', st⟩ := stJ X hx hZ eT A1 hin hg hs hd
  rw [e1] at X' W'
  exact ⟨T', h', X', e', W', (own_AV.set A0 hk rfl W').congr fun i _ => by by_cases q : i = k <;> simp [own_updV, own_updL, q], st⟩
theorem own_wrR {f : Nat → Value} {ty : FieldType} {v : Value} (X : Stand p l e R s m args below meth c T locs cells slots) (hx : p.tables.exec = Jvm.exec) (hZ : Z.Warmed39 s.vm) (eT : T.heap = h) (A : own_AV Z h a ty n f) (ht : ty.isReference = true) (hv : fits ty v = true) (F : Sto Z h a v) (hj : j.toInt = (k : Int)) (hk : k < n) (hg : g.method = m) (hs : g.stack = v :: .int j :: .ref a :: rest) (hd : decode c.code g.pc = .ok (.aastore, 1)) :
    ∃ T' h', Stand p l e R s m args below meth c T' (locs ++ [⟨a, k⟩]) cells slots ∧ T'.heap = h' ∧ Wr h h' a k v ∧ own_AV Z h' a ty n (own_updV f k v) ∧ ∀ t, Steps p.tables e below (T'.setTop { g with pc := g.pc + 1, stack := rest }) t → Steps p.tables e below (T.setTop g) t := by
  have A0 := A
  obtain ⟨cl, A1, S, H, -⟩ := A
  obtain ⟨hin, e1⟩ := own_idx S hj hk
  obtain ⟨T', h', X', e', W', st⟩ := stR X hx hZ eT A1 hin ht F hg hs hd
  rw [e1] at X' W'
  exact ⟨T', h', X', e', W', A0.set hk hv W', st⟩
/-- newarray: the fresh array at a = the heap's old size -/
theorem own_newP {aty : ArrayType} {z : Int32} (X : Stand p l e R s m args below meth c T locs cells slots) (hx : p.tables.exec = Jvm.exec) (hZ : Z.Warmed39 s.vm) (w : (Jvm.Cond.arrayClass (newarray.typeOf aty)).before a0 Z = true) (eT : T.heap = h) (hz : z.toInt = (n : Int)) (hf : fits (newarray.typeOf aty) (defaultValue (newarray.typeOf aty)) = true) (hg : g.method = m) (hs : g.stack = .int z :: rest) (hd : decode c.code g.pc = .ok (.newarray aty, 2)) {cap : Nat} (hcap : n ≤ cap) (hb : cap * 8 ≤ 536870912) (hc : cells + 1 ≤ R.cells) (hl : slots + cap ≤ R.slots) :
    ∃ T' h' a, a = h.size ∧ Stand p l e R s m args below meth c T' locs (cells + 1) (slots + cap) ∧ T'.heap = h' ∧ Ext h h' ∧ own_AV Z h' a (newarray.typeOf aty) n (fun _ => defaultValue (newarray.typeOf aty)) ∧ ∀ t, Steps p.tables e below (T'.setTop { g with pc := g.pc + 2, stack := .ref a :: rest }) t → Steps p.tables e below (T.setTop g) t := by
  have e0 : (0 : Int32).toInt = 0 := by decide
  have e1 : z.toNatClampNeg = n := by show z.toInt.toNat = n; rw [hz]; rfl
  have hn : ¬ z < 0 := by rw [Int32.lt_iff_toInt_lt, e0, hz]; omega
  obtain ⟨T', h', cA, X', e', E', A', st⟩ := newP X hx hZ w eT hg hd hs hn (by rw [e1]; exact hcap) hb hc hl
  exact ⟨T', h', _, rfl, X', e', E', own_AV.new A' e1 hf, st⟩
/-- newarray: the fresh array, its class besides -/
theorem own_newPE {aty : ArrayType} {z : Int32} (X : Stand p l e R s m args below meth c T locs cells slots) (hx : p.tables.exec = Jvm.exec) (hZ : Z.Warmed39 s.vm) (w : (Jvm.Cond.arrayClass (newarray.typeOf aty)).before a0 Z = true) (eT : T.heap = h) (hz : z.toInt = (n : Int)) (hf : fits (newarray.typeOf aty) (defaultValue (newarray.typeOf aty)) = true) (hg : g.method = m) (hs : g.stack = .int z :: rest) (hd : decode c.code g.pc = .ok (.newarray aty, 2)) {cap : Nat} (hcap : n ≤ cap) (hb : cap * 8 ≤ 536870912) (hc : cells + 1 ≤ R.cells) (hl : slots + cap ≤ R.slots) {ad : String} (had : "[" ++ (newarray.typeOf aty).toString = ad) :
    ∃ T' h' a, a = h.size ∧ Stand p l e R s m args below meth c T' locs (cells + 1) (slots + cap) ∧ T'.heap = h' ∧ Ext h h' ∧ own_AV Z h' a (newarray.typeOf aty) n (fun _ => defaultValue (newarray.typeOf aty)) ∧ Exa Z h' a ad ∧ ∀ t, Steps p.tables e below (T'.setTop { g with pc := g.pc + 2, stack := .ref a :: rest }) t → Steps p.tables e below (T.setTop g) t := by
  have e0 : (0 : Int32).toInt = 0 := by decide
  have e1 : z.toNatClampNeg = n := by show z.toInt.toNat = n; rw [hz]; rfl
  have hn : ¬ z < 0 := by rw [Int32.lt_iff_toInt_lt, e0, hz]; omega
  obtain ⟨T', h', cA, X', e', E', A', E2, st⟩ := newPE X hx hZ w eT hg hd hs hn (by rw [e1]; exact hcap) hb hc hl had
  exact ⟨T', h', _, rfl, X', e', E', own_AV.new A' e1 hf, E2, st⟩
/-- anewarray: the fresh array of references, all null; what may lie in it -/
theorem own_newR {C : String} {z : Int32} {own : String} {index : Nat} (X : Stand p l e R s m args below meth c T locs cells slots) (hx : p.tables.exec = Jvm.exec) (hZ : Z.Warmed39 s.vm) (hown : s.vm.findClass own = some m.cls) (w1 : (Jvm.Cond.classLink own index C).before a0 Z = true) (w2 : (Jvm.Cond.arrayOver (.object C)).before a0 Z = true) (eT : T.heap = h) (hz : z.toInt = (n : Int)) (hg : g.method = m) (hs : g.stack = .int z :: rest) (hd : decode c.code g.pc = .ok (.anewarray index, 3)) {cap : Nat} (hcap : n ≤ cap) (hb : cap * 8 ≤ 536870912) (hc : cells + 1 ≤ R.cells) (hl : slots + cap ≤ R.slots) :
    ∃ T' h' a, a = h.size ∧ Stand p l e R s m args below meth c T' locs (cells + 1) (slots + cap) ∧ T'.heap = h' ∧ Ext h h' ∧ own_AV Z h' a (.object C) n (fun _ => .null) ∧ (∃ cl : Cell, h'[a]? = some cl ∧ Ovr Z cl.cls C) ∧ ∀ t, Steps p.tables e below (T'.setTop { g with pc := g.pc + 3, stack := .ref a :: rest }) t → Steps p.tables e below (T.setTop g) t := by
  have e0 : (0 : Int32).toInt = 0 := by decide
  have e1 : z.toNatClampNeg = n := by show z.toInt.toNat = n; rw [hz]; rfl
  have hn : ¬ z < 0 := by rw [Int32.lt_iff_toInt_lt, e0, hz]; omega
  obtain ⟨T', h', cA, X', e', E', A', O', st⟩ := newR X hx hZ hown w1 w2 eT hg hd hs hn (by rw [e1]; exact hcap) hb hc hl
  exact ⟨T', h', _, rfl, X', e', E', own_AV.new A' e1 rfl, ⟨_, A'.1, O'⟩, st⟩
/-- the array over class C at a takes an object of C -/
def own_Ov (Z : State) (h : Heap) (a : Addr) (C : String) : Prop := ∃ cl : Cell, h[a]? = some cl ∧ Ovr Z cl.cls C
theorem own_Ov.keep {a : Addr} {C : String} {ws : List Addr} (O : own_Ov Z h a C) (K : Keep h h' ws) : own_Ov Z h' a C := by
  obtain ⟨cl, h1, h2⟩ := O
  obtain ⟨c', q1, q2, -, -⟩ := K.2.2 a cl h1
  exact ⟨c', q1, by rw [q2]; exact h2⟩
theorem own_Ov.sto {a y : Addr} {C : String} {ty : FieldType} {f : Nat → Value} (O : own_Ov Z h a C) (A : own_AV Z h a ty n f) (I : Ins Z h y C true) : Sto Z h a (.ref y) := by
  obtain ⟨cl, h1, h2⟩ := O
  obtain ⟨c2, A2, -⟩ := A
  cases h1.symm.trans A2.1
  exact Sto.of A2 h2 I
/-- clone() of an array -/
theorem own_clone {own ad : String} {index : Nat} {ty : FieldType} {f : Nat → Value} (X : Stand p l e R s m args below meth c T locs cells slots) (hx : p.tables.exec = Jvm.exec) (hZ : Z.Warmed39 s.vm) (hown : s.vm.findClass own = some m.cls)
    (w1 : (Jvm.Cond.methodLink own index ⟨ad, "clone", "()Ljava/lang/Object;"⟩).before a0 Z = true) (w2 : (Jvm.Cond.sameMethod ad "java/lang/Object" "clone" "()Ljava/lang/Object;").before a0 Z = true) (w3 : (Jvm.Cond.native ⟨"java/lang/Object", "clone", "()Ljava/lang/Object;"⟩).before a0 Z = true)
    (w4 : (Jvm.Cond.instanceMethod ⟨"java/lang/Object", "clone", "()Ljava/lang/Object;"⟩).before a0 Z = true) (w5 : (Jvm.Cond.selects ad ⟨ad, "clone", "()Ljava/lang/Object;"⟩ ⟨"java/lang/Object", "clone", "()Ljava/lang/Object;"⟩).before a0 Z = true) (w6 : (Jvm.Cond.castable ad "java/lang/Cloneable").before a0 Z = true)
    (eT : T.heap = h) (A : own_AV Z h a ty n f) (E : Exa Z h a ad) (hg : g.method = m) (hsize : g.locals.size = c.maxLocals) (hs : g.stack = .ref a :: rest) (hd : decode c.code g.pc = .ok (.invokevirtual index, 3))
    (hf : 1 ≤ R.frames) {W : Nat} (hW : 2 * g.monitorRoom + (rest.map fun v => v.category).sum ≤ W) (hl : W + 14 ≤ R.locals) (hc : cells + 1 ≤ R.cells) (hsl : slots + n ≤ R.slots) :
    ∃ T' h' b, b = h.size ∧ Stand p l e R s m args below meth c T' locs (cells + 1) (slots + n) ∧ T'.heap = h' ∧ Ext h h' ∧ own_AV Z h' b ty n f ∧ Exa Z h' b ad ∧ ∀ t, Steps p.tables e below (T'.setTop { g with pc := g.pc + 3, stack := .ref b :: rest }) t → Steps p.tables e below (T.setTop g) t := by
  obtain ⟨cl, A1, S, H, G⟩ := A
  have F : FitC Z cl := fitC_of A1 fun i hi v hv => by
    rw [S] at hi
    rw [H i hi] at hv
    cases hv
    exact G i hi
  obtain ⟨T', h', X', e', E', A', E2, st⟩ := cloneA X hx hZ hown w1 w2 w3 w4 w5 w6 eT A1 E F hg hsize hs hd hf hW hl (Nat.le_of_eq S) hc hsl
  exact ⟨T', h', _, rfl, X', e', E', ⟨_, A', S, H, G⟩, E2, st⟩
end Rd
end Own
end Jvm.RoadKit
namespace Jvm.Pilot.@@N@@
open Jvm Jvm.ClassFile Sem Op Lib Jvm.Free Jvm.Stand Jvm.LawKit Jvm.RoadKit Bundle Jvm.Pilot.@@N@@.Jvm.D
theorem own_eqI {x y : Int32} (h : x.toInt = y.toInt) : x = y := Int32.toInt_inj.mp h
theorem own_eqL {x y : Int64} (h : x.toInt = y.toInt) : x = y := Int64.toInt_inj.mp h
/-- the number of decimal digits, none for 0 -/
def own_nd0 (n : Nat) : Nat := if h : n = 0 then 0 else own_nd0 (n / 10) + 1
termination_by n
decreasing_by omega
/-- the number of decimal digits, one for 0 -/
def own_nd (n : Nat) : Nat := own_nd0 (n / 10) + 1
theorem own_nd0_zero : own_nd0 0 = 0 := by rw [own_nd0]; simp
theorem own_nd0_pos (n : Nat) (h : n ≠ 0) : own_nd0 n = own_nd0 (n / 10) + 1 := by rw [own_nd0]; simp [h]
theorem own_divdiv (U j : Nat) : U / 10 ^ (j + 1) = U / 10 / 10 ^ j := by rw [Nat.pow_succ, Nat.mul_comm, Nat.div_div_eq_div_mul]
theorem own_divdiv' (U j : Nat) : U / 10 ^ (j + 1) = U / 10 ^ j / 10 := by rw [Nat.pow_succ, Nat.div_div_eq_div_mul]
theorem own_nd_lt : ∀ (j U : Nat), (j = 0 ∨ U / 10 ^ j ≠ 0) → j < own_nd U := by
  intro j
  induction j with
  | zero => intro U _; unfold own_nd; omega
  | succ j ih =>
    intro U h
    have h1 : U / 10 ^ (j + 1) ≠ 0 := by rcases h with h | h <;> first | (cases h; done) | exact h
    rw [own_divdiv] at h1
    have h2 : U / 10 ≠ 0 := fun z => h1 (by rw [z]; exact Nat.zero_div _)
    have h3 := ih (U / 10) (Or.inr h1)
    have h4 : own_nd U = own_nd (U / 10) + 1 := by
      show own_nd0 (U / 10) + 1 = own_nd0 (U / 10 / 10) + 1 + 1
      rw [own_nd0_pos _ h2]
    omega
theorem own_nd_le : ∀ (j U : Nat), U / 10 ^ (j + 1) = 0 → own_nd U ≤ j + 1 := by
  intro j
  induction j with
  | zero =>
    intro U h
    have h1 : U / 10 = 0 := by simpa using h
    unfold own_nd; rw [h1, own_nd0_zero]; exact Nat.le_refl _
  | succ j ih =>
    intro U h
    rw [own_divdiv] at h
    have h3 := ih (U / 10) h
    by_cases h2 : U / 10 = 0
    · unfold own_nd; rw [h2, own_nd0_zero]; omega
    · have h4 : own_nd U = own_nd (U / 10) + 1 := by
        show own_nd0 (U / 10) + 1 = own_nd0 (U / 10 / 10) + 1 + 1
        rw [own_nd0_pos _ h2]
      omega
theorem own_nd_pos (U : Nat) : 0 < own_nd U := by unfold own_nd; omega
theorem own_nd_19 (U : Nat) (h : U < 10000000000000000000) : own_nd U ≤ 19 := own_nd_le 18 U (by
  have : (10 : Nat) ^ (18 + 1) = 10000000000000000000 := by decide
  rw [this]; omega)
theorem own_nd0_le (U : Nat) (h : U < 10000000000000000000) : own_nd0 (U / 10) ≤ 18 := by
  have := own_nd_19 U h
  unfold own_nd at this; omega
/-- the sign of a digit -/
def own_ch (d : Nat) : Int32 := Int32.ofNat (48 + d % 10)
theorem own_ch_toInt (d : Nat) : (own_ch d).toInt = 48 + ((d % 10 : Nat) : Int) := by
  have h : ∀ r : Fin 10, (Int32.ofNat (48 + r.1)).toInt = 48 + (r.1 : Int) := by decide
  exact h ⟨d % 10, Nat.mod_lt _ (by decide)⟩
theorem own_ch_of (x : Int32) (d : Nat) (h : x.toInt = 48 + ((d % 10 : Nat) : Int)) : nar .byte x.toInt8.toInt32 = own_ch d := by
  apply own_eqI
  rw [own_ch_toInt]
  show (x.toInt8.toInt32.toInt8.toInt32).toInt = _
  have a1 := c_i2b x
  have a2 := c_i2b x.toInt8.toInt32
  have hm : d % 10 < 10 := Nat.mod_lt _ (by decide)
  omega
/-- j digits of N written below top -/
def own_dig (f : Nat → Int32) (top N j : Nat) : Nat → Int32 := fun i => if top - j ≤ i ∧ i < top then own_ch (N / 10 ^ (top - 1 - i)) else f i
theorem own_dig0 (f : Nat → Int32) (top N i : Nat) : own_dig f top N 0 i = f i := by
  unfold own_dig; rw [if_neg (by omega)]
theorem own_dig_next (f : Nat → Int32) (top N j k : Nat) (v : Int32) (hk : k + (j + 1) = top) (hv : v = own_ch (N / 10 ^ j)) (i : Nat) : own_upd (own_dig f top N j) k v i = own_dig f top N (j + 1) i := by
  unfold own_upd own_dig
  by_cases q : i = k
  · subst q
    rw [if_pos rfl, if_pos (by omega), hv]
    congr 2
    congr 1
    omega
  · rw [if_neg q]
    by_cases r : top - j ≤ i ∧ i < top
    · rw [if_pos r, if_pos (by omega)]
    · rw [if_neg r, if_neg (by omega)]
/-- what putFixed leaves -/
def own_put (f : Nat → Int32) (neg : Bool) (at_ U D dec : Nat) : Nat → Int32 :=
  let dot := at_ + (if neg then 1 else 0) + own_nd U
  let g := own_dig (own_upd (own_dig f (dot + 1 + dec) D dec) dot 46) dot U (own_nd U)
  if neg then own_upd g at_ 45 else g
/-- one step of an int down by ten -/
theorem own_irem10 (x : Int32) (n : Nat) (h : x.toInt = (n : Int)) : (x % (10 : Int32)).toInt = ((n % 10 : Nat) : Int) := by
  have := (c_irem x 10 10 (by decide)).1 (by omega)
  omega
theorem own_idiv10 (x : Int32) (n : Nat) (h : x.toInt = (n : Int)) : (x / (10 : Int32)).toInt = ((n / 10 : Nat) : Int) := by
  have := (c_idiv x 10 10 (by decide) (by decide)).1 (by omega)
  omega
theorem own_lrem10 (x : Int64) (n : Nat) (h : x.toInt = (n : Int)) : (x - (x / (10 : Int64)) * (10 : Int64)).toInt = ((n % 10 : Nat) : Int) := by
  have := (c_lrem x 10 10 (by decide)).1 (by omega)
  omega
theorem own_ldiv10 (x : Int64) (n : Nat) (h : x.toInt = (n : Int)) : (x / (10 : Int64)).toInt = ((n / 10 : Nat) : Int) := by
  have := (c_ldiv x 10 10 (by decide) (by decide)).1 (by omega)
  omega
theorem own_digI (x : Int32) (n : Nat) (h : x.toInt = (n : Int)) : nar .byte ((48 : Int32) + (x % (10 : Int32))).toInt8.toInt32 = own_ch n := by
  have h1 := own_irem10 x n h
  have c := c_iadd 48 (x % 10)
  have r := rng32 ((48 : Int32) + (x % (10 : Int32)))
  have e : (48 : Int32).toInt = 48 := by decide
  rw [e] at c
  exact own_ch_of _ n (by omega)
theorem own_digL (x : Int64) (n : Nat) (h : x.toInt = (n : Int)) : nar .byte ((48 : Int64) + (x - (x / (10 : Int64)) * (10 : Int64))).toInt32.toInt8.toInt32 = own_ch n := by
  have h1 := own_lrem10 x n h
  generalize (x - (x / (10 : Int64)) * (10 : Int64)) = y at *
  have c := c_ladd 48 y
  have r := rng64 ((48 : Int64) + y)
  have e : (48 : Int64).toInt = 48 := by decide
  rw [e] at c
  have c2 := c_l2i ((48 : Int64) + y)
  have r2 := rng32 ((48 : Int64) + y).toInt32
  exact own_ch_of _ n (by omega)
theorem own_dec1 (x : Int32) (k : Nat) (h : x.toInt = ((k + 1 : Nat) : Int)) : (x + (-1 : Int32)).toInt = (k : Int) := by
  have c := c_iadd x (-1)
  have r := rng32 (x + (-1 : Int32))
  have r2 := rng32 x
  have e : (-1 : Int32).toInt = -1 := by decide
  rw [e] at c
  omega
theorem own_inc1 (x : Int32) (k : Nat) (h : x.toInt = (k : Int)) (hk : k < 1000) : (x + (1 : Int32)).toInt = ((k + 1 : Nat) : Int) := by
  have c := c_iadd x 1
  have r := rng32 (x + (1 : Int32))
  have e : (1 : Int32).toInt = 1 := by decide
  rw [e] at c
  omega
theorem own_l2i (x : Int64) (n : Nat) (h : x.toInt = (n : Int)) (hn : n < 2147483648) : x.toInt32.toInt = (n : Int) := by
  have c := c_l2i x
  have r := rng32 x.toInt32
  omega
theorem own_pflt (dec : Int32) (i : Int32) (a b : Nat) (h1 : i.toInt = (a : Int)) (h2 : dec.toInt = (b : Int)) : i < dec ↔ a < b := by
  rw [Int32.lt_iff_toInt_lt]; omega
theorem own_end (at_ sg cnt dec : Int32) (ka ks kn kd : Nat) (h1 : at_.toInt = (ka : Int)) (h2 : sg.toInt = (ks : Int)) (h3 : cnt.toInt = (kn : Int)) (h4 : dec.toInt = (kd : Int)) (hb : ka + ks + kn + kd < 1000) : ((((at_ + sg) + cnt) + (1 : Int32)) + dec).toInt = ((ka + ks + kn + 1 + kd : Nat) : Int) := by
  have e : (1 : Int32).toInt = 1 := by decide
  have c1 := c_iadd at_ sg
  have r1 := rng32 (at_ + sg)
  have c2 := c_iadd (at_ + sg) cnt
  have r2 := rng32 ((at_ + sg) + cnt)
  have c3 := c_iadd ((at_ + sg) + cnt) 1
  have r3 := rng32 (((at_ + sg) + cnt) + 1)
  rw [e] at c3
  have c4 := c_iadd (((at_ + sg) + cnt) + 1) dec
  have r4 := rng32 ((((at_ + sg) + cnt) + 1) + dec)
  omega
theorem own_q1 {j kd : Nat} (h : j + 0 = kd) : j = kd := h
theorem own_q2 {j kd : Nat} (h : j = kd) : ¬ j < kd := by omega
theorem own_q3 {j r kd : Nat} (h : j + (r + 1) = kd) : j < kd := by omega
theorem own_q4 {j r kd dot len : Nat} (hl : dot + 1 + kd ≤ len) (h : j + (r + 1) = kd) : dot + 1 + r < len := by omega
theorem own_q5 {j r kd dot : Nat} (h : j + (r + 1) = kd) : dot + 1 + r + (j + 1) = dot + 1 + kd := by omega
theorem own_q6 {j r kd : Nat} (h : j + (r + 1) = kd) : j + 1 + r = kd := by omega
theorem own_q7 {j r kd dot len : Nat} (hl : dot + 1 + kd ≤ len) (h9 : len < 900) (h : j + (r + 1) = kd) : j < 1000 := by omega
theorem own_q8 {kd dot len : Nat} (hl : dot + 1 + kd ≤ len) : dot < len := by omega
theorem own_q9 {x : Int64} {N : Nat} (h : x.toInt = (N : Int)) (z : (2147483647 : Int64) < x) : 2147483647 < N := by
  have e0 : (2147483647 : Int64).toInt = 2147483647 := by decide
  rw [Int64.lt_iff_toInt_lt, e0] at z; omega
theorem own_q10 {dot j k U : Nat} (hd : dot = k + own_nd U) (h : j < own_nd U) : dot - j = dot - j - 1 + 1 := by omega
theorem own_q11 {dot j kd len : Nat} (hl : dot + 1 + kd ≤ len) : dot - j - 1 < len := by omega
theorem own_q12 {dot j k U : Nat} (hd : dot = k + own_nd U) (h : j < own_nd U) : dot - j - 1 + (j + 1) = dot := by omega
theorem own_q13 {N : Nat} (h : 2147483647 < N) : N / 10 < N := by omega
theorem own_q14 {N : Nat} (h : 2147483647 < N) : N / 10 ≠ 0 := by omega
theorem own_q15 {x : Int64} {N : Nat} (h : x.toInt = (N : Int)) (z : ¬ (2147483647 : Int64) < x) : N < 2147483648 := by
  have e0 : (2147483647 : Int64).toInt = 2147483647 := by decide
  rw [Int64.lt_iff_toInt_lt, e0] at z; omega
theorem own_q16 {x : Int32} {N : Nat} (h : x.toInt = (N : Int)) (z : (0 : Int32) < x) : N ≠ 0 := by
  have e0 : (0 : Int32).toInt = 0 := by decide
  rw [Int32.lt_iff_toInt_lt, e0] at z; omega
theorem own_q17 {x : Int32} {N : Nat} (h : x.toInt = (N : Int)) (z : ¬ (0 : Int32) < x) : N = 0 := by
  have e0 : (0 : Int32).toInt = 0 := by decide
  rw [Int32.lt_iff_toInt_lt, e0] at z; omega
theorem own_q18 {N : Nat} (h : N / 10 ≠ 0) : N / 10 < N := by omega
theorem own_q19 {dot ka ks u : Nat} (hd : dot = ka + ks + u) (h : ks = 1) : dot - u = ka + 1 := by omega
theorem own_q20 {dot ka ks u kd len : Nat} (hl : dot + 1 + kd ≤ len) (hd : dot = ka + ks + u) : ka < len := by omega
theorem own_d2_0 : decode prog_87_method_32_code 0 = .ok (.iconst 1, 1) := by decide +kernel
theorem own_d2_1 : decode prog_87_method_32_code 1 = .ok (.istore 8, 2) := by decide +kernel
theorem own_d2_3 : decode prog_87_method_32_code 3 = .ok (.lload_n 1, 1) := by decide +kernel
theorem own_d2_4 : decode prog_87_method_32_code 4 = .ok (.ldc2_w 251, 3) := by decide +kernel
theorem own_d2_7 : decode prog_87_method_32_code 7 = .ok (.ldiv, 1) := by decide +kernel
theorem own_d2_8 : decode prog_87_method_32_code 8 = .ok (.lstore 9, 2) := by decide +kernel
theorem own_d2_10 : decode prog_87_method_32_code 10 = .ok (.lload 9, 2) := by decide +kernel
theorem own_d2_12 : decode prog_87_method_32_code 12 = .ok (.lconst 0, 1) := by decide +kernel
theorem own_d2_13 : decode prog_87_method_32_code 13 = .ok (.lcmp, 1) := by decide +kernel
theorem own_d2_14 : decode prog_87_method_32_code 14 = .ok (.ifCond .le 17, 3) := by decide +kernel
theorem own_d2_17 : decode prog_87_method_32_code 17 = .ok (.iinc 8 1, 3) := by decide +kernel
theorem own_d2_20 : decode prog_87_method_32_code 20 = .ok (.lload 9, 2) := by decide +kernel
theorem own_d2_22 : decode prog_87_method_32_code 22 = .ok (.ldc2_w 251, 3) := by decide +kernel
theorem own_d2_25 : decode prog_87_method_32_code 25 = .ok (.ldiv, 1) := by decide +kernel
theorem own_d2_26 : decode prog_87_method_32_code 26 = .ok (.lstore 9, 2) := by decide +kernel
theorem own_d2_28 : decode prog_87_method_32_code 28 = .ok (.goto (-18), 3) := by decide +kernel
theorem own_d2_31 : decode prog_87_method_32_code 31 = .ok (.iload 7, 2) := by decide +kernel
theorem own_d2_33 : decode prog_87_method_32_code 33 = .ok (.iload_n 0, 1) := by decide +kernel
theorem own_d2_34 : decode prog_87_method_32_code 34 = .ok (.ifCond .eq 7, 3) := by decide +kernel
theorem own_d2_37 : decode prog_87_method_32_code 37 = .ok (.iconst 1, 1) := by decide +kernel
theorem own_d2_38 : decode prog_87_method_32_code 38 = .ok (.goto 4, 3) := by decide +kernel
theorem own_d2_41 : decode prog_87_method_32_code 41 = .ok (.iconst 0, 1) := by decide +kernel
theorem own_d2_42 : decode prog_87_method_32_code 42 = .ok (.iadd, 1) := by decide +kernel
theorem own_d2_43 : decode prog_87_method_32_code 43 = .ok (.iload 8, 2) := by decide +kernel
theorem own_d2_45 : decode prog_87_method_32_code 45 = .ok (.iadd, 1) := by decide +kernel
theorem own_d2_46 : decode prog_87_method_32_code 46 = .ok (.iconst 1, 1) := by decide +kernel
theorem own_d2_47 : decode prog_87_method_32_code 47 = .ok (.iadd, 1) := by decide +kernel
theorem own_d2_48 : decode prog_87_method_32_code 48 = .ok (.iload 5, 2) := by decide +kernel
theorem own_d2_50 : decode prog_87_method_32_code 50 = .ok (.iadd, 1) := by decide +kernel
theorem own_d2_51 : decode prog_87_method_32_code 51 = .ok (.istore 9, 2) := by decide +kernel
theorem own_d2_53 : decode prog_87_method_32_code 53 = .ok (.iload 9, 2) := by decide +kernel
theorem own_d2_55 : decode prog_87_method_32_code 55 = .ok (.istore 10, 2) := by decide +kernel
theorem own_d2_57 : decode prog_87_method_32_code 57 = .ok (.lload_n 3, 1) := by decide +kernel
theorem own_d2_58 : decode prog_87_method_32_code 58 = .ok (.l2i, 1) := by decide +kernel
theorem own_d2_59 : decode prog_87_method_32_code 59 = .ok (.istore 11, 2) := by decide +kernel
theorem own_d2_61 : decode prog_87_method_32_code 61 = .ok (.iconst 0, 1) := by decide +kernel
theorem own_d2_62 : decode prog_87_method_32_code 62 = .ok (.istore 12, 2) := by decide +kernel
theorem own_d2_64 : decode prog_87_method_32_code 64 = .ok (.iload 12, 2) := by decide +kernel
theorem own_d2_66 : decode prog_87_method_32_code 66 = .ok (.iload 5, 2) := by decide +kernel
theorem own_d2_68 : decode prog_87_method_32_code 68 = .ok (.if_icmp .ge 33, 3) := by decide +kernel
theorem own_d2_71 : decode prog_87_method_32_code 71 = .ok (.aload 6, 2) := by decide +kernel
theorem own_d2_73 : decode prog_87_method_32_code 73 = .ok (.iinc 10 (-1), 3) := by decide +kernel
theorem own_d2_76 : decode prog_87_method_32_code 76 = .ok (.iload 10, 2) := by decide +kernel
theorem own_d2_78 : decode prog_87_method_32_code 78 = .ok (.bipush 48, 2) := by decide +kernel
theorem own_d2_80 : decode prog_87_method_32_code 80 = .ok (.iload 11, 2) := by decide +kernel
theorem own_d2_82 : decode prog_87_method_32_code 82 = .ok (.bipush 10, 2) := by decide +kernel
theorem own_d2_84 : decode prog_87_method_32_code 84 = .ok (.irem, 1) := by decide +kernel
theorem own_d2_85 : decode prog_87_method_32_code 85 = .ok (.iadd, 1) := by decide +kernel
theorem own_d2_86 : decode prog_87_method_32_code 86 = .ok (.i2b, 1) := by decide +kernel
theorem own_d2_87 : decode prog_87_method_32_code 87 = .ok (.bastore, 1) := by decide +kernel
theorem own_d2_88 : decode prog_87_method_32_code 88 = .ok (.iload 11, 2) := by decide +kernel
theorem own_d2_90 : decode prog_87_method_32_code 90 = .ok (.bipush 10, 2) := by decide +kernel
theorem own_d2_92 : decode prog_87_method_32_code 92 = .ok (.idiv, 1) := by decide +kernel
theorem own_d2_93 : decode prog_87_method_32_code 93 = .ok (.istore 11, 2) := by decide +kernel
theorem own_d2_95 : decode prog_87_method_32_code 95 = .ok (.iinc 12 1, 3) := by decide +kernel
theorem own_d2_98 : decode prog_87_method_32_code 98 = .ok (.goto (-34), 3) := by decide +kernel
theorem own_d2_101 : decode prog_87_method_32_code 101 = .ok (.aload 6, 2) := by decide +kernel
theorem own_d2_103 : decode prog_87_method_32_code 103 = .ok (.iinc 10 (-1), 3) := by decide +kernel
theorem own_d2_106 : decode prog_87_method_32_code 106 = .ok (.iload 10, 2) := by decide +kernel
theorem own_d2_108 : decode prog_87_method_32_code 108 = .ok (.bipush 46, 2) := by decide +kernel
theorem own_d2_110 : decode prog_87_method_32_code 110 = .ok (.bastore, 1) := by decide +kernel
theorem own_d2_111 : decode prog_87_method_32_code 111 = .ok (.lload_n 1, 1) := by decide +kernel
theorem own_d2_112 : decode prog_87_method_32_code 112 = .ok (.lstore 12, 2) := by decide +kernel
theorem own_d2_114 : decode prog_87_method_32_code 114 = .ok (.lload 12, 2) := by decide +kernel
theorem own_d2_116 : decode prog_87_method_32_code 116 = .ok (.ldc2_w 255, 3) := by decide +kernel
theorem own_d2_119 : decode prog_87_method_32_code 119 = .ok (.lcmp, 1) := by decide +kernel
theorem own_d2_120 : decode prog_87_method_32_code 120 = .ok (.ifCond .le 34, 3) := by decide +kernel
theorem own_d2_123 : decode prog_87_method_32_code 123 = .ok (.aload 6, 2) := by decide +kernel
theorem own_d2_125 : decode prog_87_method_32_code 125 = .ok (.iinc 10 (-1), 3) := by decide +kernel
theorem own_d2_128 : decode prog_87_method_32_code 128 = .ok (.iload 10, 2) := by decide +kernel
theorem own_d2_130 : decode prog_87_method_32_code 130 = .ok (.ldc2_w 257, 3) := by decide +kernel
theorem own_d2_133 : decode prog_87_method_32_code 133 = .ok (.lload 12, 2) := by decide +kernel
theorem own_d2_135 : decode prog_87_method_32_code 135 = .ok (.ldc2_w 251, 3) := by decide +kernel
theorem own_d2_138 : decode prog_87_method_32_code 138 = .ok (.lrem, 1) := by decide +kernel
theorem own_d2_139 : decode prog_87_method_32_code 139 = .ok (.ladd, 1) := by decide +kernel
theorem own_d2_140 : decode prog_87_method_32_code 140 = .ok (.l2i, 1) := by decide +kernel
theorem own_d2_141 : decode prog_87_method_32_code 141 = .ok (.i2b, 1) := by decide +kernel
theorem own_d2_142 : decode prog_87_method_32_code 142 = .ok (.bastore, 1) := by decide +kernel
theorem own_d2_143 : decode prog_87_method_32_code 143 = .ok (.lload 12, 2) := by decide +kernel
theorem own_d2_145 : decode prog_87_method_32_code 145 = .ok (.ldc2_w 251, 3) := by decide +kernel
theorem own_d2_148 : decode prog_87_method_32_code 148 = .ok (.ldiv, 1) := by decide +kernel
theorem own_d2_149 : decode prog_87_method_32_code 149 = .ok (.lstore 12, 2) := by decide +kernel
theorem own_d2_151 : decode prog_87_method_32_code 151 = .ok (.goto (-37), 3) := by decide +kernel
theorem own_d2_154 : decode prog_87_method_32_code 154 = .ok (.lload 12, 2) := by decide +kernel
theorem own_d2_156 : decode prog_87_method_32_code 156 = .ok (.l2i, 1) := by decide +kernel
theorem own_d2_157 : decode prog_87_method_32_code 157 = .ok (.istore 14, 2) := by decide +kernel
theorem own_d2_159 : decode prog_87_method_32_code 159 = .ok (.aload 6, 2) := by decide +kernel
theorem own_d2_161 : decode prog_87_method_32_code 161 = .ok (.iinc 10 (-1), 3) := by decide +kernel
theorem own_d2_164 : decode prog_87_method_32_code 164 = .ok (.iload 10, 2) := by decide +kernel
theorem own_d2_166 : decode prog_87_method_32_code 166 = .ok (.bipush 48, 2) := by decide +kernel
theorem own_d2_168 : decode prog_87_method_32_code 168 = .ok (.iload 14, 2) := by decide +kernel
theorem own_d2_170 : decode prog_87_method_32_code 170 = .ok (.bipush 10, 2) := by decide +kernel
theorem own_d2_172 : decode prog_87_method_32_code 172 = .ok (.irem, 1) := by decide +kernel
theorem own_d2_173 : decode prog_87_method_32_code 173 = .ok (.iadd, 1) := by decide +kernel
theorem own_d2_174 : decode prog_87_method_32_code 174 = .ok (.i2b, 1) := by decide +kernel
theorem own_d2_175 : decode prog_87_method_32_code 175 = .ok (.bastore, 1) := by decide +kernel
theorem own_d2_176 : decode prog_87_method_32_code 176 = .ok (.iload 14, 2) := by decide +kernel
theorem own_d2_178 : decode prog_87_method_32_code 178 = .ok (.bipush 10, 2) := by decide +kernel
theorem own_d2_180 : decode prog_87_method_32_code 180 = .ok (.idiv, 1) := by decide +kernel
theorem own_d2_181 : decode prog_87_method_32_code 181 = .ok (.istore 14, 2) := by decide +kernel
theorem own_d2_183 : decode prog_87_method_32_code 183 = .ok (.iload 14, 2) := by decide +kernel
theorem own_d2_185 : decode prog_87_method_32_code 185 = .ok (.ifCond .gt (-26), 3) := by decide +kernel
theorem own_d2_188 : decode prog_87_method_32_code 188 = .ok (.iload_n 0, 1) := by decide +kernel
theorem own_d2_189 : decode prog_87_method_32_code 189 = .ok (.ifCond .eq 13, 3) := by decide +kernel
theorem own_d2_192 : decode prog_87_method_32_code 192 = .ok (.aload 6, 2) := by decide +kernel
theorem own_d2_194 : decode prog_87_method_32_code 194 = .ok (.iinc 10 (-1), 3) := by decide +kernel
theorem own_d2_197 : decode prog_87_method_32_code 197 = .ok (.iload 10, 2) := by decide +kernel
theorem own_d2_199 : decode prog_87_method_32_code 199 = .ok (.bipush 45, 2) := by decide +kernel
theorem own_d2_201 : decode prog_87_method_32_code 201 = .ok (.bastore, 1) := by decide +kernel
theorem own_d2_202 : decode prog_87_method_32_code 202 = .ok (.iload 9, 2) := by decide +kernel
theorem own_d2_204 : decode prog_87_method_32_code 204 = .ok (.ireturn, 1) := by decide +kernel
theorem own_pn0 : plainName "com/example/coverfold/coverfold/Rational" = true := by first | (simp [plainName, overriddenIn]; done) | decide +kernel
theorem own_efpf (m : MethodId) (neg : Int32) (un : Int64) (dg : Int64) (dec : Int32) (a : Nat) (at_ : Int32) : entryFrame m #[(.int neg), (.long un), (.long dg), (.int dec), (.ref a), (.int at_)] 15 = mkF m 0 #[iv neg, own_lv un, .second, own_lv dg, .second, iv dec, rv a, iv at_, .unset, .unset, .unset, .unset, .unset, .unset, .unset] [] := by first | (simp [entryFrame, mkF, argsToLocals, Value.category]; done) | rfl
set_option maxRecDepth 65536 in
set_option maxHeartbeats 40000000 in
theorem own_rmpf (l : Launch) (Z : State) (a0 : Array Value) (hw : ∀ d ∈ tables_1, d.before a0 Z = true) (neg : Int32) (un : Int64) (dg : Int64) (dec : Int32) (a : Nat) (at_ : Int32) (f : Nat → Int32) (len ka ks kd U D : Nat) (h0 : Heap) (n0 : Nat) (Z0 : n0 ≤ h0.size) (A : own_AI Z h0 a .byte len f) (g_a : n0 ≤ a) (hneg : (neg = 0 ∧ ks = 0) ∨ (neg = 1 ∧ ks = 1)) (hU : un.toInt = (U : Int)) (hD : dg.toInt = (D : Int)) (hdec : dec.toInt = (kd : Int)) (hat : at_.toInt = (ka : Int)) (hD9 : D < 2147483648) (hlen : ka + ks + own_nd U + 1 + kd ≤ len) (hlen9 : len < 900) :
    own_Ct l Z (⟨"com/example/coverfold/coverfold/Rational", "putFixed", "(ZJJI[BI)I"⟩ : MethodName) prog_87_method_32_code 15 (some .int) ({ frames := 0, cells := 0, slots := 0, locals := 0 } : Room) #[(.int neg), (.long un), (.long dg), (.int dec), (.ref a), (.int at_)] h0 (fun v h L => (∃ z : Int32, v = some (.int z) ∧ z.toInt = ((ka + ks + own_nd U + 1 + kd : Nat) : Int)) ∧ Fr n0 L ∧ Keep h0 h [a] ∧ own_AI Z h a .byte len (own_put f (decide (ks = 1)) ka U D kd)) := by
  refine own_body (y := (⟨"com/example/coverfold/coverfold/Rational", "putFixed", "(ZJJI[BI)I"⟩ : MethodName)) (Q := fun v h L => (∃ z : Int32, v = some (.int z) ∧ z.toInt = ((ka + ks + own_nd U + 1 + kd : Nat) : Int)) ∧ Fr n0 L ∧ Keep h0 h [a] ∧ own_AI Z h a .byte len (own_put f (decide (ks = 1)) ka U D kd)) (plainFor_of_name own_pn0) ?_
  intro p e s m below meth c s₁ Bd hml0 hZ e0
  have hx := Bd.exec
  have hby := Bd.bytes
  have hml : c.maxLocals = 15 := hml0
  have hown : s.vm.findClass "com/example/coverfold/coverfold/Rational" = some m.cls := findClass_of_methodNamed Bd.named
  have hnm := (name_of_methodNamed Bd.named Bd.method).1
  have X0 : Stand p l e ({ frames := 0, cells := 0, slots := 0, locals := 0 } : Room) s m #[(.int neg), (.long un), (.long dg), (.int dec), (.ref a), (.int at_)] below meth c s₁ [] 0 0 := Stand.of_body Bd
  have N0 := Fr.nil n0
  rw [own_efpf]
  have hU19 : U < 10000000000000000000 := by have := rng64 un; omega
  have A : own_AI Z h0 a .byte len f := A
  have K0 : Keep h0 h0 [a] := Keep.refl _ _
  obtain ⟨q0, hq0⟩ : ∃ z : Int64, z = (un / (10 : Int64)) := ⟨_, rfl⟩
  have sg1 : own_V p e below s₁ (mkF m 10 #[iv neg, own_lv un, .second, own_lv dg, .second, iv dec, rv a, iv at_, iv (1 : Int32), own_lv q0, .second, .unset, .unset, .unset, .unset] []) (mkF m 0 #[iv neg, own_lv un, .second, own_lv dg, .second, iv dec, rv a, iv at_, .unset, .unset, .unset, .unset, .unset, .unset, .unset] []) := by
    intro t kt
    refine XS.iconst X0.here hx rfl (hb hby own_d2_0) ?_
    show own_S p e below s₁ m 1 #[iv neg, own_lv un, .second, own_lv dg, .second, iv dec, rv a, iv at_, .unset, .unset, .unset, .unset, .unset, .unset, .unset] [(.int (1 : Int32))] _
    refine XS.istore X0.here hx rfl (hb hby own_d2_1) rfl (l' := #[iv neg, own_lv un, .second, own_lv dg, .second, iv dec, rv a, iv at_, iv (1 : Int32), .unset, .unset, .unset, .unset, .unset, .unset]) rfl ?_
    show own_S p e below s₁ m 3 #[iv neg, own_lv un, .second, own_lv dg, .second, iv dec, rv a, iv at_, iv (1 : Int32), .unset, .unset, .unset, .unset, .unset, .unset] [] _
    refine XS.lloadN X0.here hx rfl (hb hby own_d2_3) rfl ?_
    show own_S p e below s₁ m 4 #[iv neg, own_lv un, .second, own_lv dg, .second, iv dec, rv a, iv at_, iv (1 : Int32), .unset, .unset, .unset, .unset, .unset, .unset] [(.long un)] _
    refine X0.ldc2Long hx hown (mvT hZ (hw _ (List.mem_of_getElem? (i := 30) rfl))) (g := (mkF m 4 #[iv neg, own_lv un, .second, own_lv dg, .second, iv dec, rv a, iv at_, iv (1 : Int32), .unset, .unset, .unset, .unset, .unset, .unset] [(.long un)])) rfl (hb hby own_d2_4) _ ?_
    show own_S p e below s₁ m 7 #[iv neg, own_lv un, .second, own_lv dg, .second, iv dec, rv a, iv at_, iv (1 : Int32), .unset, .unset, .unset, .unset, .unset, .unset] [(.long (10 : Int64)), (.long un)] _
    refine XS.ldiv X0.here hx rfl (hb hby own_d2_7) rfl (by decide) ?_
    show own_S p e below s₁ m 8 #[iv neg, own_lv un, .second, own_lv dg, .second, iv dec, rv a, iv at_, iv (1 : Int32), .unset, .unset, .unset, .unset, .unset, .unset] [(.long (un / (10 : Int64)))] _
    refine XS.lstore X0.here hx rfl (hb hby own_d2_8) rfl (l' := #[iv neg, own_lv un, .second, own_lv dg, .second, iv dec, rv a, iv at_, iv (1 : Int32), own_lv (un / (10 : Int64)), .second, .unset, .unset, .unset, .unset]) rfl ?_
    show own_S p e below s₁ m 10 #[iv neg, own_lv un, .second, own_lv dg, .second, iv dec, rv a, iv at_, iv (1 : Int32), own_lv (un / (10 : Int64)), .second, .unset, .unset, .unset, .unset] [] _
    rw [hq0] at kt
    exact kt
  refine own_st sg1 ?_
  have loop1 : ∀ (N : Nat) (q : Int64) (cnt : Int32) (kc : Nat), q.toInt = (N : Int) → cnt.toInt = (kc : Int) → kc + own_nd0 N < 900 → own_Pk p e below (fun T' f' => ∃ (q' : Int64) (cnt' : Int32), f' = (mkF m 31 #[iv neg, own_lv un, .second, own_lv dg, .second, iv dec, rv a, iv at_, iv cnt', own_lv q', .second, .unset, .unset, .unset, .unset] []) ∧ s₁ = T' ∧ cnt'.toInt = ((kc + own_nd0 N : Nat) : Int)) s₁ (mkF m 10 #[iv neg, own_lv un, .second, own_lv dg, .second, iv dec, rv a, iv at_, iv cnt, own_lv q, .second, .unset, .unset, .unset, .unset] []) := by
    intro N
    induction N using Nat.strongRecOn with
    | ind N ih =>
      intro q cnt kc hq hcnt hb9
      have sg2 : own_V p e below s₁ (mkF m 14 #[iv neg, own_lv un, .second, own_lv dg, .second, iv dec, rv a, iv at_, iv cnt, own_lv q, .second, .unset, .unset, .unset, .unset] [(.int (lcmpW q (0 : Int64)))]) (mkF m 10 #[iv neg, own_lv un, .second, own_lv dg, .second, iv dec, rv a, iv at_, iv cnt, own_lv q, .second, .unset, .unset, .unset, .unset] []) := by
        intro t kt
        refine XS.lload X0.here hx rfl (hb hby own_d2_10) rfl ?_
        show own_S p e below s₁ m 12 #[iv neg, own_lv un, .second, own_lv dg, .second, iv dec, rv a, iv at_, iv cnt, own_lv q, .second, .unset, .unset, .unset, .unset] [(.long q)] _
        refine XS.lconst X0.here hx rfl (hb hby own_d2_12) ?_
        show own_S p e below s₁ m 13 #[iv neg, own_lv un, .second, own_lv dg, .second, iv dec, rv a, iv at_, iv cnt, own_lv q, .second, .unset, .unset, .unset, .unset] [(.long (0 : Int64)), (.long q)] _
        refine XS.lcmp X0.here hx rfl (hb hby own_d2_13) rfl ?_
        show own_S p e below s₁ m 14 #[iv neg, own_lv un, .second, own_lv dg, .second, iv dec, rv a, iv at_, iv cnt, own_lv q, .second, .unset, .unset, .unset, .unset] [(.int (lcmpW q (0 : Int64)))] _
        exact kt
      refine own_sp sg2 ?_
      by_cases hc3 : (0 : Int64) < q
      · skip
        have sg4 : own_V p e below s₁ (mkF m 17 #[iv neg, own_lv un, .second, own_lv dg, .second, iv dec, rv a, iv at_, iv cnt, own_lv q, .second, .unset, .unset, .unset, .unset] []) (mkF m 14 #[iv neg, own_lv un, .second, own_lv dg, .second, iv dec, rv a, iv at_, iv cnt, own_lv q, .second, .unset, .unset, .unset, .unset] [(.int (lcmpW q (0 : Int64)))]) := by
          intro t kt
          refine XS.ifNo X0.here hx rfl (hb hby own_d2_14) rfl (own_tgtL hc3).2 ?_
          exact kt
        refine own_sp sg4 ?_
        have hN : N ≠ 0 := by
          have e0 : (0 : Int64).toInt = 0 := by decide
          have z := hc3
          rw [Int64.lt_iff_toInt_lt, e0] at z; omega
        have hnd := own_nd0_pos N hN
        have sg5 : own_V p e below s₁ (mkF m 10 #[iv neg, own_lv un, .second, own_lv dg, .second, iv dec, rv a, iv at_, iv (cnt + (1 : Int32)), own_lv (q / (10 : Int64)), .second, .unset, .unset, .unset, .unset] []) (mkF m 17 #[iv neg, own_lv un, .second, own_lv dg, .second, iv dec, rv a, iv at_, iv cnt, own_lv q, .second, .unset, .unset, .unset, .unset] []) := by
          intro t kt
          refine XS.iinc X0.here hx rfl (hb hby own_d2_17) rfl (l' := #[iv neg, own_lv un, .second, own_lv dg, .second, iv dec, rv a, iv at_, iv (cnt + (1 : Int32)), own_lv q, .second, .unset, .unset, .unset, .unset]) rfl ?_
          show own_S p e below s₁ m 20 #[iv neg, own_lv un, .second, own_lv dg, .second, iv dec, rv a, iv at_, iv (cnt + (1 : Int32)), own_lv q, .second, .unset, .unset, .unset, .unset] [] _
          refine XS.lload X0.here hx rfl (hb hby own_d2_20) rfl ?_
          show own_S p e below s₁ m 22 #[iv neg, own_lv un, .second, own_lv dg, .second, iv dec, rv a, iv at_, iv (cnt + (1 : Int32)), own_lv q, .second, .unset, .unset, .unset, .unset] [(.long q)] _
          refine X0.ldc2Long hx hown (mvT hZ (hw _ (List.mem_of_getElem? (i := 30) rfl))) (g := (mkF m 22 #[iv neg, own_lv un, .second, own_lv dg, .second, iv dec, rv a, iv at_, iv (cnt + (1 : Int32)), own_lv q, .second, .unset, .unset, .unset, .unset] [(.long q)])) rfl (hb hby own_d2_22) _ ?_
          show own_S p e below s₁ m 25 #[iv neg, own_lv un, .second, own_lv dg, .second, iv dec, rv a, iv at_, iv (cnt + (1 : Int32)), own_lv q, .second, .unset, .unset, .unset, .unset] [(.long (10 : Int64)), (.long q)] _
          refine XS.ldiv X0.here hx rfl (hb hby own_d2_25) rfl (by decide) ?_
          show own_S p e below s₁ m 26 #[iv neg, own_lv un, .second, own_lv dg, .second, iv dec, rv a, iv at_, iv (cnt + (1 : Int32)), own_lv q, .second, .unset, .unset, .unset, .unset] [(.long (q / (10 : Int64)))] _
          refine XS.lstore X0.here hx rfl (hb hby own_d2_26) rfl (l' := #[iv neg, own_lv un, .second, own_lv dg, .second, iv dec, rv a, iv at_, iv (cnt + (1 : Int32)), own_lv (q / (10 : Int64)), .second, .unset, .unset, .unset, .unset]) rfl ?_
          show own_S p e below s₁ m 28 #[iv neg, own_lv un, .second, own_lv dg, .second, iv dec, rv a, iv at_, iv (cnt + (1 : Int32)), own_lv (q / (10 : Int64)), .second, .unset, .unset, .unset, .unset] [] _
          refine XS.goto X0.here hx rfl (pc0 := 28) (pc' := 10) rfl (hb hby own_d2_28) (by decide) (by decide) ?_
          show own_S p e below s₁ m 10 #[iv neg, own_lv un, .second, own_lv dg, .second, iv dec, rv a, iv at_, iv (cnt + (1 : Int32)), own_lv (q / (10 : Int64)), .second, .unset, .unset, .unset, .unset] [] _
          exact kt
        refine own_sp sg5 ?_
        exact own_pm (ih (N / 10) (by omega) (q / (10 : Int64)) (cnt + (1 : Int32)) (kc + 1) (own_ldiv10 q N hq) (own_inc1 cnt kc hcnt (by omega)) (by omega)) (fun T' f' z => by obtain ⟨q', cnt', z1, z2, z3⟩ := z; exact ⟨q', cnt', z1, z2, by rw [z3, hnd]; congr 1; omega⟩)
      have sg6 : own_V p e below s₁ (mkF m 31 #[iv neg, own_lv un, .second, own_lv dg, .second, iv dec, rv a, iv at_, iv cnt, own_lv q, .second, .unset, .unset, .unset, .unset] []) (mkF m 14 #[iv neg, own_lv un, .second, own_lv dg, .second, iv dec, rv a, iv at_, iv cnt, own_lv q, .second, .unset, .unset, .unset, .unset] [(.int (lcmpW q (0 : Int64)))]) := by
        intro t kt
        refine XS.ifYes X0.here hx rfl (pc0 := 14) (pc' := 31) rfl (hb hby own_d2_14) rfl (own_fgtL hc3).2 (by decide) (by decide) ?_
        exact kt
      refine own_sp sg6 ?_
      have hN : N = 0 := by
        have e0 : (0 : Int64).toInt = 0 := by decide
        have z := hc3
        rw [Int64.lt_iff_toInt_lt, e0] at z; omega
      exact ⟨s₁, _, ⟨q, cnt, rfl, rfl, by rw [hN, own_nd0_zero]; exact hcnt⟩, fun t k => k⟩
  have hq0' : q0.toInt = ((U / 10 : Nat) : Int) := by rw [hq0]; exact own_ldiv10 un U hU
  have hn0 := own_nd0_le U hU19
  obtain ⟨_, _, ⟨q1, cnt, rfl, rfl, hcnt⟩, st1⟩ := loop1 (U / 10) q0 (1 : Int32) 1 hq0' (by decide) (by omega)
  refine own_st st1 ?_
  show own_Go p e below _ s₁ (mkF m 31 #[iv neg, own_lv un, .second, own_lv dg, .second, iv dec, rv a, iv at_, iv cnt, own_lv q1, .second, .unset, .unset, .unset, .unset] [])
  have hcnt' : cnt.toInt = ((own_nd U : Nat) : Int) := by rw [hcnt]; unfold own_nd; congr 1; omega
  obtain ⟨sg, hsg⟩ : ∃ z : Int32, z = (if neg = (0 : Int32) then (0 : Int32) else (1 : Int32)) := ⟨_, rfl⟩
  have sg8 : own_V p e below s₁ (mkF m 42 #[iv neg, own_lv un, .second, own_lv dg, .second, iv dec, rv a, iv at_, iv cnt, own_lv q1, .second, .unset, .unset, .unset, .unset] [(.int sg), (.int at_)]) (mkF m 31 #[iv neg, own_lv un, .second, own_lv dg, .second, iv dec, rv a, iv at_, iv cnt, own_lv q1, .second, .unset, .unset, .unset, .unset] []) := by
    intro t kt
    refine XS.iload X0.here hx rfl (hb hby own_d2_31) rfl ?_
    show own_S p e below s₁ m 33 #[iv neg, own_lv un, .second, own_lv dg, .second, iv dec, rv a, iv at_, iv cnt, own_lv q1, .second, .unset, .unset, .unset, .unset] [(.int at_)] _
    refine XS.iloadN X0.here hx rfl (hb hby own_d2_33) rfl ?_
    show own_S p e below s₁ m 34 #[iv neg, own_lv un, .second, own_lv dg, .second, iv dec, rv a, iv at_, iv cnt, own_lv q1, .second, .unset, .unset, .unset, .unset] [(.int neg), (.int at_)] _
    by_cases hc7 : neg = (0 : Int32)
    · refine XS.ifYes X0.here hx rfl (pc0 := 34) (pc' := 41) rfl (hb hby own_d2_34) rfl ((if0 _ _).trans (teq hc7).1) (by decide) (by decide) ?_
      show own_S p e below s₁ m 41 #[iv neg, own_lv un, .second, own_lv dg, .second, iv dec, rv a, iv at_, iv cnt, own_lv q1, .second, .unset, .unset, .unset, .unset] [(.int at_)] _
      refine XS.iconst X0.here hx rfl (hb hby own_d2_41) ?_
      show own_S p e below s₁ m 42 #[iv neg, own_lv un, .second, own_lv dg, .second, iv dec, rv a, iv at_, iv cnt, own_lv q1, .second, .unset, .unset, .unset, .unset] [(.int (0 : Int32)), (.int at_)] _
      rw [show sg = (0 : Int32) from by rw [hsg, if_pos hc7]] at kt
      exact kt
    · refine XS.ifNo X0.here hx rfl (hb hby own_d2_34) rfl ((if0 _ _).trans (feq hc7).1) ?_
      show own_S p e below s₁ m 37 #[iv neg, own_lv un, .second, own_lv dg, .second, iv dec, rv a, iv at_, iv cnt, own_lv q1, .second, .unset, .unset, .unset, .unset] [(.int at_)] _
      refine XS.iconst X0.here hx rfl (hb hby own_d2_37) ?_
      show own_S p e below s₁ m 38 #[iv neg, own_lv un, .second, own_lv dg, .second, iv dec, rv a, iv at_, iv cnt, own_lv q1, .second, .unset, .unset, .unset, .unset] [(.int (1 : Int32)), (.int at_)] _
      refine XS.goto X0.here hx rfl (pc0 := 38) (pc' := 42) rfl (hb hby own_d2_38) (by decide) (by decide) ?_
      show own_S p e below s₁ m 42 #[iv neg, own_lv un, .second, own_lv dg, .second, iv dec, rv a, iv at_, iv cnt, own_lv q1, .second, .unset, .unset, .unset, .unset] [(.int (1 : Int32)), (.int at_)] _
      rw [show sg = (1 : Int32) from by rw [hsg, if_neg hc7]] at kt
      exact kt
  refine own_st sg8 ?_
  have hsg' : sg.toInt = (ks : Int) := by
    rcases hneg with ⟨z1, z2⟩ | ⟨z1, z2⟩
    · rw [hsg, if_pos z1, z2]; decide
    · rw [hsg, if_neg (by rw [z1]; decide), z2]; decide
  have hks1 : ks ≤ 1 := by rcases hneg with ⟨-, z2⟩ | ⟨-, z2⟩ <;> omega
  obtain ⟨en, hen⟩ : ∃ z : Int32, z = ((((at_ + sg) + cnt) + (1 : Int32)) + dec) := ⟨_, rfl⟩
  have sg9 : own_V p e below s₁ (mkF m 53 #[iv neg, own_lv un, .second, own_lv dg, .second, iv dec, rv a, iv at_, iv cnt, iv en, .unset, .unset, .unset, .unset, .unset] []) (mkF m 42 #[iv neg, own_lv un, .second, own_lv dg, .second, iv dec, rv a, iv at_, iv cnt, own_lv q1, .second, .unset, .unset, .unset, .unset] [(.int sg), (.int at_)]) := by
    intro t kt
    refine XS.iadd X0.here hx rfl (hb hby own_d2_42) rfl ?_
    show own_S p e below s₁ m 43 #[iv neg, own_lv un, .second, own_lv dg, .second, iv dec, rv a, iv at_, iv cnt, own_lv q1, .second, .unset, .unset, .unset, .unset] [(.int (at_ + sg))] _
    refine XS.iload X0.here hx rfl (hb hby own_d2_43) rfl ?_
    show own_S p e below s₁ m 45 #[iv neg, own_lv un, .second, own_lv dg, .second, iv dec, rv a, iv at_, iv cnt, own_lv q1, .second, .unset, .unset, .unset, .unset] [(.int cnt), (.int (at_ + sg))] _
    refine XS.iadd X0.here hx rfl (hb hby own_d2_45) rfl ?_
    show own_S p e below s₁ m 46 #[iv neg, own_lv un, .second, own_lv dg, .second, iv dec, rv a, iv at_, iv cnt, own_lv q1, .second, .unset, .unset, .unset, .unset] [(.int ((at_ + sg) + cnt))] _
    refine XS.iconst X0.here hx rfl (hb hby own_d2_46) ?_
    show own_S p e below s₁ m 47 #[iv neg, own_lv un, .second, own_lv dg, .second, iv dec, rv a, iv at_, iv cnt, own_lv q1, .second, .unset, .unset, .unset, .unset] [(.int (1 : Int32)), (.int ((at_ + sg) + cnt))] _
    refine XS.iadd X0.here hx rfl (hb hby own_d2_47) rfl ?_
    show own_S p e below s₁ m 48 #[iv neg, own_lv un, .second, own_lv dg, .second, iv dec, rv a, iv at_, iv cnt, own_lv q1, .second, .unset, .unset, .unset, .unset] [(.int (((at_ + sg) + cnt) + (1 : Int32)))] _
    refine XS.iload X0.here hx rfl (hb hby own_d2_48) rfl ?_
    show own_S p e below s₁ m 50 #[iv neg, own_lv un, .second, own_lv dg, .second, iv dec, rv a, iv at_, iv cnt, own_lv q1, .second, .unset, .unset, .unset, .unset] [(.int dec), (.int (((at_ + sg) + cnt) + (1 : Int32)))] _
    refine XS.iadd X0.here hx rfl (hb hby own_d2_50) rfl ?_
    show own_S p e below s₁ m 51 #[iv neg, own_lv un, .second, own_lv dg, .second, iv dec, rv a, iv at_, iv cnt, own_lv q1, .second, .unset, .unset, .unset, .unset] [(.int ((((at_ + sg) + cnt) + (1 : Int32)) + dec))] _
    refine XS.istore X0.here hx rfl (hb hby own_d2_51) rfl (l' := #[iv neg, own_lv un, .second, own_lv dg, .second, iv dec, rv a, iv at_, iv cnt, iv ((((at_ + sg) + cnt) + (1 : Int32)) + dec), .unset, .unset, .unset, .unset, .unset]) rfl ?_
    show own_S p e below s₁ m 53 #[iv neg, own_lv un, .second, own_lv dg, .second, iv dec, rv a, iv at_, iv cnt, iv ((((at_ + sg) + cnt) + (1 : Int32)) + dec), .unset, .unset, .unset, .unset, .unset] [] _
    rw [hen] at kt
    exact kt
  refine own_st sg9 ?_
  have sg10 : own_V p e below s₁ (mkF m 64 #[iv neg, own_lv un, .second, own_lv dg, .second, iv dec, rv a, iv at_, iv cnt, iv en, iv en, iv dg.toInt32, iv (0 : Int32), .unset, .unset] []) (mkF m 53 #[iv neg, own_lv un, .second, own_lv dg, .second, iv dec, rv a, iv at_, iv cnt, iv en, .unset, .unset, .unset, .unset, .unset] []) := by
    intro t kt
    refine XS.iload X0.here hx rfl (hb hby own_d2_53) rfl ?_
    show own_S p e below s₁ m 55 #[iv neg, own_lv un, .second, own_lv dg, .second, iv dec, rv a, iv at_, iv cnt, iv en, .unset, .unset, .unset, .unset, .unset] [(.int en)] _
    refine XS.istore X0.here hx rfl (hb hby own_d2_55) rfl (l' := #[iv neg, own_lv un, .second, own_lv dg, .second, iv dec, rv a, iv at_, iv cnt, iv en, iv en, .unset, .unset, .unset, .unset]) rfl ?_
    show own_S p e below s₁ m 57 #[iv neg, own_lv un, .second, own_lv dg, .second, iv dec, rv a, iv at_, iv cnt, iv en, iv en, .unset, .unset, .unset, .unset] [] _
    refine XS.lloadN X0.here hx rfl (hb hby own_d2_57) rfl ?_
    show own_S p e below s₁ m 58 #[iv neg, own_lv un, .second, own_lv dg, .second, iv dec, rv a, iv at_, iv cnt, iv en, iv en, .unset, .unset, .unset, .unset] [(.long dg)] _
    refine XS.l2i X0.here hx rfl (hb hby own_d2_58) rfl ?_
    show own_S p e below s₁ m 59 #[iv neg, own_lv un, .second, own_lv dg, .second, iv dec, rv a, iv at_, iv cnt, iv en, iv en, .unset, .unset, .unset, .unset] [(.int dg.toInt32)] _
    refine XS.istore X0.here hx rfl (hb hby own_d2_59) rfl (l' := #[iv neg, own_lv un, .second, own_lv dg, .second, iv dec, rv a, iv at_, iv cnt, iv en, iv en, iv dg.toInt32, .unset, .unset, .unset]) rfl ?_
    show own_S p e below s₁ m 61 #[iv neg, own_lv un, .second, own_lv dg, .second, iv dec, rv a, iv at_, iv cnt, iv en, iv en, iv dg.toInt32, .unset, .unset, .unset] [] _
    refine XS.iconst X0.here hx rfl (hb hby own_d2_61) ?_
    show own_S p e below s₁ m 62 #[iv neg, own_lv un, .second, own_lv dg, .second, iv dec, rv a, iv at_, iv cnt, iv en, iv en, iv dg.toInt32, .unset, .unset, .unset] [(.int (0 : Int32))] _
    refine XS.istore X0.here hx rfl (hb hby own_d2_62) rfl (l' := #[iv neg, own_lv un, .second, own_lv dg, .second, iv dec, rv a, iv at_, iv cnt, iv en, iv en, iv dg.toInt32, iv (0 : Int32), .unset, .unset]) rfl ?_
    show own_S p e below s₁ m 64 #[iv neg, own_lv un, .second, own_lv dg, .second, iv dec, rv a, iv at_, iv cnt, iv en, iv en, iv dg.toInt32, iv (0 : Int32), .unset, .unset] [] _
    exact kt
  refine own_st sg10 ?_
  have hen' : en.toInt = ((ka + ks + own_nd U + 1 + kd : Nat) : Int) := by rw [hen]; exact own_end at_ sg cnt dec ka ks (own_nd U) kd hat hsg' hcnt' hdec (by omega)
  obtain ⟨dot, hdot⟩ : ∃ z : Nat, z = ka + ks + own_nd U := ⟨_, rfl⟩
  rw [← hdot] at hen' hlen
  have hrem : dg.toInt32.toInt = (D : Int) := own_l2i dg D hD hD9
  obtain ⟨rem0, hrem0⟩ : ∃ z : Int32, z = dg.toInt32 := ⟨_, rfl⟩
  rw [← hrem0] at hrem
  rw [← hrem0]
  show own_Go p e below _ s₁ (mkF m 64 #[iv neg, own_lv un, .second, own_lv dg, .second, iv dec, rv a, iv at_, iv cnt, iv en, iv en, iv rem0, iv (0 : Int32), .unset, .unset] [])
  have loop2 : ∀ (r j : Nat) (T1 : State) (h1 : Heap) (l1 : List Loc) (pos rem i : Int32) (X1 : Stand p l e ({ frames := 0, cells := 0, slots := 0, locals := 0 } : Room) s m #[(.int neg), (.long un), (.long dg), (.int dec), (.ref a), (.int at_)] below meth c T1 l1 0 0) (e1 : T1.heap = h1) (N1 : Fr n0 l1) (Z1 : n0 ≤ h1.size) (K1 : Keep h0 h1 [a]) (A1 : own_AI Z h1 a .byte len (own_dig f (dot + 1 + kd) D j)), j + r = kd → i.toInt = (j : Int) → pos.toInt = ((dot + 1 + r : Nat) : Int) → rem.toInt = ((D / 10 ^ j : Nat) : Int) → own_Pk p e below (fun T' f' => ∃ (h' : Heap) (locs' : List Loc) (pos' rem' i' : Int32), f' = (mkF m 101 #[iv neg, own_lv un, .second, own_lv dg, .second, iv dec, rv a, iv at_, iv cnt, iv en, iv pos', iv rem', iv i', .unset, .unset] []) ∧ Stand p l e ({ frames := 0, cells := 0, slots := 0, locals := 0 } : Room) s m #[(.int neg), (.long un), (.long dg), (.int dec), (.ref a), (.int at_)] below meth c T' locs' 0 0 ∧ T'.heap = h' ∧ Fr n0 locs' ∧ n0 ≤ h'.size ∧ Keep h0 h' [a] ∧ own_AI Z h' a .byte len (own_dig f (dot + 1 + kd) D kd) ∧ pos'.toInt = ((dot + 1 : Nat) : Int)) T1 (mkF m 64 #[iv neg, own_lv un, .second, own_lv dg, .second, iv dec, rv a, iv at_, iv cnt, iv en, iv pos, iv rem, iv i, .unset, .unset] []) := by
    intro r
    induction r with
    | zero =>
      intro j T1 h1 l1 pos rem i X1 e1 N1 Z1 K1 A1 hjr hi hpos hrm
      have sg501 : own_V p e below T1 (mkF m 68 #[iv neg, own_lv un, .second, own_lv dg, .second, iv dec, rv a, iv at_, iv cnt, iv en, iv pos, iv rem, iv i, .unset, .unset] [(.int dec), (.int i)]) (mkF m 64 #[iv neg, own_lv un, .second, own_lv dg, .second, iv dec, rv a, iv at_, iv cnt, iv en, iv pos, iv rem, iv i, .unset, .unset] []) := by
        intro t kt
        refine XS.iload X1.here hx rfl (hb hby own_d2_64) rfl ?_
        show own_S p e below T1 m 66 #[iv neg, own_lv un, .second, own_lv dg, .second, iv dec, rv a, iv at_, iv cnt, iv en, iv pos, iv rem, iv i, .unset, .unset] [(.int i)] _
        refine XS.iload X1.here hx rfl (hb hby own_d2_66) rfl ?_
        show own_S p e below T1 m 68 #[iv neg, own_lv un, .second, own_lv dg, .second, iv dec, rv a, iv at_, iv cnt, iv en, iv pos, iv rem, iv i, .unset, .unset] [(.int dec), (.int i)] _
        exact kt
      refine own_sp sg501 ?_
      have hj : j = kd := own_q1 hjr
      have hc502 : ¬ i < dec := fun z => absurd ((own_pflt dec i j kd hi hdec).mp z) (own_q2 hj)
      have sg503 : own_V p e below T1 (mkF m 101 #[iv neg, own_lv un, .second, own_lv dg, .second, iv dec, rv a, iv at_, iv cnt, iv en, iv pos, iv rem, iv i, .unset, .unset] []) (mkF m 68 #[iv neg, own_lv un, .second, own_lv dg, .second, iv dec, rv a, iv at_, iv cnt, iv en, iv pos, iv rem, iv i, .unset, .unset] [(.int dec), (.int i)]) := by
        intro t kt
        refine XS.icmpYes X1.here hx rfl (pc0 := 68) (pc' := 101) rfl (hb hby own_d2_68) rfl (flt hc502).2.1 (by decide) (by decide) ?_
        exact kt
      refine own_sp sg503 ?_
      exact ⟨T1, _, ⟨h1, l1, pos, rem, i, rfl, X1, e1, N1, Z1, K1, by rw [hj] at A1; exact A1, hpos⟩, fun t k => k⟩
    | succ r ih =>
      intro j T1 h1 l1 pos rem i X1 e1 N1 Z1 K1 A1 hjr hi hpos hrm
      have sg504 : own_V p e below T1 (mkF m 68 #[iv neg, own_lv un, .second, own_lv dg, .second, iv dec, rv a, iv at_, iv cnt, iv en, iv pos, iv rem, iv i, .unset, .unset] [(.int dec), (.int i)]) (mkF m 64 #[iv neg, own_lv un, .second, own_lv dg, .second, iv dec, rv a, iv at_, iv cnt, iv en, iv pos, iv rem, iv i, .unset, .unset] []) := by
        intro t kt
        refine XS.iload X1.here hx rfl (hb hby own_d2_64) rfl ?_
        show own_S p e below T1 m 66 #[iv neg, own_lv un, .second, own_lv dg, .second, iv dec, rv a, iv at_, iv cnt, iv en, iv pos, iv rem, iv i, .unset, .unset] [(.int i)] _
        refine XS.iload X1.here hx rfl (hb hby own_d2_66) rfl ?_
        show own_S p e below T1 m 68 #[iv neg, own_lv un, .second, own_lv dg, .second, iv dec, rv a, iv at_, iv cnt, iv en, iv pos, iv rem, iv i, .unset, .unset] [(.int dec), (.int i)] _
        exact kt
      refine own_sp sg504 ?_
      have hc505 : i < dec := (own_pflt dec i j kd hi hdec).mpr (own_q3 hjr)
      have sg506 : own_V p e below T1 (mkF m 71 #[iv neg, own_lv un, .second, own_lv dg, .second, iv dec, rv a, iv at_, iv cnt, iv en, iv pos, iv rem, iv i, .unset, .unset] []) (mkF m 68 #[iv neg, own_lv un, .second, own_lv dg, .second, iv dec, rv a, iv at_, iv cnt, iv en, iv pos, iv rem, iv i, .unset, .unset] [(.int dec), (.int i)]) := by
        intro t kt
        refine XS.icmpNo X1.here hx rfl (hb hby own_d2_68) rfl (tlt hc505).2.1 ?_
        exact kt
      refine own_sp sg506 ?_
      have hp1 := own_dec1 pos (dot + 1 + r) hpos
      have sg507 : own_V p e below T1 (mkF m 87 #[iv neg, own_lv un, .second, own_lv dg, .second, iv dec, rv a, iv at_, iv cnt, iv en, iv (pos + (-1 : Int32)), iv rem, iv i, .unset, .unset] [(.int ((48 : Int32) + (rem % (10 : Int32))).toInt8.toInt32), (.int (pos + (-1 : Int32))), (.ref a)]) (mkF m 71 #[iv neg, own_lv un, .second, own_lv dg, .second, iv dec, rv a, iv at_, iv cnt, iv en, iv pos, iv rem, iv i, .unset, .unset] []) := by
        intro t kt
        refine XS.aload X1.here hx rfl (hb hby own_d2_71) rfl rfl ?_
        show own_S p e below T1 m 73 #[iv neg, own_lv un, .second, own_lv dg, .second, iv dec, rv a, iv at_, iv cnt, iv en, iv pos, iv rem, iv i, .unset, .unset] [(.ref a)] _
        refine XS.iinc X1.here hx rfl (hb hby own_d2_73) rfl (l' := #[iv neg, own_lv un, .second, own_lv dg, .second, iv dec, rv a, iv at_, iv cnt, iv en, iv (pos + (-1 : Int32)), iv rem, iv i, .unset, .unset]) rfl ?_
        show own_S p e below T1 m 76 #[iv neg, own_lv un, .second, own_lv dg, .second, iv dec, rv a, iv at_, iv cnt, iv en, iv (pos + (-1 : Int32)), iv rem, iv i, .unset, .unset] [(.ref a)] _
        refine XS.iload X1.here hx rfl (hb hby own_d2_76) rfl ?_
        show own_S p e below T1 m 78 #[iv neg, own_lv un, .second, own_lv dg, .second, iv dec, rv a, iv at_, iv cnt, iv en, iv (pos + (-1 : Int32)), iv rem, iv i, .unset, .unset] [(.int (pos + (-1 : Int32))), (.ref a)] _
        refine XS.bipush X1.here hx rfl (hb hby own_d2_78) ?_
        show own_S p e below T1 m 80 #[iv neg, own_lv un, .second, own_lv dg, .second, iv dec, rv a, iv at_, iv cnt, iv en, iv (pos + (-1 : Int32)), iv rem, iv i, .unset, .unset] [(.int (48 : Int32)), (.int (pos + (-1 : Int32))), (.ref a)] _
        refine XS.iload X1.here hx rfl (hb hby own_d2_80) rfl ?_
        show own_S p e below T1 m 82 #[iv neg, own_lv un, .second, own_lv dg, .second, iv dec, rv a, iv at_, iv cnt, iv en, iv (pos + (-1 : Int32)), iv rem, iv i, .unset, .unset] [(.int rem), (.int (48 : Int32)), (.int (pos + (-1 : Int32))), (.ref a)] _
        refine XS.bipush X1.here hx rfl (hb hby own_d2_82) ?_
        show own_S p e below T1 m 84 #[iv neg, own_lv un, .second, own_lv dg, .second, iv dec, rv a, iv at_, iv cnt, iv en, iv (pos + (-1 : Int32)), iv rem, iv i, .unset, .unset] [(.int (10 : Int32)), (.int rem), (.int (48 : Int32)), (.int (pos + (-1 : Int32))), (.ref a)] _
        refine own_irem X1.here hx rfl (hb hby own_d2_84) rfl (by decide) ?_
        show own_S p e below T1 m 85 #[iv neg, own_lv un, .second, own_lv dg, .second, iv dec, rv a, iv at_, iv cnt, iv en, iv (pos + (-1 : Int32)), iv rem, iv i, .unset, .unset] [(.int (rem % (10 : Int32))), (.int (48 : Int32)), (.int (pos + (-1 : Int32))), (.ref a)] _
        refine XS.iadd X1.here hx rfl (hb hby own_d2_85) rfl ?_
        show own_S p e below T1 m 86 #[iv neg, own_lv un, .second, own_lv dg, .second, iv dec, rv a, iv at_, iv cnt, iv en, iv (pos + (-1 : Int32)), iv rem, iv i, .unset, .unset] [(.int ((48 : Int32) + (rem % (10 : Int32)))), (.int (pos + (-1 : Int32))), (.ref a)] _
        refine XS.i2b X1.here hx rfl (hb hby own_d2_86) rfl ?_
        show own_S p e below T1 m 87 #[iv neg, own_lv un, .second, own_lv dg, .second, iv dec, rv a, iv at_, iv cnt, iv en, iv (pos + (-1 : Int32)), iv rem, iv i, .unset, .unset] [(.int ((48 : Int32) + (rem % (10 : Int32))).toInt8.toInt32), (.int (pos + (-1 : Int32))), (.ref a)] _
        exact kt
      refine own_sp sg507 ?_
      obtain ⟨T508, h508, X508, e508, W508, A508, st508⟩ := own_wrB X1 hx hZ e1 A1 (k := (dot + 1 + r)) hp1 (own_q4 hlen hjr) (g := (mkF m 87 #[iv neg, own_lv un, .second, own_lv dg, .second, iv dec, rv a, iv at_, iv cnt, iv en, iv (pos + (-1 : Int32)), iv rem, iv i, .unset, .unset] [(.int ((48 : Int32) + (rem % (10 : Int32))).toInt8.toInt32), (.int (pos + (-1 : Int32))), (.ref a)])) rfl rfl (hb hby own_d2_87)
      refine own_sp st508 ?_
      have Z508 : n0 ≤ h508.size := by rw [Wr.size W508]; exact Z1
      have N508 := Fr.snoc X508 N1 g_a
      show own_Pk p e below _ T508 (mkF m 88 #[iv neg, own_lv un, .second, own_lv dg, .second, iv dec, rv a, iv at_, iv cnt, iv en, iv (pos + (-1 : Int32)), iv rem, iv i, .unset, .unset] [])
      have A2 : own_AI Z h508 a .byte len (own_dig f (dot + 1 + kd) D (j + 1)) := A508.congr (fun i _ => own_dig_next f (dot + 1 + kd) D j (dot + 1 + r) _ (own_q5 hjr) (own_digI rem (D / 10 ^ j) hrm) i)
      have K2 : Keep h0 h508 [a] := K1.wr W508 (Or.inl (List.mem_of_getElem? (i := 0) rfl))
      have sg509 : own_V p e below T508 (mkF m 64 #[iv neg, own_lv un, .second, own_lv dg, .second, iv dec, rv a, iv at_, iv cnt, iv en, iv (pos + (-1 : Int32)), iv (rem / (10 : Int32)), iv (i + (1 : Int32)), .unset, .unset] []) (mkF m 88 #[iv neg, own_lv un, .second, own_lv dg, .second, iv dec, rv a, iv at_, iv cnt, iv en, iv (pos + (-1 : Int32)), iv rem, iv i, .unset, .unset] []) := by
        intro t kt
        refine XS.iload X508.here hx rfl (hb hby own_d2_88) rfl ?_
        show own_S p e below T508 m 90 #[iv neg, own_lv un, .second, own_lv dg, .second, iv dec, rv a, iv at_, iv cnt, iv en, iv (pos + (-1 : Int32)), iv rem, iv i, .unset, .unset] [(.int rem)] _
        refine XS.bipush X508.here hx rfl (hb hby own_d2_90) ?_
        show own_S p e below T508 m 92 #[iv neg, own_lv un, .second, own_lv dg, .second, iv dec, rv a, iv at_, iv cnt, iv en, iv (pos + (-1 : Int32)), iv rem, iv i, .unset, .unset] [(.int (10 : Int32)), (.int rem)] _
        refine XS.idiv X508.here hx rfl (hb hby own_d2_92) rfl (by decide) ?_
        show own_S p e below T508 m 93 #[iv neg, own_lv un, .second, own_lv dg, .second, iv dec, rv a, iv at_, iv cnt, iv en, iv (pos + (-1 : Int32)), iv rem, iv i, .unset, .unset] [(.int (rem / (10 : Int32)))] _
        refine XS.istore X508.here hx rfl (hb hby own_d2_93) rfl (l' := #[iv neg, own_lv un, .second, own_lv dg, .second, iv dec, rv a, iv at_, iv cnt, iv en, iv (pos + (-1 : Int32)), iv (rem / (10 : Int32)), iv i, .unset, .unset]) rfl ?_
        show own_S p e below T508 m 95 #[iv neg, own_lv un, .second, own_lv dg, .second, iv dec, rv a, iv at_, iv cnt, iv en, iv (pos + (-1 : Int32)), iv (rem / (10 : Int32)), iv i, .unset, .unset] [] _
        refine XS.iinc X508.here hx rfl (hb hby own_d2_95) rfl (l' := #[iv neg, own_lv un, .second, own_lv dg, .second, iv dec, rv a, iv at_, iv cnt, iv en, iv (pos + (-1 : Int32)), iv (rem / (10 : Int32)), iv (i + (1 : Int32)), .unset, .unset]) rfl ?_
        show own_S p e below T508 m 98 #[iv neg, own_lv un, .second, own_lv dg, .second, iv dec, rv a, iv at_, iv cnt, iv en, iv (pos + (-1 : Int32)), iv (rem / (10 : Int32)), iv (i + (1 : Int32)), .unset, .unset] [] _
        refine XS.goto X508.here hx rfl (pc0 := 98) (pc' := 64) rfl (hb hby own_d2_98) (by decide) (by decide) ?_
        show own_S p e below T508 m 64 #[iv neg, own_lv un, .second, own_lv dg, .second, iv dec, rv a, iv at_, iv cnt, iv en, iv (pos + (-1 : Int32)), iv (rem / (10 : Int32)), iv (i + (1 : Int32)), .unset, .unset] [] _
        exact kt
      refine own_sp sg509 ?_
      exact ih (j + 1) T508 _ _ (pos + (-1 : Int32)) (rem / (10 : Int32)) (i + (1 : Int32)) X508 e508 N508 Z508 K2 A2 (own_q6 hjr) (own_inc1 i j hi (own_q7 hlen hlen9 hjr)) hp1 (by rw [own_divdiv']; exact own_idiv10 rem _ hrm)
  obtain ⟨T2, _, ⟨h2, l2, pos2, rem2, i2, rfl, X2, e2, N2, Z2, K2, A2, hpos2⟩, st2⟩ := loop2 kd 0 s₁ h0 _ en rem0 (0 : Int32) X0 e0 N0 Z0 K0 (A.congr (fun i _ => (own_dig0 f (dot + 1 + kd) D i).symm)) (Nat.zero_add kd) (by decide) hen' (by rw [Nat.pow_zero, Nat.div_one]; exact hrem)
  refine own_st st2 ?_
  show own_Go p e below _ T2 (mkF m 101 #[iv neg, own_lv un, .second, own_lv dg, .second, iv dec, rv a, iv at_, iv cnt, iv en, iv pos2, iv rem2, iv i2, .unset, .unset] [])
  have hp2 := own_dec1 pos2 dot hpos2
  have sg701 : own_V p e below T2 (mkF m 110 #[iv neg, own_lv un, .second, own_lv dg, .second, iv dec, rv a, iv at_, iv cnt, iv en, iv (pos2 + (-1 : Int32)), iv rem2, iv i2, .unset, .unset] [(.int (46 : Int32)), (.int (pos2 + (-1 : Int32))), (.ref a)]) (mkF m 101 #[iv neg, own_lv un, .second, own_lv dg, .second, iv dec, rv a, iv at_, iv cnt, iv en, iv pos2, iv rem2, iv i2, .unset, .unset] []) := by
    intro t kt
    refine XS.aload X2.here hx rfl (hb hby own_d2_101) rfl rfl ?_
    show own_S p e below T2 m 103 #[iv neg, own_lv un, .second, own_lv dg, .second, iv dec, rv a, iv at_, iv cnt, iv en, iv pos2, iv rem2, iv i2, .unset, .unset] [(.ref a)] _
    refine XS.iinc X2.here hx rfl (hb hby own_d2_103) rfl (l' := #[iv neg, own_lv un, .second, own_lv dg, .second, iv dec, rv a, iv at_, iv cnt, iv en, iv (pos2 + (-1 : Int32)), iv rem2, iv i2, .unset, .unset]) rfl ?_
    show own_S p e below T2 m 106 #[iv neg, own_lv un, .second, own_lv dg, .second, iv dec, rv a, iv at_, iv cnt, iv en, iv (pos2 + (-1 : Int32)), iv rem2, iv i2, .unset, .unset] [(.ref a)] _
    refine XS.iload X2.here hx rfl (hb hby own_d2_106) rfl ?_
    show own_S p e below T2 m 108 #[iv neg, own_lv un, .second, own_lv dg, .second, iv dec, rv a, iv at_, iv cnt, iv en, iv (pos2 + (-1 : Int32)), iv rem2, iv i2, .unset, .unset] [(.int (pos2 + (-1 : Int32))), (.ref a)] _
    refine XS.bipush X2.here hx rfl (hb hby own_d2_108) ?_
    show own_S p e below T2 m 110 #[iv neg, own_lv un, .second, own_lv dg, .second, iv dec, rv a, iv at_, iv cnt, iv en, iv (pos2 + (-1 : Int32)), iv rem2, iv i2, .unset, .unset] [(.int (46 : Int32)), (.int (pos2 + (-1 : Int32))), (.ref a)] _
    exact kt
  refine own_st sg701 ?_
  obtain ⟨T702, h702, X702, e702, W702, A702, st702⟩ := own_wrB X2 hx hZ e2 A2 (k := dot) hp2 (own_q8 hlen) (g := (mkF m 110 #[iv neg, own_lv un, .second, own_lv dg, .second, iv dec, rv a, iv at_, iv cnt, iv en, iv (pos2 + (-1 : Int32)), iv rem2, iv i2, .unset, .unset] [(.int (46 : Int32)), (.int (pos2 + (-1 : Int32))), (.ref a)])) rfl rfl (hb hby own_d2_110)
  refine own_st st702 ?_
  have Z702 : n0 ≤ h702.size := by rw [Wr.size W702]; exact Z2
  have N702 := Fr.snoc X702 N2 g_a
  show own_Go p e below _ T702 (mkF m 111 #[iv neg, own_lv un, .second, own_lv dg, .second, iv dec, rv a, iv at_, iv cnt, iv en, iv (pos2 + (-1 : Int32)), iv rem2, iv i2, .unset, .unset] [])
  have K3 : Keep h0 h702 [a] := K2.wr W702 (Or.inl (List.mem_of_getElem? (i := 0) rfl))
  obtain ⟨g, hg⟩ : ∃ z : Nat → Int32, z = own_upd (own_dig f (dot + 1 + kd) D kd) dot 46 := ⟨_, rfl⟩
  have A3 : own_AI Z h702 a .byte len g := by rw [hg]; exact A702
  have sg703 : own_V p e below T702 (mkF m 114 #[iv neg, own_lv un, .second, own_lv dg, .second, iv dec, rv a, iv at_, iv cnt, iv en, iv (pos2 + (-1 : Int32)), iv rem2, own_lv un, .second, .unset] []) (mkF m 111 #[iv neg, own_lv un, .second, own_lv dg, .second, iv dec, rv a, iv at_, iv cnt, iv en, iv (pos2 + (-1 : Int32)), iv rem2, iv i2, .unset, .unset] []) := by
    intro t kt
    refine XS.lloadN X702.here hx rfl (hb hby own_d2_111) rfl ?_
    show own_S p e below T702 m 112 #[iv neg, own_lv un, .second, own_lv dg, .second, iv dec, rv a, iv at_, iv cnt, iv en, iv (pos2 + (-1 : Int32)), iv rem2, iv i2, .unset, .unset] [(.long un)] _
    refine XS.lstore X702.here hx rfl (hb hby own_d2_112) rfl (l' := #[iv neg, own_lv un, .second, own_lv dg, .second, iv dec, rv a, iv at_, iv cnt, iv en, iv (pos2 + (-1 : Int32)), iv rem2, own_lv un, .second, .unset]) rfl ?_
    show own_S p e below T702 m 114 #[iv neg, own_lv un, .second, own_lv dg, .second, iv dec, rv a, iv at_, iv cnt, iv en, iv (pos2 + (-1 : Int32)), iv rem2, own_lv un, .second, .unset] [] _
    exact kt
  refine own_st sg703 ?_
  obtain ⟨pos3, hpos3⟩ : ∃ z : Int32, z = (pos2 + (-1 : Int32)) := ⟨_, rfl⟩
  rw [← hpos3] at hp2
  rw [← hpos3]
  show own_Go p e below _ T702 (mkF m 114 #[iv neg, own_lv un, .second, own_lv dg, .second, iv dec, rv a, iv at_, iv cnt, iv en, iv pos3, iv rem2, own_lv un, .second, .unset] [])
  have loop3 : ∀ (N j : Nat) (T1 : State) (h1 : Heap) (l1 : List Loc) (pos : Int32) (rest : Int64) (X1 : Stand p l e ({ frames := 0, cells := 0, slots := 0, locals := 0 } : Room) s m #[(.int neg), (.long un), (.long dg), (.int dec), (.ref a), (.int at_)] below meth c T1 l1 0 0) (e1 : T1.heap = h1) (N1 : Fr n0 l1) (Z1 : n0 ≤ h1.size) (K1 : Keep h0 h1 [a]) (A1 : own_AI Z h1 a .byte len (own_dig g dot U j)), N = U / 10 ^ j → (j = 0 ∨ N ≠ 0) → pos.toInt = ((dot - j : Nat) : Int) → rest.toInt = (N : Int) → own_Pk p e below (fun T' f' => ∃ (h' : Heap) (locs' : List Loc) (pos' : Int32) (rest' : Int64) (j' : Nat), f' = (mkF m 154 #[iv neg, own_lv un, .second, own_lv dg, .second, iv dec, rv a, iv at_, iv cnt, iv en, iv pos', iv rem2, own_lv rest', .second, .unset] []) ∧ Stand p l e ({ frames := 0, cells := 0, slots := 0, locals := 0 } : Room) s m #[(.int neg), (.long un), (.long dg), (.int dec), (.ref a), (.int at_)] below meth c T' locs' 0 0 ∧ T'.heap = h' ∧ Fr n0 locs' ∧ n0 ≤ h'.size ∧ Keep h0 h' [a] ∧ own_AI Z h' a .byte len (own_dig g dot U j') ∧ j' < own_nd U ∧ pos'.toInt = ((dot - j' : Nat) : Int) ∧ rest'.toInt = ((U / 10 ^ j' : Nat) : Int) ∧ U / 10 ^ j' < 2147483648) T1 (mkF m 114 #[iv neg, own_lv un, .second, own_lv dg, .second, iv dec, rv a, iv at_, iv cnt, iv en, iv pos, iv rem2, own_lv rest, .second, .unset] []) := by
    intro N
    induction N using Nat.strongRecOn with
    | ind N ih =>
      intro j T1 h1 l1 pos rest X1 e1 N1 Z1 K1 A1 hN hj hpos hrest
      have hjl : j < own_nd U := own_nd_lt j U (by rw [← hN]; exact hj)
      have sg901 : own_V p e below T1 (mkF m 120 #[iv neg, own_lv un, .second, own_lv dg, .second, iv dec, rv a, iv at_, iv cnt, iv en, iv pos, iv rem2, own_lv rest, .second, .unset] [(.int (lcmpW rest (2147483647 : Int64)))]) (mkF m 114 #[iv neg, own_lv un, .second, own_lv dg, .second, iv dec, rv a, iv at_, iv cnt, iv en, iv pos, iv rem2, own_lv rest, .second, .unset] []) := by
        intro t kt
        refine XS.lload X1.here hx rfl (hb hby own_d2_114) rfl ?_
        show own_S p e below T1 m 116 #[iv neg, own_lv un, .second, own_lv dg, .second, iv dec, rv a, iv at_, iv cnt, iv en, iv pos, iv rem2, own_lv rest, .second, .unset] [(.long rest)] _
        refine X1.ldc2Long hx hown (mvT hZ (hw _ (List.mem_of_getElem? (i := 31) rfl))) (g := (mkF m 116 #[iv neg, own_lv un, .second, own_lv dg, .second, iv dec, rv a, iv at_, iv cnt, iv en, iv pos, iv rem2, own_lv rest, .second, .unset] [(.long rest)])) rfl (hb hby own_d2_116) _ ?_
        show own_S p e below T1 m 119 #[iv neg, own_lv un, .second, own_lv dg, .second, iv dec, rv a, iv at_, iv cnt, iv en, iv pos, iv rem2, own_lv rest, .second, .unset] [(.long (2147483647 : Int64)), (.long rest)] _
        refine XS.lcmp X1.here hx rfl (hb hby own_d2_119) rfl ?_
        show own_S p e below T1 m 120 #[iv neg, own_lv un, .second, own_lv dg, .second, iv dec, rv a, iv at_, iv cnt, iv en, iv pos, iv rem2, own_lv rest, .second, .unset] [(.int (lcmpW rest (2147483647 : Int64)))] _
        exact kt
      refine own_sp sg901 ?_
      by_cases hc902 : (2147483647 : Int64) < rest
      · skip
        have sg903 : own_V p e below T1 (mkF m 123 #[iv neg, own_lv un, .second, own_lv dg, .second, iv dec, rv a, iv at_, iv cnt, iv en, iv pos, iv rem2, own_lv rest, .second, .unset] []) (mkF m 120 #[iv neg, own_lv un, .second, own_lv dg, .second, iv dec, rv a, iv at_, iv cnt, iv en, iv pos, iv rem2, own_lv rest, .second, .unset] [(.int (lcmpW rest (2147483647 : Int64)))]) := by
          intro t kt
          refine XS.ifNo X1.here hx rfl (hb hby own_d2_120) rfl (own_tgtL hc902).2 ?_
          exact kt
        refine own_sp sg903 ?_
        have hbig : 2147483647 < N := own_q9 hrest hc902
        have hp1 := own_dec1 pos (dot - j - 1) (by rw [hpos]; exact congrArg Int.ofNat (own_q10 hdot hjl))
        have sg904 : own_V p e below T1 (mkF m 142 #[iv neg, own_lv un, .second, own_lv dg, .second, iv dec, rv a, iv at_, iv cnt, iv en, iv (pos + (-1 : Int32)), iv rem2, own_lv rest, .second, .unset] [(.int ((48 : Int64) + (rest - (rest / (10 : Int64)) * (10 : Int64))).toInt32.toInt8.toInt32), (.int (pos + (-1 : Int32))), (.ref a)]) (mkF m 123 #[iv neg, own_lv un, .second, own_lv dg, .second, iv dec, rv a, iv at_, iv cnt, iv en, iv pos, iv rem2, own_lv rest, .second, .unset] []) := by
          intro t kt
          refine XS.aload X1.here hx rfl (hb hby own_d2_123) rfl rfl ?_
          show own_S p e below T1 m 125 #[iv neg, own_lv un, .second, own_lv dg, .second, iv dec, rv a, iv at_, iv cnt, iv en, iv pos, iv rem2, own_lv rest, .second, .unset] [(.ref a)] _
          refine XS.iinc X1.here hx rfl (hb hby own_d2_125) rfl (l' := #[iv neg, own_lv un, .second, own_lv dg, .second, iv dec, rv a, iv at_, iv cnt, iv en, iv (pos + (-1 : Int32)), iv rem2, own_lv rest, .second, .unset]) rfl ?_
          show own_S p e below T1 m 128 #[iv neg, own_lv un, .second, own_lv dg, .second, iv dec, rv a, iv at_, iv cnt, iv en, iv (pos + (-1 : Int32)), iv rem2, own_lv rest, .second, .unset] [(.ref a)] _
          refine XS.iload X1.here hx rfl (hb hby own_d2_128) rfl ?_
          show own_S p e below T1 m 130 #[iv neg, own_lv un, .second, own_lv dg, .second, iv dec, rv a, iv at_, iv cnt, iv en, iv (pos + (-1 : Int32)), iv rem2, own_lv rest, .second, .unset] [(.int (pos + (-1 : Int32))), (.ref a)] _
          refine X1.ldc2Long hx hown (mvT hZ (hw _ (List.mem_of_getElem? (i := 39) rfl))) (g := (mkF m 130 #[iv neg, own_lv un, .second, own_lv dg, .second, iv dec, rv a, iv at_, iv cnt, iv en, iv (pos + (-1 : Int32)), iv rem2, own_lv rest, .second, .unset] [(.int (pos + (-1 : Int32))), (.ref a)])) rfl (hb hby own_d2_130) _ ?_
          show own_S p e below T1 m 133 #[iv neg, own_lv un, .second, own_lv dg, .second, iv dec, rv a, iv at_, iv cnt, iv en, iv (pos + (-1 : Int32)), iv rem2, own_lv rest, .second, .unset] [(.long (48 : Int64)), (.int (pos + (-1 : Int32))), (.ref a)] _
          refine XS.lload X1.here hx rfl (hb hby own_d2_133) rfl ?_
          show own_S p e below T1 m 135 #[iv neg, own_lv un, .second, own_lv dg, .second, iv dec, rv a, iv at_, iv cnt, iv en, iv (pos + (-1 : Int32)), iv rem2, own_lv rest, .second, .unset] [(.long rest), (.long (48 : Int64)), (.int (pos + (-1 : Int32))), (.ref a)] _
          refine X1.ldc2Long hx hown (mvT hZ (hw _ (List.mem_of_getElem? (i := 30) rfl))) (g := (mkF m 135 #[iv neg, own_lv un, .second, own_lv dg, .second, iv dec, rv a, iv at_, iv cnt, iv en, iv (pos + (-1 : Int32)), iv rem2, own_lv rest, .second, .unset] [(.long rest), (.long (48 : Int64)), (.int (pos + (-1 : Int32))), (.ref a)])) rfl (hb hby own_d2_135) _ ?_
          show own_S p e below T1 m 138 #[iv neg, own_lv un, .second, own_lv dg, .second, iv dec, rv a, iv at_, iv cnt, iv en, iv (pos + (-1 : Int32)), iv rem2, own_lv rest, .second, .unset] [(.long (10 : Int64)), (.long rest), (.long (48 : Int64)), (.int (pos + (-1 : Int32))), (.ref a)] _
          refine XS.lrem X1.here hx rfl (hb hby own_d2_138) rfl (by decide) ?_
          show own_S p e below T1 m 139 #[iv neg, own_lv un, .second, own_lv dg, .second, iv dec, rv a, iv at_, iv cnt, iv en, iv (pos + (-1 : Int32)), iv rem2, own_lv rest, .second, .unset] [(.long (rest - (rest / (10 : Int64)) * (10 : Int64))), (.long (48 : Int64)), (.int (pos + (-1 : Int32))), (.ref a)] _
          refine XS.ladd X1.here hx rfl (hb hby own_d2_139) rfl ?_
          show own_S p e below T1 m 140 #[iv neg, own_lv un, .second, own_lv dg, .second, iv dec, rv a, iv at_, iv cnt, iv en, iv (pos + (-1 : Int32)), iv rem2, own_lv rest, .second, .unset] [(.long ((48 : Int64) + (rest - (rest / (10 : Int64)) * (10 : Int64)))), (.int (pos + (-1 : Int32))), (.ref a)] _
          refine XS.l2i X1.here hx rfl (hb hby own_d2_140) rfl ?_
          show own_S p e below T1 m 141 #[iv neg, own_lv un, .second, own_lv dg, .second, iv dec, rv a, iv at_, iv cnt, iv en, iv (pos + (-1 : Int32)), iv rem2, own_lv rest, .second, .unset] [(.int ((48 : Int64) + (rest - (rest / (10 : Int64)) * (10 : Int64))).toInt32), (.int (pos + (-1 : Int32))), (.ref a)] _
          refine XS.i2b X1.here hx rfl (hb hby own_d2_141) rfl ?_
          show own_S p e below T1 m 142 #[iv neg, own_lv un, .second, own_lv dg, .second, iv dec, rv a, iv at_, iv cnt, iv en, iv (pos + (-1 : Int32)), iv rem2, own_lv rest, .second, .unset] [(.int ((48 : Int64) + (rest - (rest / (10 : Int64)) * (10 : Int64))).toInt32.toInt8.toInt32), (.int (pos + (-1 : Int32))), (.ref a)] _
          exact kt
        refine own_sp sg904 ?_
        obtain ⟨T905, h905, X905, e905, W905, A905, st905⟩ := own_wrB X1 hx hZ e1 A1 (k := (dot - j - 1)) hp1 (own_q11 hlen) (g := (mkF m 142 #[iv neg, own_lv un, .second, own_lv dg, .second, iv dec, rv a, iv at_, iv cnt, iv en, iv (pos + (-1 : Int32)), iv rem2, own_lv rest, .second, .unset] [(.int ((48 : Int64) + (rest - (rest / (10 : Int64)) * (10 : Int64))).toInt32.toInt8.toInt32), (.int (pos + (-1 : Int32))), (.ref a)])) rfl rfl (hb hby own_d2_142)
        refine own_sp st905 ?_
        have Z905 : n0 ≤ h905.size := by rw [Wr.size W905]; exact Z1
        have N905 := Fr.snoc X905 N1 g_a
        show own_Pk p e below _ T905 (mkF m 143 #[iv neg, own_lv un, .second, own_lv dg, .second, iv dec, rv a, iv at_, iv cnt, iv en, iv (pos + (-1 : Int32)), iv rem2, own_lv rest, .second, .unset] [])
        have A2 : own_AI Z h905 a .byte len (own_dig g dot U (j + 1)) := A905.congr (fun i _ => own_dig_next g dot U j (dot - j - 1) _ (own_q12 hdot hjl) (by rw [← hN]; exact own_digL rest N hrest) i)
        have K2 : Keep h0 h905 [a] := K1.wr W905 (Or.inl (List.mem_of_getElem? (i := 0) rfl))
        have sg906 : own_V p e below T905 (mkF m 114 #[iv neg, own_lv un, .second, own_lv dg, .second, iv dec, rv a, iv at_, iv cnt, iv en, iv (pos + (-1 : Int32)), iv rem2, own_lv (rest / (10 : Int64)), .second, .unset] []) (mkF m 143 #[iv neg, own_lv un, .second, own_lv dg, .second, iv dec, rv a, iv at_, iv cnt, iv en, iv (pos + (-1 : Int32)), iv rem2, own_lv rest, .second, .unset] []) := by
          intro t kt
          refine XS.lload X905.here hx rfl (hb hby own_d2_143) rfl ?_
          show own_S p e below T905 m 145 #[iv neg, own_lv un, .second, own_lv dg, .second, iv dec, rv a, iv at_, iv cnt, iv en, iv (pos + (-1 : Int32)), iv rem2, own_lv rest, .second, .unset] [(.long rest)] _
          refine X905.ldc2Long hx hown (mvT hZ (hw _ (List.mem_of_getElem? (i := 30) rfl))) (g := (mkF m 145 #[iv neg, own_lv un, .second, own_lv dg, .second, iv dec, rv a, iv at_, iv cnt, iv en, iv (pos + (-1 : Int32)), iv rem2, own_lv rest, .second, .unset] [(.long rest)])) rfl (hb hby own_d2_145) _ ?_
          show own_S p e below T905 m 148 #[iv neg, own_lv un, .second, own_lv dg, .second, iv dec, rv a, iv at_, iv cnt, iv en, iv (pos + (-1 : Int32)), iv rem2, own_lv rest, .second, .unset] [(.long (10 : Int64)), (.long rest)] _
          refine XS.ldiv X905.here hx rfl (hb hby own_d2_148) rfl (by decide) ?_
          show own_S p e below T905 m 149 #[iv neg, own_lv un, .second, own_lv dg, .second, iv dec, rv a, iv at_, iv cnt, iv en, iv (pos + (-1 : Int32)), iv rem2, own_lv rest, .second, .unset] [(.long (rest / (10 : Int64)))] _
          refine XS.lstore X905.here hx rfl (hb hby own_d2_149) rfl (l' := #[iv neg, own_lv un, .second, own_lv dg, .second, iv dec, rv a, iv at_, iv cnt, iv en, iv (pos + (-1 : Int32)), iv rem2, own_lv (rest / (10 : Int64)), .second, .unset]) rfl ?_
          show own_S p e below T905 m 151 #[iv neg, own_lv un, .second, own_lv dg, .second, iv dec, rv a, iv at_, iv cnt, iv en, iv (pos + (-1 : Int32)), iv rem2, own_lv (rest / (10 : Int64)), .second, .unset] [] _
          refine XS.goto X905.here hx rfl (pc0 := 151) (pc' := 114) rfl (hb hby own_d2_151) (by decide) (by decide) ?_
          show own_S p e below T905 m 114 #[iv neg, own_lv un, .second, own_lv dg, .second, iv dec, rv a, iv at_, iv cnt, iv en, iv (pos + (-1 : Int32)), iv rem2, own_lv (rest / (10 : Int64)), .second, .unset] [] _
          exact kt
        refine own_sp sg906 ?_
        exact ih (N / 10) (own_q13 hbig) (j + 1) T905 _ _ (pos + (-1 : Int32)) (rest / (10 : Int64)) X905 e905 N905 Z905 K2 A2 (by rw [hN, own_divdiv']) (Or.inr (own_q14 hbig)) (by rw [hp1, Nat.sub_sub]) (own_ldiv10 rest N hrest)
      have sg907 : own_V p e below T1 (mkF m 154 #[iv neg, own_lv un, .second, own_lv dg, .second, iv dec, rv a, iv at_, iv cnt, iv en, iv pos, iv rem2, own_lv rest, .second, .unset] []) (mkF m 120 #[iv neg, own_lv un, .second, own_lv dg, .second, iv dec, rv a, iv at_, iv cnt, iv en, iv pos, iv rem2, own_lv rest, .second, .unset] [(.int (lcmpW rest (2147483647 : Int64)))]) := by
        intro t kt
        refine XS.ifYes X1.here hx rfl (pc0 := 120) (pc' := 154) rfl (hb hby own_d2_120) rfl (own_fgtL hc902).2 (by decide) (by decide) ?_
        exact kt
      refine own_sp sg907 ?_
      have hsm : N < 2147483648 := own_q15 hrest hc902
      exact ⟨T1, _, ⟨h1, l1, pos, rest, j, rfl, X1, e1, N1, Z1, K1, A1, hjl, hpos, by rw [← hN]; exact hrest, by rw [← hN]; exact hsm⟩, fun t k => k⟩
  obtain ⟨T4, _, ⟨h4, l4, pos4, rest4, j4, rfl, X4, e4, N4, Z4, K4, A4, hj4, hpos4, hrest4, hsm4⟩, st4⟩ := loop3 U 0 T702 h702 _ pos3 un X702 e702 N702 Z702 K3 (A3.congr (fun i _ => (own_dig0 g dot U i).symm)) (by rw [Nat.pow_zero, Nat.div_one]) (Or.inl rfl) hp2 hU
  refine own_st st4 ?_
  show own_Go p e below _ T4 (mkF m 154 #[iv neg, own_lv un, .second, own_lv dg, .second, iv dec, rv a, iv at_, iv cnt, iv en, iv pos4, iv rem2, own_lv rest4, .second, .unset] [])
  obtain ⟨low4, hlow4⟩ : ∃ z : Int32, z = rest4.toInt32 := ⟨_, rfl⟩
  have sg1101 : own_V p e below T4 (mkF m 159 #[iv neg, own_lv un, .second, own_lv dg, .second, iv dec, rv a, iv at_, iv cnt, iv en, iv pos4, iv rem2, own_lv rest4, .second, iv low4] []) (mkF m 154 #[iv neg, own_lv un, .second, own_lv dg, .second, iv dec, rv a, iv at_, iv cnt, iv en, iv pos4, iv rem2, own_lv rest4, .second, .unset] []) := by
    intro t kt
    refine XS.lload X4.here hx rfl (hb hby own_d2_154) rfl ?_
    show own_S p e below T4 m 156 #[iv neg, own_lv un, .second, own_lv dg, .second, iv dec, rv a, iv at_, iv cnt, iv en, iv pos4, iv rem2, own_lv rest4, .second, .unset] [(.long rest4)] _
    refine XS.l2i X4.here hx rfl (hb hby own_d2_156) rfl ?_
    show own_S p e below T4 m 157 #[iv neg, own_lv un, .second, own_lv dg, .second, iv dec, rv a, iv at_, iv cnt, iv en, iv pos4, iv rem2, own_lv rest4, .second, .unset] [(.int rest4.toInt32)] _
    refine XS.istore X4.here hx rfl (hb hby own_d2_157) rfl (l' := #[iv neg, own_lv un, .second, own_lv dg, .second, iv dec, rv a, iv at_, iv cnt, iv en, iv pos4, iv rem2, own_lv rest4, .second, iv rest4.toInt32]) rfl ?_
    show own_S p e below T4 m 159 #[iv neg, own_lv un, .second, own_lv dg, .second, iv dec, rv a, iv at_, iv cnt, iv en, iv pos4, iv rem2, own_lv rest4, .second, iv rest4.toInt32] [] _
    rw [hlow4] at kt
    exact kt
  refine own_st sg1101 ?_
  have hlow4' : low4.toInt = ((U / 10 ^ j4 : Nat) : Int) := by rw [hlow4]; exact own_l2i rest4 _ hrest4 hsm4
  have loop4 : ∀ (N j : Nat) (T1 : State) (h1 : Heap) (l1 : List Loc) (pos low : Int32) (X1 : Stand p l e ({ frames := 0, cells := 0, slots := 0, locals := 0 } : Room) s m #[(.int neg), (.long un), (.long dg), (.int dec), (.ref a), (.int at_)] below meth c T1 l1 0 0) (e1 : T1.heap = h1) (N1 : Fr n0 l1) (Z1 : n0 ≤ h1.size) (K1 : Keep h0 h1 [a]) (A1 : own_AI Z h1 a .byte len (own_dig g dot U j)), N = U / 10 ^ j → j < own_nd U → pos.toInt = ((dot - j : Nat) : Int) → low.toInt = (N : Int) → own_Pk p e below (fun T' f' => ∃ (h' : Heap) (locs' : List Loc) (pos' low' : Int32), f' = (mkF m 188 #[iv neg, own_lv un, .second, own_lv dg, .second, iv dec, rv a, iv at_, iv cnt, iv en, iv pos', iv rem2, own_lv rest4, .second, iv low'] []) ∧ Stand p l e ({ frames := 0, cells := 0, slots := 0, locals := 0 } : Room) s m #[(.int neg), (.long un), (.long dg), (.int dec), (.ref a), (.int at_)] below meth c T' locs' 0 0 ∧ T'.heap = h' ∧ Fr n0 locs' ∧ n0 ≤ h'.size ∧ Keep h0 h' [a] ∧ own_AI Z h' a .byte len (own_dig g dot U (own_nd U)) ∧ pos'.toInt = ((dot - own_nd U : Nat) : Int)) T1 (mkF m 159 #[iv neg, own_lv un, .second, own_lv dg, .second, iv dec, rv a, iv at_, iv cnt, iv en, iv pos, iv rem2, own_lv rest4, .second, iv low] []) := by
    intro N
    induction N using Nat.strongRecOn with
    | ind N ih =>
      intro j T1 h1 l1 pos low X1 e1 N1 Z1 K1 A1 hN hjl hpos hlow
      have hp1 := own_dec1 pos (dot - j - 1) (by rw [hpos]; exact congrArg Int.ofNat (own_q10 hdot hjl))
      have hl2 := own_idiv10 low N hlow
      have sg1301 : own_V p e below T1 (mkF m 175 #[iv neg, own_lv un, .second, own_lv dg, .second, iv dec, rv a, iv at_, iv cnt, iv en, iv (pos + (-1 : Int32)), iv rem2, own_lv rest4, .second, iv low] [(.int ((48 : Int32) + (low % (10 : Int32))).toInt8.toInt32), (.int (pos + (-1 : Int32))), (.ref a)]) (mkF m 159 #[iv neg, own_lv un, .second, own_lv dg, .second, iv dec, rv a, iv at_, iv cnt, iv en, iv pos, iv rem2, own_lv rest4, .second, iv low] []) := by
        intro t kt
        refine XS.aload X1.here hx rfl (hb hby own_d2_159) rfl rfl ?_
        show own_S p e below T1 m 161 #[iv neg, own_lv un, .second, own_lv dg, .second, iv dec, rv a, iv at_, iv cnt, iv en, iv pos, iv rem2, own_lv rest4, .second, iv low] [(.ref a)] _
        refine XS.iinc X1.here hx rfl (hb hby own_d2_161) rfl (l' := #[iv neg, own_lv un, .second, own_lv dg, .second, iv dec, rv a, iv at_, iv cnt, iv en, iv (pos + (-1 : Int32)), iv rem2, own_lv rest4, .second, iv low]) rfl ?_
        show own_S p e below T1 m 164 #[iv neg, own_lv un, .second, own_lv dg, .second, iv dec, rv a, iv at_, iv cnt, iv en, iv (pos + (-1 : Int32)), iv rem2, own_lv rest4, .second, iv low] [(.ref a)] _
        refine XS.iload X1.here hx rfl (hb hby own_d2_164) rfl ?_
        show own_S p e below T1 m 166 #[iv neg, own_lv un, .second, own_lv dg, .second, iv dec, rv a, iv at_, iv cnt, iv en, iv (pos + (-1 : Int32)), iv rem2, own_lv rest4, .second, iv low] [(.int (pos + (-1 : Int32))), (.ref a)] _
        refine XS.bipush X1.here hx rfl (hb hby own_d2_166) ?_
        show own_S p e below T1 m 168 #[iv neg, own_lv un, .second, own_lv dg, .second, iv dec, rv a, iv at_, iv cnt, iv en, iv (pos + (-1 : Int32)), iv rem2, own_lv rest4, .second, iv low] [(.int (48 : Int32)), (.int (pos + (-1 : Int32))), (.ref a)] _
        refine XS.iload X1.here hx rfl (hb hby own_d2_168) rfl ?_
        show own_S p e below T1 m 170 #[iv neg, own_lv un, .second, own_lv dg, .second, iv dec, rv a, iv at_, iv cnt, iv en, iv (pos + (-1 : Int32)), iv rem2, own_lv rest4, .second, iv low] [(.int low), (.int (48 : Int32)), (.int (pos + (-1 : Int32))), (.ref a)] _
        refine XS.bipush X1.here hx rfl (hb hby own_d2_170) ?_
        show own_S p e below T1 m 172 #[iv neg, own_lv un, .second, own_lv dg, .second, iv dec, rv a, iv at_, iv cnt, iv en, iv (pos + (-1 : Int32)), iv rem2, own_lv rest4, .second, iv low] [(.int (10 : Int32)), (.int low), (.int (48 : Int32)), (.int (pos + (-1 : Int32))), (.ref a)] _
        refine own_irem X1.here hx rfl (hb hby own_d2_172) rfl (by decide) ?_
        show own_S p e below T1 m 173 #[iv neg, own_lv un, .second, own_lv dg, .second, iv dec, rv a, iv at_, iv cnt, iv en, iv (pos + (-1 : Int32)), iv rem2, own_lv rest4, .second, iv low] [(.int (low % (10 : Int32))), (.int (48 : Int32)), (.int (pos + (-1 : Int32))), (.ref a)] _
        refine XS.iadd X1.here hx rfl (hb hby own_d2_173) rfl ?_
        show own_S p e below T1 m 174 #[iv neg, own_lv un, .second, own_lv dg, .second, iv dec, rv a, iv at_, iv cnt, iv en, iv (pos + (-1 : Int32)), iv rem2, own_lv rest4, .second, iv low] [(.int ((48 : Int32) + (low % (10 : Int32)))), (.int (pos + (-1 : Int32))), (.ref a)] _
        refine XS.i2b X1.here hx rfl (hb hby own_d2_174) rfl ?_
        show own_S p e below T1 m 175 #[iv neg, own_lv un, .second, own_lv dg, .second, iv dec, rv a, iv at_, iv cnt, iv en, iv (pos + (-1 : Int32)), iv rem2, own_lv rest4, .second, iv low] [(.int ((48 : Int32) + (low % (10 : Int32))).toInt8.toInt32), (.int (pos + (-1 : Int32))), (.ref a)] _
        exact kt
      refine own_sp sg1301 ?_
      obtain ⟨T1302, h1302, X1302, e1302, W1302, A1302, st1302⟩ := own_wrB X1 hx hZ e1 A1 (k := (dot - j - 1)) hp1 (own_q11 hlen) (g := (mkF m 175 #[iv neg, own_lv un, .second, own_lv dg, .second, iv dec, rv a, iv at_, iv cnt, iv en, iv (pos + (-1 : Int32)), iv rem2, own_lv rest4, .second, iv low] [(.int ((48 : Int32) + (low % (10 : Int32))).toInt8.toInt32), (.int (pos + (-1 : Int32))), (.ref a)])) rfl rfl (hb hby own_d2_175)
      refine own_sp st1302 ?_
      have Z1302 : n0 ≤ h1302.size := by rw [Wr.size W1302]; exact Z1
      have N1302 := Fr.snoc X1302 N1 g_a
      show own_Pk p e below _ T1302 (mkF m 176 #[iv neg, own_lv un, .second, own_lv dg, .second, iv dec, rv a, iv at_, iv cnt, iv en, iv (pos + (-1 : Int32)), iv rem2, own_lv rest4, .second, iv low] [])
      have A2 : own_AI Z h1302 a .byte len (own_dig g dot U (j + 1)) := A1302.congr (fun i _ => own_dig_next g dot U j (dot - j - 1) _ (own_q12 hdot hjl) (by rw [← hN]; exact own_digI low N hlow) i)
      have K2 : Keep h0 h1302 [a] := K1.wr W1302 (Or.inl (List.mem_of_getElem? (i := 0) rfl))
      have sg1303 : own_V p e below T1302 (mkF m 185 #[iv neg, own_lv un, .second, own_lv dg, .second, iv dec, rv a, iv at_, iv cnt, iv en, iv (pos + (-1 : Int32)), iv rem2, own_lv rest4, .second, iv (low / (10 : Int32))] [(.int (low / (10 : Int32)))]) (mkF m 176 #[iv neg, own_lv un, .second, own_lv dg, .second, iv dec, rv a, iv at_, iv cnt, iv en, iv (pos + (-1 : Int32)), iv rem2, own_lv rest4, .second, iv low] []) := by
        intro t kt
        refine XS.iload X1302.here hx rfl (hb hby own_d2_176) rfl ?_
        show own_S p e below T1302 m 178 #[iv neg, own_lv un, .second, own_lv dg, .second, iv dec, rv a, iv at_, iv cnt, iv en, iv (pos + (-1 : Int32)), iv rem2, own_lv rest4, .second, iv low] [(.int low)] _
        refine XS.bipush X1302.here hx rfl (hb hby own_d2_178) ?_
        show own_S p e below T1302 m 180 #[iv neg, own_lv un, .second, own_lv dg, .second, iv dec, rv a, iv at_, iv cnt, iv en, iv (pos + (-1 : Int32)), iv rem2, own_lv rest4, .second, iv low] [(.int (10 : Int32)), (.int low)] _
        refine XS.idiv X1302.here hx rfl (hb hby own_d2_180) rfl (by decide) ?_
        show own_S p e below T1302 m 181 #[iv neg, own_lv un, .second, own_lv dg, .second, iv dec, rv a, iv at_, iv cnt, iv en, iv (pos + (-1 : Int32)), iv rem2, own_lv rest4, .second, iv low] [(.int (low / (10 : Int32)))] _
        refine XS.istore X1302.here hx rfl (hb hby own_d2_181) rfl (l' := #[iv neg, own_lv un, .second, own_lv dg, .second, iv dec, rv a, iv at_, iv cnt, iv en, iv (pos + (-1 : Int32)), iv rem2, own_lv rest4, .second, iv (low / (10 : Int32))]) rfl ?_
        show own_S p e below T1302 m 183 #[iv neg, own_lv un, .second, own_lv dg, .second, iv dec, rv a, iv at_, iv cnt, iv en, iv (pos + (-1 : Int32)), iv rem2, own_lv rest4, .second, iv (low / (10 : Int32))] [] _
        refine XS.iload X1302.here hx rfl (hb hby own_d2_183) rfl ?_
        show own_S p e below T1302 m 185 #[iv neg, own_lv un, .second, own_lv dg, .second, iv dec, rv a, iv at_, iv cnt, iv en, iv (pos + (-1 : Int32)), iv rem2, own_lv rest4, .second, iv (low / (10 : Int32))] [(.int (low / (10 : Int32)))] _
        exact kt
      refine own_sp sg1303 ?_
      by_cases hc1304 : (0 : Int32) < (low / (10 : Int32))
      · skip
        have sg1305 : own_V p e below T1302 (mkF m 159 #[iv neg, own_lv un, .second, own_lv dg, .second, iv dec, rv a, iv at_, iv cnt, iv en, iv (pos + (-1 : Int32)), iv rem2, own_lv rest4, .second, iv (low / (10 : Int32))] []) (mkF m 185 #[iv neg, own_lv un, .second, own_lv dg, .second, iv dec, rv a, iv at_, iv cnt, iv en, iv (pos + (-1 : Int32)), iv rem2, own_lv rest4, .second, iv (low / (10 : Int32))] [(.int (low / (10 : Int32)))]) := by
          intro t kt
          refine XS.ifYes X1302.here hx rfl (pc0 := 185) (pc' := 159) rfl (hb hby own_d2_185) rfl ((if0 _ _).trans (tlt hc1304).2.2.1) (by decide) (by decide) ?_
          exact kt
        refine own_sp sg1305 ?_
        have hN1 : N / 10 ≠ 0 := own_q16 hl2 hc1304
        have hN2 : N / 10 = U / 10 ^ (j + 1) := by rw [hN, own_divdiv']
        exact ih (N / 10) (own_q18 hN1) (j + 1) T1302 _ _ (pos + (-1 : Int32)) (low / (10 : Int32)) X1302 e1302 N1302 Z1302 K2 A2 hN2 (own_nd_lt (j + 1) U (Or.inr (by rw [← hN2]; exact hN1))) (by rw [hp1, Nat.sub_sub]) hl2
      have sg1306 : own_V p e below T1302 (mkF m 188 #[iv neg, own_lv un, .second, own_lv dg, .second, iv dec, rv a, iv at_, iv cnt, iv en, iv (pos + (-1 : Int32)), iv rem2, own_lv rest4, .second, iv (low / (10 : Int32))] []) (mkF m 185 #[iv neg, own_lv un, .second, own_lv dg, .second, iv dec, rv a, iv at_, iv cnt, iv en, iv (pos + (-1 : Int32)), iv rem2, own_lv rest4, .second, iv (low / (10 : Int32))] [(.int (low / (10 : Int32)))]) := by
        intro t kt
        refine XS.ifNo X1302.here hx rfl (hb hby own_d2_185) rfl ((if0 _ _).trans (flt hc1304).2.2.1) ?_
        exact kt
      refine own_sp sg1306 ?_
      have hN1 : N / 10 = 0 := own_q17 hl2 hc1304
      have hnd : own_nd U = j + 1 := by
        exact Nat.le_antisymm (own_nd_le j U (by rw [own_divdiv', ← hN]; exact hN1)) hjl
      exact ⟨T1302, _, ⟨_, _, (pos + (-1 : Int32)), (low / (10 : Int32)), rfl, X1302, e1302, N1302, Z1302, K2, by rw [hnd]; exact A2, by rw [hp1, hnd, Nat.sub_sub]⟩, fun t k => k⟩
  obtain ⟨T5, _, ⟨h5, l5, pos5, low5, rfl, X5, e5, N5, Z5, K5, A5, hpos5⟩, st5⟩ := loop4 _ j4 T4 h4 _ pos4 low4 X4 e4 N4 Z4 K4 A4 rfl hj4 hpos4 hlow4'
  refine own_st st5 ?_
  show own_Go p e below _ T5 (mkF m 188 #[iv neg, own_lv un, .second, own_lv dg, .second, iv dec, rv a, iv at_, iv cnt, iv en, iv pos5, iv rem2, own_lv rest4, .second, iv low5] [])
  have hend : en.toInt = ((ka + ks + own_nd U + 1 + kd : Nat) : Int) := by rw [hen', hdot]
  have sg1501 : own_V p e below T5 (mkF m 189 #[iv neg, own_lv un, .second, own_lv dg, .second, iv dec, rv a, iv at_, iv cnt, iv en, iv pos5, iv rem2, own_lv rest4, .second, iv low5] [(.int neg)]) (mkF m 188 #[iv neg, own_lv un, .second, own_lv dg, .second, iv dec, rv a, iv at_, iv cnt, iv en, iv pos5, iv rem2, own_lv rest4, .second, iv low5] []) := by
    intro t kt
    refine XS.iloadN X5.here hx rfl (hb hby own_d2_188) rfl ?_
    show own_S p e below T5 m 189 #[iv neg, own_lv un, .second, own_lv dg, .second, iv dec, rv a, iv at_, iv cnt, iv en, iv pos5, iv rem2, own_lv rest4, .second, iv low5] [(.int neg)] _
    exact kt
  refine own_st sg1501 ?_
  by_cases hc1502 : neg = (0 : Int32)
  · skip
    have sg1503 : own_V p e below T5 (mkF m 202 #[iv neg, own_lv un, .second, own_lv dg, .second, iv dec, rv a, iv at_, iv cnt, iv en, iv pos5, iv rem2, own_lv rest4, .second, iv low5] []) (mkF m 189 #[iv neg, own_lv un, .second, own_lv dg, .second, iv dec, rv a, iv at_, iv cnt, iv en, iv pos5, iv rem2, own_lv rest4, .second, iv low5] [(.int neg)]) := by
      intro t kt
      refine XS.ifYes X5.here hx rfl (pc0 := 189) (pc' := 202) rfl (hb hby own_d2_189) rfl ((if0 _ _).trans (teq hc1502).1) (by decide) (by decide) ?_
      exact kt
    refine own_st sg1503 ?_
    have hks : ks = 0 := by
      rcases hneg with ⟨-, z2⟩ | ⟨z1, -⟩
      · exact z2
      · rw [hc1502] at z1; exact absurd z1 (by decide)
    have sg1504 : own_V p e below T5 (mkF m 204 #[iv neg, own_lv un, .second, own_lv dg, .second, iv dec, rv a, iv at_, iv cnt, iv en, iv pos5, iv rem2, own_lv rest4, .second, iv low5] [(.int en)]) (mkF m 202 #[iv neg, own_lv un, .second, own_lv dg, .second, iv dec, rv a, iv at_, iv cnt, iv en, iv pos5, iv rem2, own_lv rest4, .second, iv low5] []) := by
      intro t kt
      refine XS.iload X5.here hx rfl (hb hby own_d2_202) rfl ?_
      show own_S p e below T5 m 204 #[iv neg, own_lv un, .second, own_lv dg, .second, iv dec, rv a, iv at_, iv cnt, iv en, iv pos5, iv rem2, own_lv rest4, .second, iv low5] [(.int en)] _
      exact kt
    refine own_st sg1504 ?_
    have A6 : own_AI Z h5 a .byte len (own_put f (decide (ks = 1)) ka U D kd) := by
      rw [hks] at hdot ⊢
      rw [hg, hdot] at A5
      exact A5
    exact own_retI X5 hx Bd.notSynchronized Bd.returns (hb hby own_d2_204) (by decide) (by decide) e5 ⟨⟨en, rfl, hend⟩, N5, K5, A6⟩
  have sg1505 : own_V p e below T5 (mkF m 192 #[iv neg, own_lv un, .second, own_lv dg, .second, iv dec, rv a, iv at_, iv cnt, iv en, iv pos5, iv rem2, own_lv rest4, .second, iv low5] []) (mkF m 189 #[iv neg, own_lv un, .second, own_lv dg, .second, iv dec, rv a, iv at_, iv cnt, iv en, iv pos5, iv rem2, own_lv rest4, .second, iv low5] [(.int neg)]) := by
    intro t kt
    refine XS.ifNo X5.here hx rfl (hb hby own_d2_189) rfl ((if0 _ _).trans (feq hc1502).1) ?_
    exact kt
  refine own_st sg1505 ?_
  have hks : ks = 1 := by
    rcases hneg with ⟨z1, -⟩ | ⟨-, z2⟩
    · exact absurd z1 hc1502
    · exact z2
  have hp1 := own_dec1 pos5 ka (by rw [hpos5]; exact congrArg Int.ofNat (own_q19 hdot hks))
  have sg1506 : own_V p e below T5 (mkF m 201 #[iv neg, own_lv un, .second, own_lv dg, .second, iv dec, rv a, iv at_, iv cnt, iv en, iv (pos5 + (-1 : Int32)), iv rem2, own_lv rest4, .second, iv low5] [(.int (45 : Int32)), (.int (pos5 + (-1 : Int32))), (.ref a)]) (mkF m 192 #[iv neg, own_lv un, .second, own_lv dg, .second, iv dec, rv a, iv at_, iv cnt, iv en, iv pos5, iv rem2, own_lv rest4, .second, iv low5] []) := by
    intro t kt
    refine XS.aload X5.here hx rfl (hb hby own_d2_192) rfl rfl ?_
    show own_S p e below T5 m 194 #[iv neg, own_lv un, .second, own_lv dg, .second, iv dec, rv a, iv at_, iv cnt, iv en, iv pos5, iv rem2, own_lv rest4, .second, iv low5] [(.ref a)] _
    refine XS.iinc X5.here hx rfl (hb hby own_d2_194) rfl (l' := #[iv neg, own_lv un, .second, own_lv dg, .second, iv dec, rv a, iv at_, iv cnt, iv en, iv (pos5 + (-1 : Int32)), iv rem2, own_lv rest4, .second, iv low5]) rfl ?_
    show own_S p e below T5 m 197 #[iv neg, own_lv un, .second, own_lv dg, .second, iv dec, rv a, iv at_, iv cnt, iv en, iv (pos5 + (-1 : Int32)), iv rem2, own_lv rest4, .second, iv low5] [(.ref a)] _
    refine XS.iload X5.here hx rfl (hb hby own_d2_197) rfl ?_
    show own_S p e below T5 m 199 #[iv neg, own_lv un, .second, own_lv dg, .second, iv dec, rv a, iv at_, iv cnt, iv en, iv (pos5 + (-1 : Int32)), iv rem2, own_lv rest4, .second, iv low5] [(.int (pos5 + (-1 : Int32))), (.ref a)] _
    refine XS.bipush X5.here hx rfl (hb hby own_d2_199) ?_
    show own_S p e below T5 m 201 #[iv neg, own_lv un, .second, own_lv dg, .second, iv dec, rv a, iv at_, iv cnt, iv en, iv (pos5 + (-1 : Int32)), iv rem2, own_lv rest4, .second, iv low5] [(.int (45 : Int32)), (.int (pos5 + (-1 : Int32))), (.ref a)] _
    exact kt
  refine own_st sg1506 ?_
  obtain ⟨T1507, h1507, X1507, e1507, W1507, A1507, st1507⟩ := own_wrB X5 hx hZ e5 A5 (k := ka) hp1 (own_q20 hlen hdot) (g := (mkF m 201 #[iv neg, own_lv un, .second, own_lv dg, .second, iv dec, rv a, iv at_, iv cnt, iv en, iv (pos5 + (-1 : Int32)), iv rem2, own_lv rest4, .second, iv low5] [(.int (45 : Int32)), (.int (pos5 + (-1 : Int32))), (.ref a)])) rfl rfl (hb hby own_d2_201)
  refine own_st st1507 ?_
  have Z1507 : n0 ≤ h1507.size := by rw [Wr.size W1507]; exact Z5
  have N1507 := Fr.snoc X1507 N5 g_a
  show own_Go p e below _ T1507 (mkF m 202 #[iv neg, own_lv un, .second, own_lv dg, .second, iv dec, rv a, iv at_, iv cnt, iv en, iv (pos5 + (-1 : Int32)), iv rem2, own_lv rest4, .second, iv low5] [])
  have sg1508 : own_V p e below T1507 (mkF m 204 #[iv neg, own_lv un, .second, own_lv dg, .second, iv dec, rv a, iv at_, iv cnt, iv en, iv (pos5 + (-1 : Int32)), iv rem2, own_lv rest4, .second, iv low5] [(.int en)]) (mkF m 202 #[iv neg, own_lv un, .second, own_lv dg, .second, iv dec, rv a, iv at_, iv cnt, iv en, iv (pos5 + (-1 : Int32)), iv rem2, own_lv rest4, .second, iv low5] []) := by
    intro t kt
    refine XS.iload X1507.here hx rfl (hb hby own_d2_202) rfl ?_
    show own_S p e below T1507 m 204 #[iv neg, own_lv un, .second, own_lv dg, .second, iv dec, rv a, iv at_, iv cnt, iv en, iv (pos5 + (-1 : Int32)), iv rem2, own_lv rest4, .second, iv low5] [(.int en)] _
    exact kt
  refine own_st sg1508 ?_
  have A6 : own_AI Z h1507 a .byte len (own_put f (decide (ks = 1)) ka U D kd) := by
    rw [hks] at hdot ⊢
    rw [hg, hdot] at A1507
    exact A1507
  exact own_retI X1507 hx Bd.notSynchronized Bd.returns (hb hby own_d2_204) (by decide) (by decide) e1507 ⟨⟨en, rfl, hend⟩, N1507, K5.wr W1507 (Or.inl (List.mem_of_getElem? (i := 0) rfl)), A6⟩
def own_p10 (i : Nat) : Int64 := Int64.ofNat (10 ^ i)
def own_pf (n : Nat) : Nat → Int64 := fun i => if i < n then own_p10 i else 0
theorem own_pf0 (i : Nat) : (0 : Int64) = own_pf 0 i := by unfold own_pf; rw [if_neg (by omega)]
theorem own_pf_next (n : Nat) (v : Int64) (hv : v = own_p10 n) (i : Nat) : own_updL (own_pf n) n v i = own_pf (n + 1) i := by
  unfold own_updL own_pf
  by_cases q : i = n
  · rw [if_pos q, if_pos (by omega), hv, q]
  · rw [if_neg q]
    by_cases r : i < n
    · rw [if_pos r, if_pos (by omega)]
    · rw [if_neg r, if_neg (by omega)]
theorem own_p10_toInt (k : Nat) (h : k < 19) : (own_p10 k).toInt = ((10 ^ k : Nat) : Int) := by
  have q : ∀ r : Fin 19, (own_p10 r.1).toInt = ((10 ^ r.1 : Nat) : Int) := by decide
  exact q ⟨k, h⟩
theorem own_pf_at (k : Nat) (h : k < 19) : own_pf 19 k = own_p10 k := by unfold own_pf; rw [if_pos h]
theorem own_d1_0 : decode method_4_code 0 = .ok (.bipush 19, 2) := by decide +kernel
theorem own_d1_2 : decode method_4_code 2 = .ok (.newarray .long, 2) := by decide +kernel
theorem own_d1_4 : decode method_4_code 4 = .ok (.dup, 1) := by decide +kernel
theorem own_d1_5 : decode method_4_code 5 = .ok (.iconst 0, 1) := by decide +kernel
theorem own_d1_6 : decode method_4_code 6 = .ok (.lconst 1, 1) := by decide +kernel
theorem own_d1_7 : decode method_4_code 7 = .ok (.lastore, 1) := by decide +kernel
theorem own_d1_8 : decode method_4_code 8 = .ok (.dup, 1) := by decide +kernel
theorem own_d1_9 : decode method_4_code 9 = .ok (.iconst 1, 1) := by decide +kernel
theorem own_d1_10 : decode method_4_code 10 = .ok (.ldc2_w 34, 3) := by decide +kernel
theorem own_d1_13 : decode method_4_code 13 = .ok (.lastore, 1) := by decide +kernel
theorem own_d1_14 : decode method_4_code 14 = .ok (.dup, 1) := by decide +kernel
theorem own_d1_15 : decode method_4_code 15 = .ok (.iconst 2, 1) := by decide +kernel
theorem own_d1_16 : decode method_4_code 16 = .ok (.ldc2_w 36, 3) := by decide +kernel
theorem own_d1_19 : decode method_4_code 19 = .ok (.lastore, 1) := by decide +kernel
theorem own_d1_20 : decode method_4_code 20 = .ok (.dup, 1) := by decide +kernel
theorem own_d1_21 : decode method_4_code 21 = .ok (.iconst 3, 1) := by decide +kernel
theorem own_d1_22 : decode method_4_code 22 = .ok (.ldc2_w 38, 3) := by decide +kernel
theorem own_d1_25 : decode method_4_code 25 = .ok (.lastore, 1) := by decide +kernel
theorem own_d1_26 : decode method_4_code 26 = .ok (.dup, 1) := by decide +kernel
theorem own_d1_27 : decode method_4_code 27 = .ok (.iconst 4, 1) := by decide +kernel
theorem own_d1_28 : decode method_4_code 28 = .ok (.ldc2_w 40, 3) := by decide +kernel
theorem own_d1_31 : decode method_4_code 31 = .ok (.lastore, 1) := by decide +kernel
theorem own_d1_32 : decode method_4_code 32 = .ok (.dup, 1) := by decide +kernel
theorem own_d1_33 : decode method_4_code 33 = .ok (.iconst 5, 1) := by decide +kernel
theorem own_d1_34 : decode method_4_code 34 = .ok (.ldc2_w 42, 3) := by decide +kernel
theorem own_d1_37 : decode method_4_code 37 = .ok (.lastore, 1) := by decide +kernel
theorem own_d1_38 : decode method_4_code 38 = .ok (.dup, 1) := by decide +kernel
theorem own_d1_39 : decode method_4_code 39 = .ok (.bipush 6, 2) := by decide +kernel
theorem own_d1_41 : decode method_4_code 41 = .ok (.ldc2_w 44, 3) := by decide +kernel
theorem own_d1_44 : decode method_4_code 44 = .ok (.lastore, 1) := by decide +kernel
theorem own_d1_45 : decode method_4_code 45 = .ok (.dup, 1) := by decide +kernel
theorem own_d1_46 : decode method_4_code 46 = .ok (.bipush 7, 2) := by decide +kernel
theorem own_d1_48 : decode method_4_code 48 = .ok (.ldc2_w 46, 3) := by decide +kernel
theorem own_d1_51 : decode method_4_code 51 = .ok (.lastore, 1) := by decide +kernel
theorem own_d1_52 : decode method_4_code 52 = .ok (.dup, 1) := by decide +kernel
theorem own_d1_53 : decode method_4_code 53 = .ok (.bipush 8, 2) := by decide +kernel
theorem own_d1_55 : decode method_4_code 55 = .ok (.ldc2_w 48, 3) := by decide +kernel
theorem own_d1_58 : decode method_4_code 58 = .ok (.lastore, 1) := by decide +kernel
theorem own_d1_59 : decode method_4_code 59 = .ok (.dup, 1) := by decide +kernel
theorem own_d1_60 : decode method_4_code 60 = .ok (.bipush 9, 2) := by decide +kernel
theorem own_d1_62 : decode method_4_code 62 = .ok (.ldc2_w 50, 3) := by decide +kernel
theorem own_d1_65 : decode method_4_code 65 = .ok (.lastore, 1) := by decide +kernel
theorem own_d1_66 : decode method_4_code 66 = .ok (.dup, 1) := by decide +kernel
theorem own_d1_67 : decode method_4_code 67 = .ok (.bipush 10, 2) := by decide +kernel
theorem own_d1_69 : decode method_4_code 69 = .ok (.ldc2_w 52, 3) := by decide +kernel
theorem own_d1_72 : decode method_4_code 72 = .ok (.lastore, 1) := by decide +kernel
theorem own_d1_73 : decode method_4_code 73 = .ok (.dup, 1) := by decide +kernel
theorem own_d1_74 : decode method_4_code 74 = .ok (.bipush 11, 2) := by decide +kernel
theorem own_d1_76 : decode method_4_code 76 = .ok (.ldc2_w 54, 3) := by decide +kernel
theorem own_d1_79 : decode method_4_code 79 = .ok (.lastore, 1) := by decide +kernel
theorem own_d1_80 : decode method_4_code 80 = .ok (.dup, 1) := by decide +kernel
theorem own_d1_81 : decode method_4_code 81 = .ok (.bipush 12, 2) := by decide +kernel
theorem own_d1_83 : decode method_4_code 83 = .ok (.ldc2_w 56, 3) := by decide +kernel
theorem own_d1_86 : decode method_4_code 86 = .ok (.lastore, 1) := by decide +kernel
theorem own_d1_87 : decode method_4_code 87 = .ok (.dup, 1) := by decide +kernel
theorem own_d1_88 : decode method_4_code 88 = .ok (.bipush 13, 2) := by decide +kernel
theorem own_d1_90 : decode method_4_code 90 = .ok (.ldc2_w 58, 3) := by decide +kernel
theorem own_d1_93 : decode method_4_code 93 = .ok (.lastore, 1) := by decide +kernel
theorem own_d1_94 : decode method_4_code 94 = .ok (.dup, 1) := by decide +kernel
theorem own_d1_95 : decode method_4_code 95 = .ok (.bipush 14, 2) := by decide +kernel
theorem own_d1_97 : decode method_4_code 97 = .ok (.ldc2_w 60, 3) := by decide +kernel
theorem own_d1_100 : decode method_4_code 100 = .ok (.lastore, 1) := by decide +kernel
theorem own_d1_101 : decode method_4_code 101 = .ok (.dup, 1) := by decide +kernel
theorem own_d1_102 : decode method_4_code 102 = .ok (.bipush 15, 2) := by decide +kernel
theorem own_d1_104 : decode method_4_code 104 = .ok (.ldc2_w 62, 3) := by decide +kernel
theorem own_d1_107 : decode method_4_code 107 = .ok (.lastore, 1) := by decide +kernel
theorem own_d1_108 : decode method_4_code 108 = .ok (.dup, 1) := by decide +kernel
theorem own_d1_109 : decode method_4_code 109 = .ok (.bipush 16, 2) := by decide +kernel
theorem own_d1_111 : decode method_4_code 111 = .ok (.ldc2_w 64, 3) := by decide +kernel
theorem own_d1_114 : decode method_4_code 114 = .ok (.lastore, 1) := by decide +kernel
theorem own_d1_115 : decode method_4_code 115 = .ok (.dup, 1) := by decide +kernel
theorem own_d1_116 : decode method_4_code 116 = .ok (.bipush 17, 2) := by decide +kernel
theorem own_d1_118 : decode method_4_code 118 = .ok (.ldc2_w 66, 3) := by decide +kernel
theorem own_d1_121 : decode method_4_code 121 = .ok (.lastore, 1) := by decide +kernel
theorem own_d1_122 : decode method_4_code 122 = .ok (.dup, 1) := by decide +kernel
theorem own_d1_123 : decode method_4_code 123 = .ok (.bipush 18, 2) := by decide +kernel
theorem own_d1_125 : decode method_4_code 125 = .ok (.ldc2_w 68, 3) := by decide +kernel
theorem own_d1_128 : decode method_4_code 128 = .ok (.lastore, 1) := by decide +kernel
theorem own_d1_129 : decode method_4_code 129 = .ok (.astore_n 1, 1) := by decide +kernel
theorem own_d1_130 : decode method_4_code 130 = .ok (.aload_n 1, 1) := by decide +kernel
theorem own_d1_131 : decode method_4_code 131 = .ok (.iload_n 0, 1) := by decide +kernel
theorem own_d1_132 : decode method_4_code 132 = .ok (.laload, 1) := by decide +kernel
theorem own_d1_133 : decode method_4_code 133 = .ok (.lreturn, 1) := by decide +kernel
theorem own_pn1 : plainName "com/example/coverfold/coverfold/RationalPutFixedPinLaw" = true := by first | (simp [plainName, overriddenIn]; done) | decide +kernel
theorem own_efp10 (m : MethodId) (x : Int32) : entryFrame m #[(.int x)] 2 = mkF m 0 #[iv x, .unset] [] := by first | (simp [entryFrame, mkF, argsToLocals, Value.category]; done) | rfl
set_option maxRecDepth 65536 in
set_option maxHeartbeats 40000000 in
theorem own_rmp10 (l : Launch) (Z : State) (a0 : Array Value) (hw : ∀ d ∈ tables_1, d.before a0 Z = true) (x : Int32) (k : Nat) (h0 : Heap) (n0 : Nat) (Z0 : n0 ≤ h0.size) (hk : x.toInt = (k : Int)) (hk19 : k < 19) :
    own_Ct l Z (⟨"com/example/coverfold/coverfold/RationalPutFixedPinLaw", "pow10", "(I)J"⟩ : MethodName) method_4_code 2 (some .long) ({ frames := 0, cells := 1, slots := 19, locals := 0 } : Room) #[(.int x)] h0 (fun v h L => v = some (.long (own_p10 k)) ∧ Fr n0 L ∧ Keep h0 h []) := by
  refine own_body (y := (⟨"com/example/coverfold/coverfold/RationalPutFixedPinLaw", "pow10", "(I)J"⟩ : MethodName)) (Q := fun v h L => v = some (.long (own_p10 k)) ∧ Fr n0 L ∧ Keep h0 h []) (plainFor_of_name own_pn1) ?_
  intro p e s m below meth c s₁ Bd hml0 hZ e0
  have hx := Bd.exec
  have hby := Bd.bytes
  have hml : c.maxLocals = 2 := hml0
  have hown : s.vm.findClass "com/example/coverfold/coverfold/RationalPutFixedPinLaw" = some m.cls := findClass_of_methodNamed Bd.named
  have hnm := (name_of_methodNamed Bd.named Bd.method).1
  have X0 : Stand p l e ({ frames := 0, cells := 1, slots := 19, locals := 0 } : Room) s m #[(.int x)] below meth c s₁ [] 0 0 := Stand.of_body Bd
  have N0 := Fr.nil n0
  rw [own_efp10]
  have sg1 : own_V p e below s₁ (mkF m 2 #[iv x, .unset] [(.int (19 : Int32))]) (mkF m 0 #[iv x, .unset] []) := by
    intro t kt
    refine XS.bipush X0.here hx rfl (hb hby own_d1_0) ?_
    show own_S p e below s₁ m 2 #[iv x, .unset] [(.int (19 : Int32))] _
    exact kt
  refine own_st sg1 ?_
  obtain ⟨T2, h2, a2, g2, X2, e2, E2, A2, st2⟩ := own_newP (n := 19) X0 hx hZ (hw _ (List.mem_of_getElem? (i := 6) rfl)) e0 (by decide) rfl (g := (mkF m 2 #[iv x, .unset] [(.int (19 : Int32))])) rfl rfl (hb hby own_d1_2) (cap := 19) (by decide) (by decide) (by decide) (by decide)
  refine own_st st2 ?_
  have g_a2 : n0 ≤ a2 := by rw [g2]; exact Z0
  have Z2 : n0 ≤ h2.size := Nat.le_trans Z0 E2.1
  have B2 : own_AL Z h2 a2 19 (fun _ => 0) := A2
  show own_Go p e below _ T2 (mkF m 4 #[iv x, .unset] [(.ref a2)])
  have P0 : own_AL Z h2 a2 19 (own_pf 0) := B2.congr (fun i _ => own_pf0 i)
  have K0 : Keep h0 h2 [] := (Keep.refl h0 []).ext E2
  have sz : h0.size ≤ a2 := Nat.le_of_eq g2.symm
  have sg3 : own_V p e below T2 (mkF m 7 #[iv x, .unset] [(.long (1 : Int64)), (.int (0 : Int32)), (.ref a2), (.ref a2)]) (mkF m 4 #[iv x, .unset] [(.ref a2)]) := by
    intro t kt
    refine XS.dup X2.here hx rfl (hb hby own_d1_4) rfl rfl ?_
    show own_S p e below T2 m 5 #[iv x, .unset] [(.ref a2), (.ref a2)] _
    refine XS.iconst X2.here hx rfl (hb hby own_d1_5) ?_
    show own_S p e below T2 m 6 #[iv x, .unset] [(.int (0 : Int32)), (.ref a2), (.ref a2)] _
    refine XS.lconst X2.here hx rfl (hb hby own_d1_6) ?_
    show own_S p e below T2 m 7 #[iv x, .unset] [(.long (1 : Int64)), (.int (0 : Int32)), (.ref a2), (.ref a2)] _
    exact kt
  refine own_st sg3 ?_
  obtain ⟨T4, h4, X4, e4, W4, A4, st4⟩ := own_wrL X2 hx hZ e2 P0 (k := 0) (by decide) (by decide) (g := (mkF m 7 #[iv x, .unset] [(.long (1 : Int64)), (.int (0 : Int32)), (.ref a2), (.ref a2)])) rfl rfl (hb hby own_d1_7)
  refine own_st st4 ?_
  have Z4 : n0 ≤ h4.size := by rw [Wr.size W4]; exact Z2
  have N4 := Fr.snoc X4 N0 g_a2
  show own_Go p e below _ T4 (mkF m 8 #[iv x, .unset] [(.ref a2)])
  have P1 : own_AL Z h4 a2 19 (own_pf 1) := A4.congr (fun i _ => own_pf_next 0 _ (by decide) i)
  have K1001 : Keep h0 h4 [] := K0.wr W4 (Or.inr sz)
  have sg5 : own_V p e below T4 (mkF m 13 #[iv x, .unset] [(.long (10 : Int64)), (.int (1 : Int32)), (.ref a2), (.ref a2)]) (mkF m 8 #[iv x, .unset] [(.ref a2)]) := by
    intro t kt
    refine XS.dup X4.here hx rfl (hb hby own_d1_8) rfl rfl ?_
    show own_S p e below T4 m 9 #[iv x, .unset] [(.ref a2), (.ref a2)] _
    refine XS.iconst X4.here hx rfl (hb hby own_d1_9) ?_
    show own_S p e below T4 m 10 #[iv x, .unset] [(.int (1 : Int32)), (.ref a2), (.ref a2)] _
    refine X4.ldc2Long hx hown (mvT hZ (hw _ (List.mem_of_getElem? (i := 7) rfl))) (g := (mkF m 10 #[iv x, .unset] [(.int (1 : Int32)), (.ref a2), (.ref a2)])) rfl (hb hby own_d1_10) _ ?_
    show own_S p e below T4 m 13 #[iv x, .unset] [(.long (10 : Int64)), (.int (1 : Int32)), (.ref a2), (.ref a2)] _
    exact kt
  refine own_st sg5 ?_
  obtain ⟨T6, h6, X6, e6, W6, A6, st6⟩ := own_wrL X4 hx hZ e4 P1 (k := 1) (by decide) (by decide) (g := (mkF m 13 #[iv x, .unset] [(.long (10 : Int64)), (.int (1 : Int32)), (.ref a2), (.ref a2)])) rfl rfl (hb hby own_d1_13)
  refine own_st st6 ?_
  have Z6 : n0 ≤ h6.size := by rw [Wr.size W6]; exact Z4
  have N6 := Fr.snoc X6 N4 g_a2
  show own_Go p e below _ T6 (mkF m 14 #[iv x, .unset] [(.ref a2)])
  have P2 : own_AL Z h6 a2 19 (own_pf 2) := A6.congr (fun i _ => own_pf_next 1 _ (by decide) i)
  have K1002 : Keep h0 h6 [] := K1001.wr W6 (Or.inr sz)
  have sg7 : own_V p e below T6 (mkF m 19 #[iv x, .unset] [(.long (100 : Int64)), (.int (2 : Int32)), (.ref a2), (.ref a2)]) (mkF m 14 #[iv x, .unset] [(.ref a2)]) := by
    intro t kt
    refine XS.dup X6.here hx rfl (hb hby own_d1_14) rfl rfl ?_
    show own_S p e below T6 m 15 #[iv x, .unset] [(.ref a2), (.ref a2)] _
    refine XS.iconst X6.here hx rfl (hb hby own_d1_15) ?_
    show own_S p e below T6 m 16 #[iv x, .unset] [(.int (2 : Int32)), (.ref a2), (.ref a2)] _
    refine X6.ldc2Long hx hown (mvT hZ (hw _ (List.mem_of_getElem? (i := 8) rfl))) (g := (mkF m 16 #[iv x, .unset] [(.int (2 : Int32)), (.ref a2), (.ref a2)])) rfl (hb hby own_d1_16) _ ?_
    show own_S p e below T6 m 19 #[iv x, .unset] [(.long (100 : Int64)), (.int (2 : Int32)), (.ref a2), (.ref a2)] _
    exact kt
  refine own_st sg7 ?_
  obtain ⟨T8, h8, X8, e8, W8, A8, st8⟩ := own_wrL X6 hx hZ e6 P2 (k := 2) (by decide) (by decide) (g := (mkF m 19 #[iv x, .unset] [(.long (100 : Int64)), (.int (2 : Int32)), (.ref a2), (.ref a2)])) rfl rfl (hb hby own_d1_19)
  refine own_st st8 ?_
  have Z8 : n0 ≤ h8.size := by rw [Wr.size W8]; exact Z6
  have N8 := Fr.snoc X8 N6 g_a2
  show own_Go p e below _ T8 (mkF m 20 #[iv x, .unset] [(.ref a2)])
  have P3 : own_AL Z h8 a2 19 (own_pf 3) := A8.congr (fun i _ => own_pf_next 2 _ (by decide) i)
  have K1003 : Keep h0 h8 [] := K1002.wr W8 (Or.inr sz)
  have sg9 : own_V p e below T8 (mkF m 25 #[iv x, .unset] [(.long (1000 : Int64)), (.int (3 : Int32)), (.ref a2), (.ref a2)]) (mkF m 20 #[iv x, .unset] [(.ref a2)]) := by
    intro t kt
    refine XS.dup X8.here hx rfl (hb hby own_d1_20) rfl rfl ?_
    show own_S p e below T8 m 21 #[iv x, .unset] [(.ref a2), (.ref a2)] _
    refine XS.iconst X8.here hx rfl (hb hby own_d1_21) ?_
    show own_S p e below T8 m 22 #[iv x, .unset] [(.int (3 : Int32)), (.ref a2), (.ref a2)] _
    refine X8.ldc2Long hx hown (mvT hZ (hw _ (List.mem_of_getElem? (i := 9) rfl))) (g := (mkF m 22 #[iv x, .unset] [(.int (3 : Int32)), (.ref a2), (.ref a2)])) rfl (hb hby own_d1_22) _ ?_
    show own_S p e below T8 m 25 #[iv x, .unset] [(.long (1000 : Int64)), (.int (3 : Int32)), (.ref a2), (.ref a2)] _
    exact kt
  refine own_st sg9 ?_
  obtain ⟨T10, h10, X10, e10, W10, A10, st10⟩ := own_wrL X8 hx hZ e8 P3 (k := 3) (by decide) (by decide) (g := (mkF m 25 #[iv x, .unset] [(.long (1000 : Int64)), (.int (3 : Int32)), (.ref a2), (.ref a2)])) rfl rfl (hb hby own_d1_25)
  refine own_st st10 ?_
  have Z10 : n0 ≤ h10.size := by rw [Wr.size W10]; exact Z8
  have N10 := Fr.snoc X10 N8 g_a2
  show own_Go p e below _ T10 (mkF m 26 #[iv x, .unset] [(.ref a2)])
  have P4 : own_AL Z h10 a2 19 (own_pf 4) := A10.congr (fun i _ => own_pf_next 3 _ (by decide) i)
  have K1004 : Keep h0 h10 [] := K1003.wr W10 (Or.inr sz)
  have sg11 : own_V p e below T10 (mkF m 31 #[iv x, .unset] [(.long (10000 : Int64)), (.int (4 : Int32)), (.ref a2), (.ref a2)]) (mkF m 26 #[iv x, .unset] [(.ref a2)]) := by
    intro t kt
    refine XS.dup X10.here hx rfl (hb hby own_d1_26) rfl rfl ?_
    show own_S p e below T10 m 27 #[iv x, .unset] [(.ref a2), (.ref a2)] _
    refine XS.iconst X10.here hx rfl (hb hby own_d1_27) ?_
    show own_S p e below T10 m 28 #[iv x, .unset] [(.int (4 : Int32)), (.ref a2), (.ref a2)] _
    refine X10.ldc2Long hx hown (mvT hZ (hw _ (List.mem_of_getElem? (i := 10) rfl))) (g := (mkF m 28 #[iv x, .unset] [(.int (4 : Int32)), (.ref a2), (.ref a2)])) rfl (hb hby own_d1_28) _ ?_
    show own_S p e below T10 m 31 #[iv x, .unset] [(.long (10000 : Int64)), (.int (4 : Int32)), (.ref a2), (.ref a2)] _
    exact kt
  refine own_st sg11 ?_
  obtain ⟨T12, h12, X12, e12, W12, A12, st12⟩ := own_wrL X10 hx hZ e10 P4 (k := 4) (by decide) (by decide) (g := (mkF m 31 #[iv x, .unset] [(.long (10000 : Int64)), (.int (4 : Int32)), (.ref a2), (.ref a2)])) rfl rfl (hb hby own_d1_31)
  refine own_st st12 ?_
  have Z12 : n0 ≤ h12.size := by rw [Wr.size W12]; exact Z10
  have N12 := Fr.snoc X12 N10 g_a2
  show own_Go p e below _ T12 (mkF m 32 #[iv x, .unset] [(.ref a2)])
  have P5 : own_AL Z h12 a2 19 (own_pf 5) := A12.congr (fun i _ => own_pf_next 4 _ (by decide) i)
  have K1005 : Keep h0 h12 [] := K1004.wr W12 (Or.inr sz)
  have sg13 : own_V p e below T12 (mkF m 37 #[iv x, .unset] [(.long (100000 : Int64)), (.int (5 : Int32)), (.ref a2), (.ref a2)]) (mkF m 32 #[iv x, .unset] [(.ref a2)]) := by
    intro t kt
    refine XS.dup X12.here hx rfl (hb hby own_d1_32) rfl rfl ?_
    show own_S p e below T12 m 33 #[iv x, .unset] [(.ref a2), (.ref a2)] _
    refine XS.iconst X12.here hx rfl (hb hby own_d1_33) ?_
    show own_S p e below T12 m 34 #[iv x, .unset] [(.int (5 : Int32)), (.ref a2), (.ref a2)] _
    refine X12.ldc2Long hx hown (mvT hZ (hw _ (List.mem_of_getElem? (i := 11) rfl))) (g := (mkF m 34 #[iv x, .unset] [(.int (5 : Int32)), (.ref a2), (.ref a2)])) rfl (hb hby own_d1_34) _ ?_
    show own_S p e below T12 m 37 #[iv x, .unset] [(.long (100000 : Int64)), (.int (5 : Int32)), (.ref a2), (.ref a2)] _
    exact kt
  refine own_st sg13 ?_
  obtain ⟨T14, h14, X14, e14, W14, A14, st14⟩ := own_wrL X12 hx hZ e12 P5 (k := 5) (by decide) (by decide) (g := (mkF m 37 #[iv x, .unset] [(.long (100000 : Int64)), (.int (5 : Int32)), (.ref a2), (.ref a2)])) rfl rfl (hb hby own_d1_37)
  refine own_st st14 ?_
  have Z14 : n0 ≤ h14.size := by rw [Wr.size W14]; exact Z12
  have N14 := Fr.snoc X14 N12 g_a2
  show own_Go p e below _ T14 (mkF m 38 #[iv x, .unset] [(.ref a2)])
  have P6 : own_AL Z h14 a2 19 (own_pf 6) := A14.congr (fun i _ => own_pf_next 5 _ (by decide) i)
  have K1006 : Keep h0 h14 [] := K1005.wr W14 (Or.inr sz)
  have sg15 : own_V p e below T14 (mkF m 44 #[iv x, .unset] [(.long (1000000 : Int64)), (.int (6 : Int32)), (.ref a2), (.ref a2)]) (mkF m 38 #[iv x, .unset] [(.ref a2)]) := by
    intro t kt
    refine XS.dup X14.here hx rfl (hb hby own_d1_38) rfl rfl ?_
    show own_S p e below T14 m 39 #[iv x, .unset] [(.ref a2), (.ref a2)] _
    refine XS.bipush X14.here hx rfl (hb hby own_d1_39) ?_
    show own_S p e below T14 m 41 #[iv x, .unset] [(.int (6 : Int32)), (.ref a2), (.ref a2)] _
    refine X14.ldc2Long hx hown (mvT hZ (hw _ (List.mem_of_getElem? (i := 12) rfl))) (g := (mkF m 41 #[iv x, .unset] [(.int (6 : Int32)), (.ref a2), (.ref a2)])) rfl (hb hby own_d1_41) _ ?_
    show own_S p e below T14 m 44 #[iv x, .unset] [(.long (1000000 : Int64)), (.int (6 : Int32)), (.ref a2), (.ref a2)] _
    exact kt
  refine own_st sg15 ?_
  obtain ⟨T16, h16, X16, e16, W16, A16, st16⟩ := own_wrL X14 hx hZ e14 P6 (k := 6) (by decide) (by decide) (g := (mkF m 44 #[iv x, .unset] [(.long (1000000 : Int64)), (.int (6 : Int32)), (.ref a2), (.ref a2)])) rfl rfl (hb hby own_d1_44)
  refine own_st st16 ?_
  have Z16 : n0 ≤ h16.size := by rw [Wr.size W16]; exact Z14
  have N16 := Fr.snoc X16 N14 g_a2
  show own_Go p e below _ T16 (mkF m 45 #[iv x, .unset] [(.ref a2)])
  have P7 : own_AL Z h16 a2 19 (own_pf 7) := A16.congr (fun i _ => own_pf_next 6 _ (by decide) i)
  have K1007 : Keep h0 h16 [] := K1006.wr W16 (Or.inr sz)
  have sg17 : own_V p e below T16 (mkF m 51 #[iv x, .unset] [(.long (10000000 : Int64)), (.int (7 : Int32)), (.ref a2), (.ref a2)]) (mkF m 45 #[iv x, .unset] [(.ref a2)]) := by
    intro t kt
    refine XS.dup X16.here hx rfl (hb hby own_d1_45) rfl rfl ?_
    show own_S p e below T16 m 46 #[iv x, .unset] [(.ref a2), (.ref a2)] _
    refine XS.bipush X16.here hx rfl (hb hby own_d1_46) ?_
    show own_S p e below T16 m 48 #[iv x, .unset] [(.int (7 : Int32)), (.ref a2), (.ref a2)] _
    refine X16.ldc2Long hx hown (mvT hZ (hw _ (List.mem_of_getElem? (i := 13) rfl))) (g := (mkF m 48 #[iv x, .unset] [(.int (7 : Int32)), (.ref a2), (.ref a2)])) rfl (hb hby own_d1_48) _ ?_
    show own_S p e below T16 m 51 #[iv x, .unset] [(.long (10000000 : Int64)), (.int (7 : Int32)), (.ref a2), (.ref a2)] _
    exact kt
  refine own_st sg17 ?_
  obtain ⟨T18, h18, X18, e18, W18, A18, st18⟩ := own_wrL X16 hx hZ e16 P7 (k := 7) (by decide) (by decide) (g := (mkF m 51 #[iv x, .unset] [(.long (10000000 : Int64)), (.int (7 : Int32)), (.ref a2), (.ref a2)])) rfl rfl (hb hby own_d1_51)
  refine own_st st18 ?_
  have Z18 : n0 ≤ h18.size := by rw [Wr.size W18]; exact Z16
  have N18 := Fr.snoc X18 N16 g_a2
  show own_Go p e below _ T18 (mkF m 52 #[iv x, .unset] [(.ref a2)])
  have P8 : own_AL Z h18 a2 19 (own_pf 8) := A18.congr (fun i _ => own_pf_next 7 _ (by decide) i)
  have K1008 : Keep h0 h18 [] := K1007.wr W18 (Or.inr sz)
  have sg19 : own_V p e below T18 (mkF m 58 #[iv x, .unset] [(.long (100000000 : Int64)), (.int (8 : Int32)), (.ref a2), (.ref a2)]) (mkF m 52 #[iv x, .unset] [(.ref a2)]) := by
    intro t kt
    refine XS.dup X18.here hx rfl (hb hby own_d1_52) rfl rfl ?_
    show own_S p e below T18 m 53 #[iv x, .unset] [(.ref a2), (.ref a2)] _
    refine XS.bipush X18.here hx rfl (hb hby own_d1_53) ?_
    show own_S p e below T18 m 55 #[iv x, .unset] [(.int (8 : Int32)), (.ref a2), (.ref a2)] _
    refine X18.ldc2Long hx hown (mvT hZ (hw _ (List.mem_of_getElem? (i := 14) rfl))) (g := (mkF m 55 #[iv x, .unset] [(.int (8 : Int32)), (.ref a2), (.ref a2)])) rfl (hb hby own_d1_55) _ ?_
    show own_S p e below T18 m 58 #[iv x, .unset] [(.long (100000000 : Int64)), (.int (8 : Int32)), (.ref a2), (.ref a2)] _
    exact kt
  refine own_st sg19 ?_
  obtain ⟨T20, h20, X20, e20, W20, A20, st20⟩ := own_wrL X18 hx hZ e18 P8 (k := 8) (by decide) (by decide) (g := (mkF m 58 #[iv x, .unset] [(.long (100000000 : Int64)), (.int (8 : Int32)), (.ref a2), (.ref a2)])) rfl rfl (hb hby own_d1_58)
  refine own_st st20 ?_
  have Z20 : n0 ≤ h20.size := by rw [Wr.size W20]; exact Z18
  have N20 := Fr.snoc X20 N18 g_a2
  show own_Go p e below _ T20 (mkF m 59 #[iv x, .unset] [(.ref a2)])
  have P9 : own_AL Z h20 a2 19 (own_pf 9) := A20.congr (fun i _ => own_pf_next 8 _ (by decide) i)
  have K1009 : Keep h0 h20 [] := K1008.wr W20 (Or.inr sz)
  have sg21 : own_V p e below T20 (mkF m 65 #[iv x, .unset] [(.long (1000000000 : Int64)), (.int (9 : Int32)), (.ref a2), (.ref a2)]) (mkF m 59 #[iv x, .unset] [(.ref a2)]) := by
    intro t kt
    refine XS.dup X20.here hx rfl (hb hby own_d1_59) rfl rfl ?_
    show own_S p e below T20 m 60 #[iv x, .unset] [(.ref a2), (.ref a2)] _
    refine XS.bipush X20.here hx rfl (hb hby own_d1_60) ?_
    show own_S p e below T20 m 62 #[iv x, .unset] [(.int (9 : Int32)), (.ref a2), (.ref a2)] _
    refine X20.ldc2Long hx hown (mvT hZ (hw _ (List.mem_of_getElem? (i := 15) rfl))) (g := (mkF m 62 #[iv x, .unset] [(.int (9 : Int32)), (.ref a2), (.ref a2)])) rfl (hb hby own_d1_62) _ ?_
    show own_S p e below T20 m 65 #[iv x, .unset] [(.long (1000000000 : Int64)), (.int (9 : Int32)), (.ref a2), (.ref a2)] _
    exact kt
  refine own_st sg21 ?_
  obtain ⟨T22, h22, X22, e22, W22, A22, st22⟩ := own_wrL X20 hx hZ e20 P9 (k := 9) (by decide) (by decide) (g := (mkF m 65 #[iv x, .unset] [(.long (1000000000 : Int64)), (.int (9 : Int32)), (.ref a2), (.ref a2)])) rfl rfl (hb hby own_d1_65)
  refine own_st st22 ?_
  have Z22 : n0 ≤ h22.size := by rw [Wr.size W22]; exact Z20
  have N22 := Fr.snoc X22 N20 g_a2
  show own_Go p e below _ T22 (mkF m 66 #[iv x, .unset] [(.ref a2)])
  have P10 : own_AL Z h22 a2 19 (own_pf 10) := A22.congr (fun i _ => own_pf_next 9 _ (by decide) i)
  have K1010 : Keep h0 h22 [] := K1009.wr W22 (Or.inr sz)
  have sg23 : own_V p e below T22 (mkF m 72 #[iv x, .unset] [(.long (10000000000 : Int64)), (.int (10 : Int32)), (.ref a2), (.ref a2)]) (mkF m 66 #[iv x, .unset] [(.ref a2)]) := by
    intro t kt
    refine XS.dup X22.here hx rfl (hb hby own_d1_66) rfl rfl ?_
    show own_S p e below T22 m 67 #[iv x, .unset] [(.ref a2), (.ref a2)] _
    refine XS.bipush X22.here hx rfl (hb hby own_d1_67) ?_
    show own_S p e below T22 m 69 #[iv x, .unset] [(.int (10 : Int32)), (.ref a2), (.ref a2)] _
    refine X22.ldc2Long hx hown (mvT hZ (hw _ (List.mem_of_getElem? (i := 16) rfl))) (g := (mkF m 69 #[iv x, .unset] [(.int (10 : Int32)), (.ref a2), (.ref a2)])) rfl (hb hby own_d1_69) _ ?_
    show own_S p e below T22 m 72 #[iv x, .unset] [(.long (10000000000 : Int64)), (.int (10 : Int32)), (.ref a2), (.ref a2)] _
    exact kt
  refine own_st sg23 ?_
  obtain ⟨T24, h24, X24, e24, W24, A24, st24⟩ := own_wrL X22 hx hZ e22 P10 (k := 10) (by decide) (by decide) (g := (mkF m 72 #[iv x, .unset] [(.long (10000000000 : Int64)), (.int (10 : Int32)), (.ref a2), (.ref a2)])) rfl rfl (hb hby own_d1_72)
  refine own_st st24 ?_
  have Z24 : n0 ≤ h24.size := by rw [Wr.size W24]; exact Z22
  have N24 := Fr.snoc X24 N22 g_a2
  show own_Go p e below _ T24 (mkF m 73 #[iv x, .unset] [(.ref a2)])
  have P11 : own_AL Z h24 a2 19 (own_pf 11) := A24.congr (fun i _ => own_pf_next 10 _ (by decide) i)
  have K1011 : Keep h0 h24 [] := K1010.wr W24 (Or.inr sz)
  have sg25 : own_V p e below T24 (mkF m 79 #[iv x, .unset] [(.long (100000000000 : Int64)), (.int (11 : Int32)), (.ref a2), (.ref a2)]) (mkF m 73 #[iv x, .unset] [(.ref a2)]) := by
    intro t kt
    refine XS.dup X24.here hx rfl (hb hby own_d1_73) rfl rfl ?_
    show own_S p e below T24 m 74 #[iv x, .unset] [(.ref a2), (.ref a2)] _
    refine XS.bipush X24.here hx rfl (hb hby own_d1_74) ?_
    show own_S p e below T24 m 76 #[iv x, .unset] [(.int (11 : Int32)), (.ref a2), (.ref a2)] _
    refine X24.ldc2Long hx hown (mvT hZ (hw _ (List.mem_of_getElem? (i := 17) rfl))) (g := (mkF m 76 #[iv x, .unset] [(.int (11 : Int32)), (.ref a2), (.ref a2)])) rfl (hb hby own_d1_76) _ ?_
    show own_S p e below T24 m 79 #[iv x, .unset] [(.long (100000000000 : Int64)), (.int (11 : Int32)), (.ref a2), (.ref a2)] _
    exact kt
  refine own_st sg25 ?_
  obtain ⟨T26, h26, X26, e26, W26, A26, st26⟩ := own_wrL X24 hx hZ e24 P11 (k := 11) (by decide) (by decide) (g := (mkF m 79 #[iv x, .unset] [(.long (100000000000 : Int64)), (.int (11 : Int32)), (.ref a2), (.ref a2)])) rfl rfl (hb hby own_d1_79)
  refine own_st st26 ?_
  have Z26 : n0 ≤ h26.size := by rw [Wr.size W26]; exact Z24
  have N26 := Fr.snoc X26 N24 g_a2
  show own_Go p e below _ T26 (mkF m 80 #[iv x, .unset] [(.ref a2)])
  have P12 : own_AL Z h26 a2 19 (own_pf 12) := A26.congr (fun i _ => own_pf_next 11 _ (by decide) i)
  have K1012 : Keep h0 h26 [] := K1011.wr W26 (Or.inr sz)
  have sg27 : own_V p e below T26 (mkF m 86 #[iv x, .unset] [(.long (1000000000000 : Int64)), (.int (12 : Int32)), (.ref a2), (.ref a2)]) (mkF m 80 #[iv x, .unset] [(.ref a2)]) := by
    intro t kt
    refine XS.dup X26.here hx rfl (hb hby own_d1_80) rfl rfl ?_
    show own_S p e below T26 m 81 #[iv x, .unset] [(.ref a2), (.ref a2)] _
    refine XS.bipush X26.here hx rfl (hb hby own_d1_81) ?_
    show own_S p e below T26 m 83 #[iv x, .unset] [(.int (12 : Int32)), (.ref a2), (.ref a2)] _
    refine X26.ldc2Long hx hown (mvT hZ (hw _ (List.mem_of_getElem? (i := 18) rfl))) (g := (mkF m 83 #[iv x, .unset] [(.int (12 : Int32)), (.ref a2), (.ref a2)])) rfl (hb hby own_d1_83) _ ?_
    show own_S p e below T26 m 86 #[iv x, .unset] [(.long (1000000000000 : Int64)), (.int (12 : Int32)), (.ref a2), (.ref a2)] _
    exact kt
  refine own_st sg27 ?_
  obtain ⟨T28, h28, X28, e28, W28, A28, st28⟩ := own_wrL X26 hx hZ e26 P12 (k := 12) (by decide) (by decide) (g := (mkF m 86 #[iv x, .unset] [(.long (1000000000000 : Int64)), (.int (12 : Int32)), (.ref a2), (.ref a2)])) rfl rfl (hb hby own_d1_86)
  refine own_st st28 ?_
  have Z28 : n0 ≤ h28.size := by rw [Wr.size W28]; exact Z26
  have N28 := Fr.snoc X28 N26 g_a2
  show own_Go p e below _ T28 (mkF m 87 #[iv x, .unset] [(.ref a2)])
  have P13 : own_AL Z h28 a2 19 (own_pf 13) := A28.congr (fun i _ => own_pf_next 12 _ (by decide) i)
  have K1013 : Keep h0 h28 [] := K1012.wr W28 (Or.inr sz)
  have sg29 : own_V p e below T28 (mkF m 93 #[iv x, .unset] [(.long (10000000000000 : Int64)), (.int (13 : Int32)), (.ref a2), (.ref a2)]) (mkF m 87 #[iv x, .unset] [(.ref a2)]) := by
    intro t kt
    refine XS.dup X28.here hx rfl (hb hby own_d1_87) rfl rfl ?_
    show own_S p e below T28 m 88 #[iv x, .unset] [(.ref a2), (.ref a2)] _
    refine XS.bipush X28.here hx rfl (hb hby own_d1_88) ?_
    show own_S p e below T28 m 90 #[iv x, .unset] [(.int (13 : Int32)), (.ref a2), (.ref a2)] _
    refine X28.ldc2Long hx hown (mvT hZ (hw _ (List.mem_of_getElem? (i := 19) rfl))) (g := (mkF m 90 #[iv x, .unset] [(.int (13 : Int32)), (.ref a2), (.ref a2)])) rfl (hb hby own_d1_90) _ ?_
    show own_S p e below T28 m 93 #[iv x, .unset] [(.long (10000000000000 : Int64)), (.int (13 : Int32)), (.ref a2), (.ref a2)] _
    exact kt
  refine own_st sg29 ?_
  obtain ⟨T30, h30, X30, e30, W30, A30, st30⟩ := own_wrL X28 hx hZ e28 P13 (k := 13) (by decide) (by decide) (g := (mkF m 93 #[iv x, .unset] [(.long (10000000000000 : Int64)), (.int (13 : Int32)), (.ref a2), (.ref a2)])) rfl rfl (hb hby own_d1_93)
  refine own_st st30 ?_
  have Z30 : n0 ≤ h30.size := by rw [Wr.size W30]; exact Z28
  have N30 := Fr.snoc X30 N28 g_a2
  show own_Go p e below _ T30 (mkF m 94 #[iv x, .unset] [(.ref a2)])
  have P14 : own_AL Z h30 a2 19 (own_pf 14) := A30.congr (fun i _ => own_pf_next 13 _ (by decide) i)
  have K1014 : Keep h0 h30 [] := K1013.wr W30 (Or.inr sz)
  have sg31 : own_V p e below T30 (mkF m 100 #[iv x, .unset] [(.long (100000000000000 : Int64)), (.int (14 : Int32)), (.ref a2), (.ref a2)]) (mkF m 94 #[iv x, .unset] [(.ref a2)]) := by
    intro t kt
    refine XS.dup X30.here hx rfl (hb hby own_d1_94) rfl rfl ?_
    show own_S p e below T30 m 95 #[iv x, .unset] [(.ref a2), (.ref a2)] _
    refine XS.bipush X30.here hx rfl (hb hby own_d1_95) ?_
    show own_S p e below T30 m 97 #[iv x, .unset] [(.int (14 : Int32)), (.ref a2), (.ref a2)] _
    refine X30.ldc2Long hx hown (mvT hZ (hw _ (List.mem_of_getElem? (i := 20) rfl))) (g := (mkF m 97 #[iv x, .unset] [(.int (14 : Int32)), (.ref a2), (.ref a2)])) rfl (hb hby own_d1_97) _ ?_
    show own_S p e below T30 m 100 #[iv x, .unset] [(.long (100000000000000 : Int64)), (.int (14 : Int32)), (.ref a2), (.ref a2)] _
    exact kt
  refine own_st sg31 ?_
  obtain ⟨T32, h32, X32, e32, W32, A32, st32⟩ := own_wrL X30 hx hZ e30 P14 (k := 14) (by decide) (by decide) (g := (mkF m 100 #[iv x, .unset] [(.long (100000000000000 : Int64)), (.int (14 : Int32)), (.ref a2), (.ref a2)])) rfl rfl (hb hby own_d1_100)
  refine own_st st32 ?_
  have Z32 : n0 ≤ h32.size := by rw [Wr.size W32]; exact Z30
  have N32 := Fr.snoc X32 N30 g_a2
  show own_Go p e below _ T32 (mkF m 101 #[iv x, .unset] [(.ref a2)])
  have P15 : own_AL Z h32 a2 19 (own_pf 15) := A32.congr (fun i _ => own_pf_next 14 _ (by decide) i)
  have K1015 : Keep h0 h32 [] := K1014.wr W32 (Or.inr sz)
  have sg33 : own_V p e below T32 (mkF m 107 #[iv x, .unset] [(.long (1000000000000000 : Int64)), (.int (15 : Int32)), (.ref a2), (.ref a2)]) (mkF m 101 #[iv x, .unset] [(.ref a2)]) := by
    intro t kt
    refine XS.dup X32.here hx rfl (hb hby own_d1_101) rfl rfl ?_
    show own_S p e below T32 m 102 #[iv x, .unset] [(.ref a2), (.ref a2)] _
    refine XS.bipush X32.here hx rfl (hb hby own_d1_102) ?_
    show own_S p e below T32 m 104 #[iv x, .unset] [(.int (15 : Int32)), (.ref a2), (.ref a2)] _
    refine X32.ldc2Long hx hown (mvT hZ (hw _ (List.mem_of_getElem? (i := 21) rfl))) (g := (mkF m 104 #[iv x, .unset] [(.int (15 : Int32)), (.ref a2), (.ref a2)])) rfl (hb hby own_d1_104) _ ?_
    show own_S p e below T32 m 107 #[iv x, .unset] [(.long (1000000000000000 : Int64)), (.int (15 : Int32)), (.ref a2), (.ref a2)] _
    exact kt
  refine own_st sg33 ?_
  obtain ⟨T34, h34, X34, e34, W34, A34, st34⟩ := own_wrL X32 hx hZ e32 P15 (k := 15) (by decide) (by decide) (g := (mkF m 107 #[iv x, .unset] [(.long (1000000000000000 : Int64)), (.int (15 : Int32)), (.ref a2), (.ref a2)])) rfl rfl (hb hby own_d1_107)
  refine own_st st34 ?_
  have Z34 : n0 ≤ h34.size := by rw [Wr.size W34]; exact Z32
  have N34 := Fr.snoc X34 N32 g_a2
  show own_Go p e below _ T34 (mkF m 108 #[iv x, .unset] [(.ref a2)])
  have P16 : own_AL Z h34 a2 19 (own_pf 16) := A34.congr (fun i _ => own_pf_next 15 _ (by decide) i)
  have K1016 : Keep h0 h34 [] := K1015.wr W34 (Or.inr sz)
  have sg35 : own_V p e below T34 (mkF m 114 #[iv x, .unset] [(.long (10000000000000000 : Int64)), (.int (16 : Int32)), (.ref a2), (.ref a2)]) (mkF m 108 #[iv x, .unset] [(.ref a2)]) := by
    intro t kt
    refine XS.dup X34.here hx rfl (hb hby own_d1_108) rfl rfl ?_
    show own_S p e below T34 m 109 #[iv x, .unset] [(.ref a2), (.ref a2)] _
    refine XS.bipush X34.here hx rfl (hb hby own_d1_109) ?_
    show own_S p e below T34 m 111 #[iv x, .unset] [(.int (16 : Int32)), (.ref a2), (.ref a2)] _
    refine X34.ldc2Long hx hown (mvT hZ (hw _ (List.mem_of_getElem? (i := 22) rfl))) (g := (mkF m 111 #[iv x, .unset] [(.int (16 : Int32)), (.ref a2), (.ref a2)])) rfl (hb hby own_d1_111) _ ?_
    show own_S p e below T34 m 114 #[iv x, .unset] [(.long (10000000000000000 : Int64)), (.int (16 : Int32)), (.ref a2), (.ref a2)] _
    exact kt
  refine own_st sg35 ?_
  obtain ⟨T36, h36, X36, e36, W36, A36, st36⟩ := own_wrL X34 hx hZ e34 P16 (k := 16) (by decide) (by decide) (g := (mkF m 114 #[iv x, .unset] [(.long (10000000000000000 : Int64)), (.int (16 : Int32)), (.ref a2), (.ref a2)])) rfl rfl (hb hby own_d1_114)
  refine own_st st36 ?_
  have Z36 : n0 ≤ h36.size := by rw [Wr.size W36]; exact Z34
  have N36 := Fr.snoc X36 N34 g_a2
  show own_Go p e below _ T36 (mkF m 115 #[iv x, .unset] [(.ref a2)])
  have P17 : own_AL Z h36 a2 19 (own_pf 17) := A36.congr (fun i _ => own_pf_next 16 _ (by decide) i)
  have K1017 : Keep h0 h36 [] := K1016.wr W36 (Or.inr sz)
  have sg37 : own_V p e below T36 (mkF m 121 #[iv x, .unset] [(.long (100000000000000000 : Int64)), (.int (17 : Int32)), (.ref a2), (.ref a2)]) (mkF m 115 #[iv x, .unset] [(.ref a2)]) := by
    intro t kt
    refine XS.dup X36.here hx rfl (hb hby own_d1_115) rfl rfl ?_
    show own_S p e below T36 m 116 #[iv x, .unset] [(.ref a2), (.ref a2)] _
    refine XS.bipush X36.here hx rfl (hb hby own_d1_116) ?_
    show own_S p e below T36 m 118 #[iv x, .unset] [(.int (17 : Int32)), (.ref a2), (.ref a2)] _
    refine X36.ldc2Long hx hown (mvT hZ (hw _ (List.mem_of_getElem? (i := 23) rfl))) (g := (mkF m 118 #[iv x, .unset] [(.int (17 : Int32)), (.ref a2), (.ref a2)])) rfl (hb hby own_d1_118) _ ?_
    show own_S p e below T36 m 121 #[iv x, .unset] [(.long (100000000000000000 : Int64)), (.int (17 : Int32)), (.ref a2), (.ref a2)] _
    exact kt
  refine own_st sg37 ?_
  obtain ⟨T38, h38, X38, e38, W38, A38, st38⟩ := own_wrL X36 hx hZ e36 P17 (k := 17) (by decide) (by decide) (g := (mkF m 121 #[iv x, .unset] [(.long (100000000000000000 : Int64)), (.int (17 : Int32)), (.ref a2), (.ref a2)])) rfl rfl (hb hby own_d1_121)
  refine own_st st38 ?_
  have Z38 : n0 ≤ h38.size := by rw [Wr.size W38]; exact Z36
  have N38 := Fr.snoc X38 N36 g_a2
  show own_Go p e below _ T38 (mkF m 122 #[iv x, .unset] [(.ref a2)])
  have P18 : own_AL Z h38 a2 19 (own_pf 18) := A38.congr (fun i _ => own_pf_next 17 _ (by decide) i)
  have K1018 : Keep h0 h38 [] := K1017.wr W38 (Or.inr sz)
  have sg39 : own_V p e below T38 (mkF m 128 #[iv x, .unset] [(.long (1000000000000000000 : Int64)), (.int (18 : Int32)), (.ref a2), (.ref a2)]) (mkF m 122 #[iv x, .unset] [(.ref a2)]) := by
    intro t kt
    refine XS.dup X38.here hx rfl (hb hby own_d1_122) rfl rfl ?_
    show own_S p e below T38 m 123 #[iv x, .unset] [(.ref a2), (.ref a2)] _
    refine XS.bipush X38.here hx rfl (hb hby own_d1_123) ?_
    show own_S p e below T38 m 125 #[iv x, .unset] [(.int (18 : Int32)), (.ref a2), (.ref a2)] _
    refine X38.ldc2Long hx hown (mvT hZ (hw _ (List.mem_of_getElem? (i := 24) rfl))) (g := (mkF m 125 #[iv x, .unset] [(.int (18 : Int32)), (.ref a2), (.ref a2)])) rfl (hb hby own_d1_125) _ ?_
    show own_S p e below T38 m 128 #[iv x, .unset] [(.long (1000000000000000000 : Int64)), (.int (18 : Int32)), (.ref a2), (.ref a2)] _
    exact kt
  refine own_st sg39 ?_
  obtain ⟨T40, h40, X40, e40, W40, A40, st40⟩ := own_wrL X38 hx hZ e38 P18 (k := 18) (by decide) (by decide) (g := (mkF m 128 #[iv x, .unset] [(.long (1000000000000000000 : Int64)), (.int (18 : Int32)), (.ref a2), (.ref a2)])) rfl rfl (hb hby own_d1_128)
  refine own_st st40 ?_
  have Z40 : n0 ≤ h40.size := by rw [Wr.size W40]; exact Z38
  have N40 := Fr.snoc X40 N38 g_a2
  show own_Go p e below _ T40 (mkF m 129 #[iv x, .unset] [(.ref a2)])
  have P19 : own_AL Z h40 a2 19 (own_pf 19) := A40.congr (fun i _ => own_pf_next 18 _ (by decide) i)
  have K1019 : Keep h0 h40 [] := K1018.wr W40 (Or.inr sz)
  have sg41 : own_V p e below T40 (mkF m 133 #[iv x, rv a2] [(.long (own_pf 19 k))]) (mkF m 129 #[iv x, .unset] [(.ref a2)]) := by
    intro t kt
    refine XS.astoreN X40.here hx rfl (hb hby own_d1_129) rfl rfl (l' := #[iv x, rv a2]) rfl ?_
    show own_S p e below T40 m 130 #[iv x, rv a2] [] _
    refine XS.aloadN X40.here hx rfl (hb hby own_d1_130) rfl rfl ?_
    show own_S p e below T40 m 131 #[iv x, rv a2] [(.ref a2)] _
    refine XS.iloadN X40.here hx rfl (hb hby own_d1_131) rfl ?_
    show own_S p e below T40 m 132 #[iv x, rv a2] [(.int x), (.ref a2)] _
    refine own_rdL X40 hx hZ e40 P19 hk hk19 (g := (mkF m 132 #[iv x, rv a2] [(.int x), (.ref a2)])) rfl rfl (hb hby own_d1_132) _ ?_
    show own_S p e below T40 m 133 #[iv x, rv a2] [(.long (own_pf 19 k))] _
    exact kt
  refine own_st sg41 ?_
  exact own_retJ X40 hx Bd.notSynchronized Bd.returns (hb hby own_d1_133) (by decide) (by decide) e40 ⟨by rw [own_pf_at k hk19], N40, K1019⟩
theorem own_d3_0 : decode method_5_code 0 = .ok (.lload_n 0, 1) := by decide +kernel
theorem own_d3_1 : decode method_5_code 1 = .ok (.ldc2_w 68, 3) := by decide +kernel
theorem own_d3_4 : decode method_5_code 4 = .ok (.lcmp, 1) := by decide +kernel
theorem own_d3_5 : decode method_5_code 5 = .ok (.ifCond .lt 6, 3) := by decide +kernel
theorem own_d3_8 : decode method_5_code 8 = .ok (.bipush 19, 2) := by decide +kernel
theorem own_d3_10 : decode method_5_code 10 = .ok (.ireturn, 1) := by decide +kernel
theorem own_d3_11 : decode method_5_code 11 = .ok (.lload_n 0, 1) := by decide +kernel
theorem own_d3_12 : decode method_5_code 12 = .ok (.ldc2_w 66, 3) := by decide +kernel
theorem own_d3_15 : decode method_5_code 15 = .ok (.lcmp, 1) := by decide +kernel
theorem own_d3_16 : decode method_5_code 16 = .ok (.ifCond .lt 6, 3) := by decide +kernel
theorem own_d3_19 : decode method_5_code 19 = .ok (.bipush 18, 2) := by decide +kernel
theorem own_d3_21 : decode method_5_code 21 = .ok (.ireturn, 1) := by decide +kernel
theorem own_d3_22 : decode method_5_code 22 = .ok (.lload_n 0, 1) := by decide +kernel
theorem own_d3_23 : decode method_5_code 23 = .ok (.ldc2_w 64, 3) := by decide +kernel
theorem own_d3_26 : decode method_5_code 26 = .ok (.lcmp, 1) := by decide +kernel
theorem own_d3_27 : decode method_5_code 27 = .ok (.ifCond .lt 6, 3) := by decide +kernel
theorem own_d3_30 : decode method_5_code 30 = .ok (.bipush 17, 2) := by decide +kernel
theorem own_d3_32 : decode method_5_code 32 = .ok (.ireturn, 1) := by decide +kernel
theorem own_d3_33 : decode method_5_code 33 = .ok (.lload_n 0, 1) := by decide +kernel
theorem own_d3_34 : decode method_5_code 34 = .ok (.ldc2_w 62, 3) := by decide +kernel
theorem own_d3_37 : decode method_5_code 37 = .ok (.lcmp, 1) := by decide +kernel
theorem own_d3_38 : decode method_5_code 38 = .ok (.ifCond .lt 6, 3) := by decide +kernel
theorem own_d3_41 : decode method_5_code 41 = .ok (.bipush 16, 2) := by decide +kernel
theorem own_d3_43 : decode method_5_code 43 = .ok (.ireturn, 1) := by decide +kernel
theorem own_d3_44 : decode method_5_code 44 = .ok (.lload_n 0, 1) := by decide +kernel
theorem own_d3_45 : decode method_5_code 45 = .ok (.ldc2_w 60, 3) := by decide +kernel
theorem own_d3_48 : decode method_5_code 48 = .ok (.lcmp, 1) := by decide +kernel
theorem own_d3_49 : decode method_5_code 49 = .ok (.ifCond .lt 6, 3) := by decide +kernel
theorem own_d3_52 : decode method_5_code 52 = .ok (.bipush 15, 2) := by decide +kernel
theorem own_d3_54 : decode method_5_code 54 = .ok (.ireturn, 1) := by decide +kernel
theorem own_d3_55 : decode method_5_code 55 = .ok (.lload_n 0, 1) := by decide +kernel
theorem own_d3_56 : decode method_5_code 56 = .ok (.ldc2_w 58, 3) := by decide +kernel
theorem own_d3_59 : decode method_5_code 59 = .ok (.lcmp, 1) := by decide +kernel
theorem own_d3_60 : decode method_5_code 60 = .ok (.ifCond .lt 6, 3) := by decide +kernel
theorem own_d3_63 : decode method_5_code 63 = .ok (.bipush 14, 2) := by decide +kernel
theorem own_d3_65 : decode method_5_code 65 = .ok (.ireturn, 1) := by decide +kernel
theorem own_d3_66 : decode method_5_code 66 = .ok (.lload_n 0, 1) := by decide +kernel
theorem own_d3_67 : decode method_5_code 67 = .ok (.ldc2_w 56, 3) := by decide +kernel
theorem own_d3_70 : decode method_5_code 70 = .ok (.lcmp, 1) := by decide +kernel
theorem own_d3_71 : decode method_5_code 71 = .ok (.ifCond .lt 6, 3) := by decide +kernel
theorem own_d3_74 : decode method_5_code 74 = .ok (.bipush 13, 2) := by decide +kernel
theorem own_d3_76 : decode method_5_code 76 = .ok (.ireturn, 1) := by decide +kernel
theorem own_d3_77 : decode method_5_code 77 = .ok (.lload_n 0, 1) := by decide +kernel
theorem own_d3_78 : decode method_5_code 78 = .ok (.ldc2_w 54, 3) := by decide +kernel
theorem own_d3_81 : decode method_5_code 81 = .ok (.lcmp, 1) := by decide +kernel
theorem own_d3_82 : decode method_5_code 82 = .ok (.ifCond .lt 6, 3) := by decide +kernel
theorem own_d3_85 : decode method_5_code 85 = .ok (.bipush 12, 2) := by decide +kernel
theorem own_d3_87 : decode method_5_code 87 = .ok (.ireturn, 1) := by decide +kernel
theorem own_d3_88 : decode method_5_code 88 = .ok (.lload_n 0, 1) := by decide +kernel
theorem own_d3_89 : decode method_5_code 89 = .ok (.ldc2_w 52, 3) := by decide +kernel
theorem own_d3_92 : decode method_5_code 92 = .ok (.lcmp, 1) := by decide +kernel
theorem own_d3_93 : decode method_5_code 93 = .ok (.ifCond .lt 6, 3) := by decide +kernel
theorem own_d3_96 : decode method_5_code 96 = .ok (.bipush 11, 2) := by decide +kernel
theorem own_d3_98 : decode method_5_code 98 = .ok (.ireturn, 1) := by decide +kernel
theorem own_d3_99 : decode method_5_code 99 = .ok (.lload_n 0, 1) := by decide +kernel
theorem own_d3_100 : decode method_5_code 100 = .ok (.ldc2_w 50, 3) := by decide +kernel
theorem own_d3_103 : decode method_5_code 103 = .ok (.lcmp, 1) := by decide +kernel
theorem own_d3_104 : decode method_5_code 104 = .ok (.ifCond .lt 6, 3) := by decide +kernel
theorem own_d3_107 : decode method_5_code 107 = .ok (.bipush 10, 2) := by decide +kernel
theorem own_d3_109 : decode method_5_code 109 = .ok (.ireturn, 1) := by decide +kernel
theorem own_d3_110 : decode method_5_code 110 = .ok (.lload_n 0, 1) := by decide +kernel
theorem own_d3_111 : decode method_5_code 111 = .ok (.ldc2_w 48, 3) := by decide +kernel
theorem own_d3_114 : decode method_5_code 114 = .ok (.lcmp, 1) := by decide +kernel
theorem own_d3_115 : decode method_5_code 115 = .ok (.ifCond .lt 6, 3) := by decide +kernel
theorem own_d3_118 : decode method_5_code 118 = .ok (.bipush 9, 2) := by decide +kernel
theorem own_d3_120 : decode method_5_code 120 = .ok (.ireturn, 1) := by decide +kernel
theorem own_d3_121 : decode method_5_code 121 = .ok (.lload_n 0, 1) := by decide +kernel
theorem own_d3_122 : decode method_5_code 122 = .ok (.ldc2_w 46, 3) := by decide +kernel
theorem own_d3_125 : decode method_5_code 125 = .ok (.lcmp, 1) := by decide +kernel
theorem own_d3_126 : decode method_5_code 126 = .ok (.ifCond .lt 6, 3) := by decide +kernel
theorem own_d3_129 : decode method_5_code 129 = .ok (.bipush 8, 2) := by decide +kernel
theorem own_d3_131 : decode method_5_code 131 = .ok (.ireturn, 1) := by decide +kernel
theorem own_d3_132 : decode method_5_code 132 = .ok (.lload_n 0, 1) := by decide +kernel
theorem own_d3_133 : decode method_5_code 133 = .ok (.ldc2_w 44, 3) := by decide +kernel
theorem own_d3_136 : decode method_5_code 136 = .ok (.lcmp, 1) := by decide +kernel
theorem own_d3_137 : decode method_5_code 137 = .ok (.ifCond .lt 6, 3) := by decide +kernel
theorem own_d3_140 : decode method_5_code 140 = .ok (.bipush 7, 2) := by decide +kernel
theorem own_d3_142 : decode method_5_code 142 = .ok (.ireturn, 1) := by decide +kernel
theorem own_d3_143 : decode method_5_code 143 = .ok (.lload_n 0, 1) := by decide +kernel
theorem own_d3_144 : decode method_5_code 144 = .ok (.ldc2_w 42, 3) := by decide +kernel
theorem own_d3_147 : decode method_5_code 147 = .ok (.lcmp, 1) := by decide +kernel
theorem own_d3_148 : decode method_5_code 148 = .ok (.ifCond .lt 6, 3) := by decide +kernel
theorem own_d3_151 : decode method_5_code 151 = .ok (.bipush 6, 2) := by decide +kernel
theorem own_d3_153 : decode method_5_code 153 = .ok (.ireturn, 1) := by decide +kernel
theorem own_d3_154 : decode method_5_code 154 = .ok (.lload_n 0, 1) := by decide +kernel
theorem own_d3_155 : decode method_5_code 155 = .ok (.ldc2_w 40, 3) := by decide +kernel
theorem own_d3_158 : decode method_5_code 158 = .ok (.lcmp, 1) := by decide +kernel
theorem own_d3_159 : decode method_5_code 159 = .ok (.ifCond .lt 5, 3) := by decide +kernel
theorem own_d3_162 : decode method_5_code 162 = .ok (.iconst 5, 1) := by decide +kernel
theorem own_d3_163 : decode method_5_code 163 = .ok (.ireturn, 1) := by decide +kernel
theorem own_d3_164 : decode method_5_code 164 = .ok (.lload_n 0, 1) := by decide +kernel
theorem own_d3_165 : decode method_5_code 165 = .ok (.ldc2_w 38, 3) := by decide +kernel
theorem own_d3_168 : decode method_5_code 168 = .ok (.lcmp, 1) := by decide +kernel
theorem own_d3_169 : decode method_5_code 169 = .ok (.ifCond .lt 5, 3) := by decide +kernel
theorem own_d3_172 : decode method_5_code 172 = .ok (.iconst 4, 1) := by decide +kernel
theorem own_d3_173 : decode method_5_code 173 = .ok (.ireturn, 1) := by decide +kernel
theorem own_d3_174 : decode method_5_code 174 = .ok (.lload_n 0, 1) := by decide +kernel
theorem own_d3_175 : decode method_5_code 175 = .ok (.ldc2_w 36, 3) := by decide +kernel
theorem own_d3_178 : decode method_5_code 178 = .ok (.lcmp, 1) := by decide +kernel
theorem own_d3_179 : decode method_5_code 179 = .ok (.ifCond .lt 5, 3) := by decide +kernel
theorem own_d3_182 : decode method_5_code 182 = .ok (.iconst 3, 1) := by decide +kernel
theorem own_d3_183 : decode method_5_code 183 = .ok (.ireturn, 1) := by decide +kernel
theorem own_d3_184 : decode method_5_code 184 = .ok (.lload_n 0, 1) := by decide +kernel
theorem own_d3_185 : decode method_5_code 185 = .ok (.ldc2_w 34, 3) := by decide +kernel
theorem own_d3_188 : decode method_5_code 188 = .ok (.lcmp, 1) := by decide +kernel
theorem own_d3_189 : decode method_5_code 189 = .ok (.ifCond .lt 5, 3) := by decide +kernel
theorem own_d3_192 : decode method_5_code 192 = .ok (.iconst 2, 1) := by decide +kernel
theorem own_d3_193 : decode method_5_code 193 = .ok (.ireturn, 1) := by decide +kernel
theorem own_d3_194 : decode method_5_code 194 = .ok (.iconst 1, 1) := by decide +kernel
theorem own_d3_195 : decode method_5_code 195 = .ok (.ireturn, 1) := by decide +kernel
def own_uc (x : Int64) : Int32 := (if x < (1000000000000000000 : Int64) then (if x < (100000000000000000 : Int64) then (if x < (10000000000000000 : Int64) then (if x < (1000000000000000 : Int64) then (if x < (100000000000000 : Int64) then (if x < (10000000000000 : Int64) then (if x < (1000000000000 : Int64) then (if x < (100000000000 : Int64) then (if x < (10000000000 : Int64) then (if x < (1000000000 : Int64) then (if x < (100000000 : Int64) then (if x < (10000000 : Int64) then (if x < (1000000 : Int64) then (if x < (100000 : Int64) then (if x < (10000 : Int64) then (if x < (1000 : Int64) then (if x < (100 : Int64) then (if x < (10 : Int64) then (1 : Int32) else (2 : Int32)) else (3 : Int32)) else (4 : Int32)) else (5 : Int32)) else (6 : Int32)) else (7 : Int32)) else (8 : Int32)) else (9 : Int32)) else (10 : Int32)) else (11 : Int32)) else (12 : Int32)) else (13 : Int32)) else (14 : Int32)) else (15 : Int32)) else (16 : Int32)) else (17 : Int32)) else (18 : Int32)) else (19 : Int32))
theorem own_efuc (m : MethodId) (x : Int64) : entryFrame m #[(.long x)] 2 = mkF m 0 #[own_lv x, .second] [] := by first | (simp [entryFrame, mkF, argsToLocals, Value.category]; done) | rfl
set_option maxRecDepth 65536 in
set_option maxHeartbeats 40000000 in
theorem own_rmuc (l : Launch) (Z : State) (a0 : Array Value) (hw : ∀ d ∈ tables_1, d.before a0 Z = true) (x : Int64) (h0 : Heap) (n0 : Nat) (Z0 : n0 ≤ h0.size) :
    own_Ct l Z (⟨"com/example/coverfold/coverfold/RationalPutFixedPinLaw", "unitCount", "(J)I"⟩ : MethodName) method_5_code 2 (some .int) ({ frames := 0, cells := 0, slots := 0, locals := 0 } : Room) #[(.long x)] h0 (fun v h L => v = some (.int (own_uc x)) ∧ Fr n0 L ∧ h = h0) := by
  refine own_body (y := (⟨"com/example/coverfold/coverfold/RationalPutFixedPinLaw", "unitCount", "(J)I"⟩ : MethodName)) (Q := fun v h L => v = some (.int (own_uc x)) ∧ Fr n0 L ∧ h = h0) (plainFor_of_name own_pn1) ?_
  intro p e s m below meth c s₁ Bd hml0 hZ e0
  have hx := Bd.exec
  have hby := Bd.bytes
  have hml : c.maxLocals = 2 := hml0
  have hown : s.vm.findClass "com/example/coverfold/coverfold/RationalPutFixedPinLaw" = some m.cls := findClass_of_methodNamed Bd.named
  have hnm := (name_of_methodNamed Bd.named Bd.method).1
  have X0 : Stand p l e ({ frames := 0, cells := 0, slots := 0, locals := 0 } : Room) s m #[(.long x)] below meth c s₁ [] 0 0 := Stand.of_body Bd
  have N0 := Fr.nil n0
  rw [own_efuc]
  have sg19 : own_V p e below s₁ (mkF m 5 #[own_lv x, .second] [(.int (lcmpW x (1000000000000000000 : Int64)))]) (mkF m 0 #[own_lv x, .second] []) := by
    intro t kt
    refine XS.lloadN X0.here hx rfl (hb hby own_d3_0) rfl ?_
    show own_S p e below s₁ m 1 #[own_lv x, .second] [(.long x)] _
    refine X0.ldc2Long hx hown (mvT hZ (hw _ (List.mem_of_getElem? (i := 24) rfl))) (g := (mkF m 1 #[own_lv x, .second] [(.long x)])) rfl (hb hby own_d3_1) _ ?_
    show own_S p e below s₁ m 4 #[own_lv x, .second] [(.long (1000000000000000000 : Int64)), (.long x)] _
    refine XS.lcmp X0.here hx rfl (hb hby own_d3_4) rfl ?_
    show own_S p e below s₁ m 5 #[own_lv x, .second] [(.int (lcmpW x (1000000000000000000 : Int64)))] _
    exact kt
  refine own_st sg19 ?_
  by_cases hc20 : x < (1000000000000000000 : Int64)
  · skip
    have sg21 : own_V p e below s₁ (mkF m 11 #[own_lv x, .second] []) (mkF m 5 #[own_lv x, .second] [(.int (lcmpW x (1000000000000000000 : Int64)))]) := by
      intro t kt
      refine XS.ifYes X0.here hx rfl (pc0 := 5) (pc' := 11) rfl (hb hby own_d3_5) rfl (own_tltL hc20).1 (by decide) (by decide) ?_
      exact kt
    refine own_st sg21 ?_
    have sg22 : own_V p e below s₁ (mkF m 16 #[own_lv x, .second] [(.int (lcmpW x (100000000000000000 : Int64)))]) (mkF m 11 #[own_lv x, .second] []) := by
      intro t kt
      refine XS.lloadN X0.here hx rfl (hb hby own_d3_11) rfl ?_
      show own_S p e below s₁ m 12 #[own_lv x, .second] [(.long x)] _
      refine X0.ldc2Long hx hown (mvT hZ (hw _ (List.mem_of_getElem? (i := 23) rfl))) (g := (mkF m 12 #[own_lv x, .second] [(.long x)])) rfl (hb hby own_d3_12) _ ?_
      show own_S p e below s₁ m 15 #[own_lv x, .second] [(.long (100000000000000000 : Int64)), (.long x)] _
      refine XS.lcmp X0.here hx rfl (hb hby own_d3_15) rfl ?_
      show own_S p e below s₁ m 16 #[own_lv x, .second] [(.int (lcmpW x (100000000000000000 : Int64)))] _
      exact kt
    refine own_st sg22 ?_
    by_cases hc23 : x < (100000000000000000 : Int64)
    · skip
      have sg24 : own_V p e below s₁ (mkF m 22 #[own_lv x, .second] []) (mkF m 16 #[own_lv x, .second] [(.int (lcmpW x (100000000000000000 : Int64)))]) := by
        intro t kt
        refine XS.ifYes X0.here hx rfl (pc0 := 16) (pc' := 22) rfl (hb hby own_d3_16) rfl (own_tltL hc23).1 (by decide) (by decide) ?_
        exact kt
      refine own_st sg24 ?_
      have sg25 : own_V p e below s₁ (mkF m 27 #[own_lv x, .second] [(.int (lcmpW x (10000000000000000 : Int64)))]) (mkF m 22 #[own_lv x, .second] []) := by
        intro t kt
        refine XS.lloadN X0.here hx rfl (hb hby own_d3_22) rfl ?_
        show own_S p e below s₁ m 23 #[own_lv x, .second] [(.long x)] _
        refine X0.ldc2Long hx hown (mvT hZ (hw _ (List.mem_of_getElem? (i := 22) rfl))) (g := (mkF m 23 #[own_lv x, .second] [(.long x)])) rfl (hb hby own_d3_23) _ ?_
        show own_S p e below s₁ m 26 #[own_lv x, .second] [(.long (10000000000000000 : Int64)), (.long x)] _
        refine XS.lcmp X0.here hx rfl (hb hby own_d3_26) rfl ?_
        show own_S p e below s₁ m 27 #[own_lv x, .second] [(.int (lcmpW x (10000000000000000 : Int64)))] _
        exact kt
      refine own_st sg25 ?_
      by_cases hc26 : x < (10000000000000000 : Int64)
      · skip
        have sg27 : own_V p e below s₁ (mkF m 33 #[own_lv x, .second] []) (mkF m 27 #[own_lv x, .second] [(.int (lcmpW x (10000000000000000 : Int64)))]) := by
          intro t kt
          refine XS.ifYes X0.here hx rfl (pc0 := 27) (pc' := 33) rfl (hb hby own_d3_27) rfl (own_tltL hc26).1 (by decide) (by decide) ?_
          exact kt
        refine own_st sg27 ?_
        have sg28 : own_V p e below s₁ (mkF m 38 #[own_lv x, .second] [(.int (lcmpW x (1000000000000000 : Int64)))]) (mkF m 33 #[own_lv x, .second] []) := by
          intro t kt
          refine XS.lloadN X0.here hx rfl (hb hby own_d3_33) rfl ?_
          show own_S p e below s₁ m 34 #[own_lv x, .second] [(.long x)] _
          refine X0.ldc2Long hx hown (mvT hZ (hw _ (List.mem_of_getElem? (i := 21) rfl))) (g := (mkF m 34 #[own_lv x, .second] [(.long x)])) rfl (hb hby own_d3_34) _ ?_
          show own_S p e below s₁ m 37 #[own_lv x, .second] [(.long (1000000000000000 : Int64)), (.long x)] _
          refine XS.lcmp X0.here hx rfl (hb hby own_d3_37) rfl ?_
          show own_S p e below s₁ m 38 #[own_lv x, .second] [(.int (lcmpW x (1000000000000000 : Int64)))] _
          exact kt
        refine own_st sg28 ?_
        by_cases hc29 : x < (1000000000000000 : Int64)
        · skip
          have sg30 : own_V p e below s₁ (mkF m 44 #[own_lv x, .second] []) (mkF m 38 #[own_lv x, .second] [(.int (lcmpW x (1000000000000000 : Int64)))]) := by
            intro t kt
            refine XS.ifYes X0.here hx rfl (pc0 := 38) (pc' := 44) rfl (hb hby own_d3_38) rfl (own_tltL hc29).1 (by decide) (by decide) ?_
            exact kt
          refine own_st sg30 ?_
          have sg31 : own_V p e below s₁ (mkF m 49 #[own_lv x, .second] [(.int (lcmpW x (100000000000000 : Int64)))]) (mkF m 44 #[own_lv x, .second] []) := by
            intro t kt
            refine XS.lloadN X0.here hx rfl (hb hby own_d3_44) rfl ?_
            show own_S p e below s₁ m 45 #[own_lv x, .second] [(.long x)] _
            refine X0.ldc2Long hx hown (mvT hZ (hw _ (List.mem_of_getElem? (i := 20) rfl))) (g := (mkF m 45 #[own_lv x, .second] [(.long x)])) rfl (hb hby own_d3_45) _ ?_
            show own_S p e below s₁ m 48 #[own_lv x, .second] [(.long (100000000000000 : Int64)), (.long x)] _
            refine XS.lcmp X0.here hx rfl (hb hby own_d3_48) rfl ?_
            show own_S p e below s₁ m 49 #[own_lv x, .second] [(.int (lcmpW x (100000000000000 : Int64)))] _
            exact kt
          refine own_st sg31 ?_
          by_cases hc32 : x < (100000000000000 : Int64)
          · skip
            have sg33 : own_V p e below s₁ (mkF m 55 #[own_lv x, .second] []) (mkF m 49 #[own_lv x, .second] [(.int (lcmpW x (100000000000000 : Int64)))]) := by
              intro t kt
              refine XS.ifYes X0.here hx rfl (pc0 := 49) (pc' := 55) rfl (hb hby own_d3_49) rfl (own_tltL hc32).1 (by decide) (by decide) ?_
              exact kt
            refine own_st sg33 ?_
            have sg34 : own_V p e below s₁ (mkF m 60 #[own_lv x, .second] [(.int (lcmpW x (10000000000000 : Int64)))]) (mkF m 55 #[own_lv x, .second] []) := by
              intro t kt
              refine XS.lloadN X0.here hx rfl (hb hby own_d3_55) rfl ?_
              show own_S p e below s₁ m 56 #[own_lv x, .second] [(.long x)] _
              refine X0.ldc2Long hx hown (mvT hZ (hw _ (List.mem_of_getElem? (i := 19) rfl))) (g := (mkF m 56 #[own_lv x, .second] [(.long x)])) rfl (hb hby own_d3_56) _ ?_
              show own_S p e below s₁ m 59 #[own_lv x, .second] [(.long (10000000000000 : Int64)), (.long x)] _
              refine XS.lcmp X0.here hx rfl (hb hby own_d3_59) rfl ?_
              show own_S p e below s₁ m 60 #[own_lv x, .second] [(.int (lcmpW x (10000000000000 : Int64)))] _
              exact kt
            refine own_st sg34 ?_
            by_cases hc35 : x < (10000000000000 : Int64)
            · skip
              have sg36 : own_V p e below s₁ (mkF m 66 #[own_lv x, .second] []) (mkF m 60 #[own_lv x, .second] [(.int (lcmpW x (10000000000000 : Int64)))]) := by
                intro t kt
                refine XS.ifYes X0.here hx rfl (pc0 := 60) (pc' := 66) rfl (hb hby own_d3_60) rfl (own_tltL hc35).1 (by decide) (by decide) ?_
                exact kt
              refine own_st sg36 ?_
              have sg37 : own_V p e below s₁ (mkF m 71 #[own_lv x, .second] [(.int (lcmpW x (1000000000000 : Int64)))]) (mkF m 66 #[own_lv x, .second] []) := by
                intro t kt
                refine XS.lloadN X0.here hx rfl (hb hby own_d3_66) rfl ?_
                show own_S p e below s₁ m 67 #[own_lv x, .second] [(.long x)] _
                refine X0.ldc2Long hx hown (mvT hZ (hw _ (List.mem_of_getElem? (i := 18) rfl))) (g := (mkF m 67 #[own_lv x, .second] [(.long x)])) rfl (hb hby own_d3_67) _ ?_
                show own_S p e below s₁ m 70 #[own_lv x, .second] [(.long (1000000000000 : Int64)), (.long x)] _
                refine XS.lcmp X0.here hx rfl (hb hby own_d3_70) rfl ?_
                show own_S p e below s₁ m 71 #[own_lv x, .second] [(.int (lcmpW x (1000000000000 : Int64)))] _
                exact kt
              refine own_st sg37 ?_
              by_cases hc38 : x < (1000000000000 : Int64)
              · skip
                have sg39 : own_V p e below s₁ (mkF m 77 #[own_lv x, .second] []) (mkF m 71 #[own_lv x, .second] [(.int (lcmpW x (1000000000000 : Int64)))]) := by
                  intro t kt
                  refine XS.ifYes X0.here hx rfl (pc0 := 71) (pc' := 77) rfl (hb hby own_d3_71) rfl (own_tltL hc38).1 (by decide) (by decide) ?_
                  exact kt
                refine own_st sg39 ?_
                have sg40 : own_V p e below s₁ (mkF m 82 #[own_lv x, .second] [(.int (lcmpW x (100000000000 : Int64)))]) (mkF m 77 #[own_lv x, .second] []) := by
                  intro t kt
                  refine XS.lloadN X0.here hx rfl (hb hby own_d3_77) rfl ?_
                  show own_S p e below s₁ m 78 #[own_lv x, .second] [(.long x)] _
                  refine X0.ldc2Long hx hown (mvT hZ (hw _ (List.mem_of_getElem? (i := 17) rfl))) (g := (mkF m 78 #[own_lv x, .second] [(.long x)])) rfl (hb hby own_d3_78) _ ?_
                  show own_S p e below s₁ m 81 #[own_lv x, .second] [(.long (100000000000 : Int64)), (.long x)] _
                  refine XS.lcmp X0.here hx rfl (hb hby own_d3_81) rfl ?_
                  show own_S p e below s₁ m 82 #[own_lv x, .second] [(.int (lcmpW x (100000000000 : Int64)))] _
                  exact kt
                refine own_st sg40 ?_
                by_cases hc41 : x < (100000000000 : Int64)
                · skip
                  have sg42 : own_V p e below s₁ (mkF m 88 #[own_lv x, .second] []) (mkF m 82 #[own_lv x, .second] [(.int (lcmpW x (100000000000 : Int64)))]) := by
                    intro t kt
                    refine XS.ifYes X0.here hx rfl (pc0 := 82) (pc' := 88) rfl (hb hby own_d3_82) rfl (own_tltL hc41).1 (by decide) (by decide) ?_
                    exact kt
                  refine own_st sg42 ?_
                  have sg43 : own_V p e below s₁ (mkF m 93 #[own_lv x, .second] [(.int (lcmpW x (10000000000 : Int64)))]) (mkF m 88 #[own_lv x, .second] []) := by
                    intro t kt
                    refine XS.lloadN X0.here hx rfl (hb hby own_d3_88) rfl ?_
                    show own_S p e below s₁ m 89 #[own_lv x, .second] [(.long x)] _
                    refine X0.ldc2Long hx hown (mvT hZ (hw _ (List.mem_of_getElem? (i := 16) rfl))) (g := (mkF m 89 #[own_lv x, .second] [(.long x)])) rfl (hb hby own_d3_89) _ ?_
                    show own_S p e below s₁ m 92 #[own_lv x, .second] [(.long (10000000000 : Int64)), (.long x)] _
                    refine XS.lcmp X0.here hx rfl (hb hby own_d3_92) rfl ?_
                    show own_S p e below s₁ m 93 #[own_lv x, .second] [(.int (lcmpW x (10000000000 : Int64)))] _
                    exact kt
                  refine own_st sg43 ?_
                  by_cases hc44 : x < (10000000000 : Int64)
                  · skip
                    have sg45 : own_V p e below s₁ (mkF m 99 #[own_lv x, .second] []) (mkF m 93 #[own_lv x, .second] [(.int (lcmpW x (10000000000 : Int64)))]) := by
                      intro t kt
                      refine XS.ifYes X0.here hx rfl (pc0 := 93) (pc' := 99) rfl (hb hby own_d3_93) rfl (own_tltL hc44).1 (by decide) (by decide) ?_
                      exact kt
                    refine own_st sg45 ?_
                    have sg46 : own_V p e below s₁ (mkF m 104 #[own_lv x, .second] [(.int (lcmpW x (1000000000 : Int64)))]) (mkF m 99 #[own_lv x, .second] []) := by
                      intro t kt
                      refine XS.lloadN X0.here hx rfl (hb hby own_d3_99) rfl ?_
                      show own_S p e below s₁ m 100 #[own_lv x, .second] [(.long x)] _
                      refine X0.ldc2Long hx hown (mvT hZ (hw _ (List.mem_of_getElem? (i := 15) rfl))) (g := (mkF m 100 #[own_lv x, .second] [(.long x)])) rfl (hb hby own_d3_100) _ ?_
                      show own_S p e below s₁ m 103 #[own_lv x, .second] [(.long (1000000000 : Int64)), (.long x)] _
                      refine XS.lcmp X0.here hx rfl (hb hby own_d3_103) rfl ?_
                      show own_S p e below s₁ m 104 #[own_lv x, .second] [(.int (lcmpW x (1000000000 : Int64)))] _
                      exact kt
                    refine own_st sg46 ?_
                    by_cases hc47 : x < (1000000000 : Int64)
                    · skip
                      have sg48 : own_V p e below s₁ (mkF m 110 #[own_lv x, .second] []) (mkF m 104 #[own_lv x, .second] [(.int (lcmpW x (1000000000 : Int64)))]) := by
                        intro t kt
                        refine XS.ifYes X0.here hx rfl (pc0 := 104) (pc' := 110) rfl (hb hby own_d3_104) rfl (own_tltL hc47).1 (by decide) (by decide) ?_
                        exact kt
                      refine own_st sg48 ?_
                      have sg49 : own_V p e below s₁ (mkF m 115 #[own_lv x, .second] [(.int (lcmpW x (100000000 : Int64)))]) (mkF m 110 #[own_lv x, .second] []) := by
                        intro t kt
                        refine XS.lloadN X0.here hx rfl (hb hby own_d3_110) rfl ?_
                        show own_S p e below s₁ m 111 #[own_lv x, .second] [(.long x)] _
                        refine X0.ldc2Long hx hown (mvT hZ (hw _ (List.mem_of_getElem? (i := 14) rfl))) (g := (mkF m 111 #[own_lv x, .second] [(.long x)])) rfl (hb hby own_d3_111) _ ?_
                        show own_S p e below s₁ m 114 #[own_lv x, .second] [(.long (100000000 : Int64)), (.long x)] _
                        refine XS.lcmp X0.here hx rfl (hb hby own_d3_114) rfl ?_
                        show own_S p e below s₁ m 115 #[own_lv x, .second] [(.int (lcmpW x (100000000 : Int64)))] _
                        exact kt
                      refine own_st sg49 ?_
                      by_cases hc50 : x < (100000000 : Int64)
                      · skip
                        have sg51 : own_V p e below s₁ (mkF m 121 #[own_lv x, .second] []) (mkF m 115 #[own_lv x, .second] [(.int (lcmpW x (100000000 : Int64)))]) := by
                          intro t kt
                          refine XS.ifYes X0.here hx rfl (pc0 := 115) (pc' := 121) rfl (hb hby own_d3_115) rfl (own_tltL hc50).1 (by decide) (by decide) ?_
                          exact kt
                        refine own_st sg51 ?_
                        have sg52 : own_V p e below s₁ (mkF m 126 #[own_lv x, .second] [(.int (lcmpW x (10000000 : Int64)))]) (mkF m 121 #[own_lv x, .second] []) := by
                          intro t kt
                          refine XS.lloadN X0.here hx rfl (hb hby own_d3_121) rfl ?_
                          show own_S p e below s₁ m 122 #[own_lv x, .second] [(.long x)] _
                          refine X0.ldc2Long hx hown (mvT hZ (hw _ (List.mem_of_getElem? (i := 13) rfl))) (g := (mkF m 122 #[own_lv x, .second] [(.long x)])) rfl (hb hby own_d3_122) _ ?_
                          show own_S p e below s₁ m 125 #[own_lv x, .second] [(.long (10000000 : Int64)), (.long x)] _
                          refine XS.lcmp X0.here hx rfl (hb hby own_d3_125) rfl ?_
                          show own_S p e below s₁ m 126 #[own_lv x, .second] [(.int (lcmpW x (10000000 : Int64)))] _
                          exact kt
                        refine own_st sg52 ?_
                        by_cases hc53 : x < (10000000 : Int64)
                        · skip
                          have sg54 : own_V p e below s₁ (mkF m 132 #[own_lv x, .second] []) (mkF m 126 #[own_lv x, .second] [(.int (lcmpW x (10000000 : Int64)))]) := by
                            intro t kt
                            refine XS.ifYes X0.here hx rfl (pc0 := 126) (pc' := 132) rfl (hb hby own_d3_126) rfl (own_tltL hc53).1 (by decide) (by decide) ?_
                            exact kt
                          refine own_st sg54 ?_
                          have sg55 : own_V p e below s₁ (mkF m 137 #[own_lv x, .second] [(.int (lcmpW x (1000000 : Int64)))]) (mkF m 132 #[own_lv x, .second] []) := by
                            intro t kt
                            refine XS.lloadN X0.here hx rfl (hb hby own_d3_132) rfl ?_
                            show own_S p e below s₁ m 133 #[own_lv x, .second] [(.long x)] _
                            refine X0.ldc2Long hx hown (mvT hZ (hw _ (List.mem_of_getElem? (i := 12) rfl))) (g := (mkF m 133 #[own_lv x, .second] [(.long x)])) rfl (hb hby own_d3_133) _ ?_
                            show own_S p e below s₁ m 136 #[own_lv x, .second] [(.long (1000000 : Int64)), (.long x)] _
                            refine XS.lcmp X0.here hx rfl (hb hby own_d3_136) rfl ?_
                            show own_S p e below s₁ m 137 #[own_lv x, .second] [(.int (lcmpW x (1000000 : Int64)))] _
                            exact kt
                          refine own_st sg55 ?_
                          by_cases hc56 : x < (1000000 : Int64)
                          · skip
                            have sg57 : own_V p e below s₁ (mkF m 143 #[own_lv x, .second] []) (mkF m 137 #[own_lv x, .second] [(.int (lcmpW x (1000000 : Int64)))]) := by
                              intro t kt
                              refine XS.ifYes X0.here hx rfl (pc0 := 137) (pc' := 143) rfl (hb hby own_d3_137) rfl (own_tltL hc56).1 (by decide) (by decide) ?_
                              exact kt
                            refine own_st sg57 ?_
                            have sg58 : own_V p e below s₁ (mkF m 148 #[own_lv x, .second] [(.int (lcmpW x (100000 : Int64)))]) (mkF m 143 #[own_lv x, .second] []) := by
                              intro t kt
                              refine XS.lloadN X0.here hx rfl (hb hby own_d3_143) rfl ?_
                              show own_S p e below s₁ m 144 #[own_lv x, .second] [(.long x)] _
                              refine X0.ldc2Long hx hown (mvT hZ (hw _ (List.mem_of_getElem? (i := 11) rfl))) (g := (mkF m 144 #[own_lv x, .second] [(.long x)])) rfl (hb hby own_d3_144) _ ?_
                              show own_S p e below s₁ m 147 #[own_lv x, .second] [(.long (100000 : Int64)), (.long x)] _
                              refine XS.lcmp X0.here hx rfl (hb hby own_d3_147) rfl ?_
                              show own_S p e below s₁ m 148 #[own_lv x, .second] [(.int (lcmpW x (100000 : Int64)))] _
                              exact kt
                            refine own_st sg58 ?_
                            by_cases hc59 : x < (100000 : Int64)
                            · skip
                              have sg60 : own_V p e below s₁ (mkF m 154 #[own_lv x, .second] []) (mkF m 148 #[own_lv x, .second] [(.int (lcmpW x (100000 : Int64)))]) := by
                                intro t kt
                                refine XS.ifYes X0.here hx rfl (pc0 := 148) (pc' := 154) rfl (hb hby own_d3_148) rfl (own_tltL hc59).1 (by decide) (by decide) ?_
                                exact kt
                              refine own_st sg60 ?_
                              have sg61 : own_V p e below s₁ (mkF m 159 #[own_lv x, .second] [(.int (lcmpW x (10000 : Int64)))]) (mkF m 154 #[own_lv x, .second] []) := by
                                intro t kt
                                refine XS.lloadN X0.here hx rfl (hb hby own_d3_154) rfl ?_
                                show own_S p e below s₁ m 155 #[own_lv x, .second] [(.long x)] _
                                refine X0.ldc2Long hx hown (mvT hZ (hw _ (List.mem_of_getElem? (i := 10) rfl))) (g := (mkF m 155 #[own_lv x, .second] [(.long x)])) rfl (hb hby own_d3_155) _ ?_
                                show own_S p e below s₁ m 158 #[own_lv x, .second] [(.long (10000 : Int64)), (.long x)] _
                                refine XS.lcmp X0.here hx rfl (hb hby own_d3_158) rfl ?_
                                show own_S p e below s₁ m 159 #[own_lv x, .second] [(.int (lcmpW x (10000 : Int64)))] _
                                exact kt
                              refine own_st sg61 ?_
                              by_cases hc62 : x < (10000 : Int64)
                              · skip
                                have sg63 : own_V p e below s₁ (mkF m 164 #[own_lv x, .second] []) (mkF m 159 #[own_lv x, .second] [(.int (lcmpW x (10000 : Int64)))]) := by
                                  intro t kt
                                  refine XS.ifYes X0.here hx rfl (pc0 := 159) (pc' := 164) rfl (hb hby own_d3_159) rfl (own_tltL hc62).1 (by decide) (by decide) ?_
                                  exact kt
                                refine own_st sg63 ?_
                                have sg64 : own_V p e below s₁ (mkF m 169 #[own_lv x, .second] [(.int (lcmpW x (1000 : Int64)))]) (mkF m 164 #[own_lv x, .second] []) := by
                                  intro t kt
                                  refine XS.lloadN X0.here hx rfl (hb hby own_d3_164) rfl ?_
                                  show own_S p e below s₁ m 165 #[own_lv x, .second] [(.long x)] _
                                  refine X0.ldc2Long hx hown (mvT hZ (hw _ (List.mem_of_getElem? (i := 9) rfl))) (g := (mkF m 165 #[own_lv x, .second] [(.long x)])) rfl (hb hby own_d3_165) _ ?_
                                  show own_S p e below s₁ m 168 #[own_lv x, .second] [(.long (1000 : Int64)), (.long x)] _
                                  refine XS.lcmp X0.here hx rfl (hb hby own_d3_168) rfl ?_
                                  show own_S p e below s₁ m 169 #[own_lv x, .second] [(.int (lcmpW x (1000 : Int64)))] _
                                  exact kt
                                refine own_st sg64 ?_
                                by_cases hc65 : x < (1000 : Int64)
                                · skip
                                  have sg66 : own_V p e below s₁ (mkF m 174 #[own_lv x, .second] []) (mkF m 169 #[own_lv x, .second] [(.int (lcmpW x (1000 : Int64)))]) := by
                                    intro t kt
                                    refine XS.ifYes X0.here hx rfl (pc0 := 169) (pc' := 174) rfl (hb hby own_d3_169) rfl (own_tltL hc65).1 (by decide) (by decide) ?_
                                    exact kt
                                  refine own_st sg66 ?_
                                  have sg67 : own_V p e below s₁ (mkF m 179 #[own_lv x, .second] [(.int (lcmpW x (100 : Int64)))]) (mkF m 174 #[own_lv x, .second] []) := by
                                    intro t kt
                                    refine XS.lloadN X0.here hx rfl (hb hby own_d3_174) rfl ?_
                                    show own_S p e below s₁ m 175 #[own_lv x, .second] [(.long x)] _
                                    refine X0.ldc2Long hx hown (mvT hZ (hw _ (List.mem_of_getElem? (i := 8) rfl))) (g := (mkF m 175 #[own_lv x, .second] [(.long x)])) rfl (hb hby own_d3_175) _ ?_
                                    show own_S p e below s₁ m 178 #[own_lv x, .second] [(.long (100 : Int64)), (.long x)] _
                                    refine XS.lcmp X0.here hx rfl (hb hby own_d3_178) rfl ?_
                                    show own_S p e below s₁ m 179 #[own_lv x, .second] [(.int (lcmpW x (100 : Int64)))] _
                                    exact kt
                                  refine own_st sg67 ?_
                                  by_cases hc68 : x < (100 : Int64)
                                  · skip
                                    have sg69 : own_V p e below s₁ (mkF m 184 #[own_lv x, .second] []) (mkF m 179 #[own_lv x, .second] [(.int (lcmpW x (100 : Int64)))]) := by
                                      intro t kt
                                      refine XS.ifYes X0.here hx rfl (pc0 := 179) (pc' := 184) rfl (hb hby own_d3_179) rfl (own_tltL hc68).1 (by decide) (by decide) ?_
                                      exact kt
                                    refine own_st sg69 ?_
                                    have sg70 : own_V p e below s₁ (mkF m 189 #[own_lv x, .second] [(.int (lcmpW x (10 : Int64)))]) (mkF m 184 #[own_lv x, .second] []) := by
                                      intro t kt
                                      refine XS.lloadN X0.here hx rfl (hb hby own_d3_184) rfl ?_
                                      show own_S p e below s₁ m 185 #[own_lv x, .second] [(.long x)] _
                                      refine X0.ldc2Long hx hown (mvT hZ (hw _ (List.mem_of_getElem? (i := 7) rfl))) (g := (mkF m 185 #[own_lv x, .second] [(.long x)])) rfl (hb hby own_d3_185) _ ?_
                                      show own_S p e below s₁ m 188 #[own_lv x, .second] [(.long (10 : Int64)), (.long x)] _
                                      refine XS.lcmp X0.here hx rfl (hb hby own_d3_188) rfl ?_
                                      show own_S p e below s₁ m 189 #[own_lv x, .second] [(.int (lcmpW x (10 : Int64)))] _
                                      exact kt
                                    refine own_st sg70 ?_
                                    by_cases hc71 : x < (10 : Int64)
                                    · skip
                                      have sg72 : own_V p e below s₁ (mkF m 194 #[own_lv x, .second] []) (mkF m 189 #[own_lv x, .second] [(.int (lcmpW x (10 : Int64)))]) := by
                                        intro t kt
                                        refine XS.ifYes X0.here hx rfl (pc0 := 189) (pc' := 194) rfl (hb hby own_d3_189) rfl (own_tltL hc71).1 (by decide) (by decide) ?_
                                        exact kt
                                      refine own_st sg72 ?_
                                      have sg73 : own_V p e below s₁ (mkF m 195 #[own_lv x, .second] [(.int (1 : Int32))]) (mkF m 194 #[own_lv x, .second] []) := by
                                        intro t kt
                                        refine XS.iconst X0.here hx rfl (hb hby own_d3_194) ?_
                                        show own_S p e below s₁ m 195 #[own_lv x, .second] [(.int (1 : Int32))] _
                                        exact kt
                                      refine own_st sg73 ?_
                                      have hF : (1 : Int32) = own_uc x := by unfold own_uc; rw [if_pos hc20, if_pos hc23, if_pos hc26, if_pos hc29, if_pos hc32, if_pos hc35, if_pos hc38, if_pos hc41, if_pos hc44, if_pos hc47, if_pos hc50, if_pos hc53, if_pos hc56, if_pos hc59, if_pos hc62, if_pos hc65, if_pos hc68, if_pos hc71]
                                      exact own_retI X0 hx Bd.notSynchronized Bd.returns (hb hby own_d3_195) (by decide) (by decide) e0 ⟨by rw [hF], N0, rfl⟩
                                    have sg74 : own_V p e below s₁ (mkF m 192 #[own_lv x, .second] []) (mkF m 189 #[own_lv x, .second] [(.int (lcmpW x (10 : Int64)))]) := by
                                      intro t kt
                                      refine XS.ifNo X0.here hx rfl (hb hby own_d3_189) rfl (own_fltL hc71).1 ?_
                                      exact kt
                                    refine own_st sg74 ?_
                                    have sg75 : own_V p e below s₁ (mkF m 193 #[own_lv x, .second] [(.int (2 : Int32))]) (mkF m 192 #[own_lv x, .second] []) := by
                                      intro t kt
                                      refine XS.iconst X0.here hx rfl (hb hby own_d3_192) ?_
                                      show own_S p e below s₁ m 193 #[own_lv x, .second] [(.int (2 : Int32))] _
                                      exact kt
                                    refine own_st sg75 ?_
                                    have hF : (2 : Int32) = own_uc x := by unfold own_uc; rw [if_pos hc20, if_pos hc23, if_pos hc26, if_pos hc29, if_pos hc32, if_pos hc35, if_pos hc38, if_pos hc41, if_pos hc44, if_pos hc47, if_pos hc50, if_pos hc53, if_pos hc56, if_pos hc59, if_pos hc62, if_pos hc65, if_pos hc68, if_neg hc71]
                                    exact own_retI X0 hx Bd.notSynchronized Bd.returns (hb hby own_d3_193) (by decide) (by decide) e0 ⟨by rw [hF], N0, rfl⟩
                                  have sg76 : own_V p e below s₁ (mkF m 182 #[own_lv x, .second] []) (mkF m 179 #[own_lv x, .second] [(.int (lcmpW x (100 : Int64)))]) := by
                                    intro t kt
                                    refine XS.ifNo X0.here hx rfl (hb hby own_d3_179) rfl (own_fltL hc68).1 ?_
                                    exact kt
                                  refine own_st sg76 ?_
                                  have sg77 : own_V p e below s₁ (mkF m 183 #[own_lv x, .second] [(.int (3 : Int32))]) (mkF m 182 #[own_lv x, .second] []) := by
                                    intro t kt
                                    refine XS.iconst X0.here hx rfl (hb hby own_d3_182) ?_
                                    show own_S p e below s₁ m 183 #[own_lv x, .second] [(.int (3 : Int32))] _
                                    exact kt
                                  refine own_st sg77 ?_
                                  have hF : (3 : Int32) = own_uc x := by unfold own_uc; rw [if_pos hc20, if_pos hc23, if_pos hc26, if_pos hc29, if_pos hc32, if_pos hc35, if_pos hc38, if_pos hc41, if_pos hc44, if_pos hc47, if_pos hc50, if_pos hc53, if_pos hc56, if_pos hc59, if_pos hc62, if_pos hc65, if_neg hc68]
                                  exact own_retI X0 hx Bd.notSynchronized Bd.returns (hb hby own_d3_183) (by decide) (by decide) e0 ⟨by rw [hF], N0, rfl⟩
                                have sg78 : own_V p e below s₁ (mkF m 172 #[own_lv x, .second] []) (mkF m 169 #[own_lv x, .second] [(.int (lcmpW x (1000 : Int64)))]) := by
                                  intro t kt
                                  refine XS.ifNo X0.here hx rfl (hb hby own_d3_169) rfl (own_fltL hc65).1 ?_
                                  exact kt
                                refine own_st sg78 ?_
                                have sg79 : own_V p e below s₁ (mkF m 173 #[own_lv x, .second] [(.int (4 : Int32))]) (mkF m 172 #[own_lv x, .second] []) := by
                                  intro t kt
                                  refine XS.iconst X0.here hx rfl (hb hby own_d3_172) ?_
                                  show own_S p e below s₁ m 173 #[own_lv x, .second] [(.int (4 : Int32))] _
                                  exact kt
                                refine own_st sg79 ?_
                                have hF : (4 : Int32) = own_uc x := by unfold own_uc; rw [if_pos hc20, if_pos hc23, if_pos hc26, if_pos hc29, if_pos hc32, if_pos hc35, if_pos hc38, if_pos hc41, if_pos hc44, if_pos hc47, if_pos hc50, if_pos hc53, if_pos hc56, if_pos hc59, if_pos hc62, if_neg hc65]
                                exact own_retI X0 hx Bd.notSynchronized Bd.returns (hb hby own_d3_173) (by decide) (by decide) e0 ⟨by rw [hF], N0, rfl⟩
                              have sg80 : own_V p e below s₁ (mkF m 162 #[own_lv x, .second] []) (mkF m 159 #[own_lv x, .second] [(.int (lcmpW x (10000 : Int64)))]) := by
                                intro t kt
                                refine XS.ifNo X0.here hx rfl (hb hby own_d3_159) rfl (own_fltL hc62).1 ?_
                                exact kt
                              refine own_st sg80 ?_
                              have sg81 : own_V p e below s₁ (mkF m 163 #[own_lv x, .second] [(.int (5 : Int32))]) (mkF m 162 #[own_lv x, .second] []) := by
                                intro t kt
                                refine XS.iconst X0.here hx rfl (hb hby own_d3_162) ?_
                                show own_S p e below s₁ m 163 #[own_lv x, .second] [(.int (5 : Int32))] _
                                exact kt
                              refine own_st sg81 ?_
                              have hF : (5 : Int32) = own_uc x := by unfold own_uc; rw [if_pos hc20, if_pos hc23, if_pos hc26, if_pos hc29, if_pos hc32, if_pos hc35, if_pos hc38, if_pos hc41, if_pos hc44, if_pos hc47, if_pos hc50, if_pos hc53, if_pos hc56, if_pos hc59, if_neg hc62]
                              exact own_retI X0 hx Bd.notSynchronized Bd.returns (hb hby own_d3_163) (by decide) (by decide) e0 ⟨by rw [hF], N0, rfl⟩
                            have sg82 : own_V p e below s₁ (mkF m 151 #[own_lv x, .second] []) (mkF m 148 #[own_lv x, .second] [(.int (lcmpW x (100000 : Int64)))]) := by
                              intro t kt
                              refine XS.ifNo X0.here hx rfl (hb hby own_d3_148) rfl (own_fltL hc59).1 ?_
                              exact kt
                            refine own_st sg82 ?_
                            have sg83 : own_V p e below s₁ (mkF m 153 #[own_lv x, .second] [(.int (6 : Int32))]) (mkF m 151 #[own_lv x, .second] []) := by
                              intro t kt
                              refine XS.bipush X0.here hx rfl (hb hby own_d3_151) ?_
                              show own_S p e below s₁ m 153 #[own_lv x, .second] [(.int (6 : Int32))] _
                              exact kt
                            refine own_st sg83 ?_
                            have hF : (6 : Int32) = own_uc x := by unfold own_uc; rw [if_pos hc20, if_pos hc23, if_pos hc26, if_pos hc29, if_pos hc32, if_pos hc35, if_pos hc38, if_pos hc41, if_pos hc44, if_pos hc47, if_pos hc50, if_pos hc53, if_pos hc56, if_neg hc59]
                            exact own_retI X0 hx Bd.notSynchronized Bd.returns (hb hby own_d3_153) (by decide) (by decide) e0 ⟨by rw [hF], N0, rfl⟩
                          have sg84 : own_V p e below s₁ (mkF m 140 #[own_lv x, .second] []) (mkF m 137 #[own_lv x, .second] [(.int (lcmpW x (1000000 : Int64)))]) := by
                            intro t kt
                            refine XS.ifNo X0.here hx rfl (hb hby own_d3_137) rfl (own_fltL hc56).1 ?_
                            exact kt
                          refine own_st sg84 ?_
                          have sg85 : own_V p e below s₁ (mkF m 142 #[own_lv x, .second] [(.int (7 : Int32))]) (mkF m 140 #[own_lv x, .second] []) := by
                            intro t kt
                            refine XS.bipush X0.here hx rfl (hb hby own_d3_140) ?_
                            show own_S p e below s₁ m 142 #[own_lv x, .second] [(.int (7 : Int32))] _
                            exact kt
                          refine own_st sg85 ?_
                          have hF : (7 : Int32) = own_uc x := by unfold own_uc; rw [if_pos hc20, if_pos hc23, if_pos hc26, if_pos hc29, if_pos hc32, if_pos hc35, if_pos hc38, if_pos hc41, if_pos hc44, if_pos hc47, if_pos hc50, if_pos hc53, if_neg hc56]
                          exact own_retI X0 hx Bd.notSynchronized Bd.returns (hb hby own_d3_142) (by decide) (by decide) e0 ⟨by rw [hF], N0, rfl⟩
                        have sg86 : own_V p e below s₁ (mkF m 129 #[own_lv x, .second] []) (mkF m 126 #[own_lv x, .second] [(.int (lcmpW x (10000000 : Int64)))]) := by
                          intro t kt
                          refine XS.ifNo X0.here hx rfl (hb hby own_d3_126) rfl (own_fltL hc53).1 ?_
                          exact kt
                        refine own_st sg86 ?_
                        have sg87 : own_V p e below s₁ (mkF m 131 #[own_lv x, .second] [(.int (8 : Int32))]) (mkF m 129 #[own_lv x, .second] []) := by
                          intro t kt
                          refine XS.bipush X0.here hx rfl (hb hby own_d3_129) ?_
                          show own_S p e below s₁ m 131 #[own_lv x, .second] [(.int (8 : Int32))] _
                          exact kt
                        refine own_st sg87 ?_
                        have hF : (8 : Int32) = own_uc x := by unfold own_uc; rw [if_pos hc20, if_pos hc23, if_pos hc26, if_pos hc29, if_pos hc32, if_pos hc35, if_pos hc38, if_pos hc41, if_pos hc44, if_pos hc47, if_pos hc50, if_neg hc53]
                        exact own_retI X0 hx Bd.notSynchronized Bd.returns (hb hby own_d3_131) (by decide) (by decide) e0 ⟨by rw [hF], N0, rfl⟩
                      have sg88 : own_V p e below s₁ (mkF m 118 #[own_lv x, .second] []) (mkF m 115 #[own_lv x, .second] [(.int (lcmpW x (100000000 : Int64)))]) := by
                        intro t kt
                        refine XS.ifNo X0.here hx rfl (hb hby own_d3_115) rfl (own_fltL hc50).1 ?_
                        exact kt
                      refine own_st sg88 ?_
                      have sg89 : own_V p e below s₁ (mkF m 120 #[own_lv x, .second] [(.int (9 : Int32))]) (mkF m 118 #[own_lv x, .second] []) := by
                        intro t kt
                        refine XS.bipush X0.here hx rfl (hb hby own_d3_118) ?_
                        show own_S p e below s₁ m 120 #[own_lv x, .second] [(.int (9 : Int32))] _
                        exact kt
                      refine own_st sg89 ?_
                      have hF : (9 : Int32) = own_uc x := by unfold own_uc; rw [if_pos hc20, if_pos hc23, if_pos hc26, if_pos hc29, if_pos hc32, if_pos hc35, if_pos hc38, if_pos hc41, if_pos hc44, if_pos hc47, if_neg hc50]
                      exact own_retI X0 hx Bd.notSynchronized Bd.returns (hb hby own_d3_120) (by decide) (by decide) e0 ⟨by rw [hF], N0, rfl⟩
                    have sg90 : own_V p e below s₁ (mkF m 107 #[own_lv x, .second] []) (mkF m 104 #[own_lv x, .second] [(.int (lcmpW x (1000000000 : Int64)))]) := by
                      intro t kt
                      refine XS.ifNo X0.here hx rfl (hb hby own_d3_104) rfl (own_fltL hc47).1 ?_
                      exact kt
                    refine own_st sg90 ?_
                    have sg91 : own_V p e below s₁ (mkF m 109 #[own_lv x, .second] [(.int (10 : Int32))]) (mkF m 107 #[own_lv x, .second] []) := by
                      intro t kt
                      refine XS.bipush X0.here hx rfl (hb hby own_d3_107) ?_
                      show own_S p e below s₁ m 109 #[own_lv x, .second] [(.int (10 : Int32))] _
                      exact kt
                    refine own_st sg91 ?_
                    have hF : (10 : Int32) = own_uc x := by unfold own_uc; rw [if_pos hc20, if_pos hc23, if_pos hc26, if_pos hc29, if_pos hc32, if_pos hc35, if_pos hc38, if_pos hc41, if_pos hc44, if_neg hc47]
                    exact own_retI X0 hx Bd.notSynchronized Bd.returns (hb hby own_d3_109) (by decide) (by decide) e0 ⟨by rw [hF], N0, rfl⟩
                  have sg92 : own_V p e below s₁ (mkF m 96 #[own_lv x, .second] []) (mkF m 93 #[own_lv x, .second] [(.int (lcmpW x (10000000000 : Int64)))]) := by
                    intro t kt
                    refine XS.ifNo X0.here hx rfl (hb hby own_d3_93) rfl (own_fltL hc44).1 ?_
                    exact kt
                  refine own_st sg92 ?_
                  have sg93 : own_V p e below s₁ (mkF m 98 #[own_lv x, .second] [(.int (11 : Int32))]) (mkF m 96 #[own_lv x, .second] []) := by
                    intro t kt
                    refine XS.bipush X0.here hx rfl (hb hby own_d3_96) ?_
                    show own_S p e below s₁ m 98 #[own_lv x, .second] [(.int (11 : Int32))] _
                    exact kt
                  refine own_st sg93 ?_
                  have hF : (11 : Int32) = own_uc x := by unfold own_uc; rw [if_pos hc20, if_pos hc23, if_pos hc26, if_pos hc29, if_pos hc32, if_pos hc35, if_pos hc38, if_pos hc41, if_neg hc44]
                  exact own_retI X0 hx Bd.notSynchronized Bd.returns (hb hby own_d3_98) (by decide) (by decide) e0 ⟨by rw [hF], N0, rfl⟩
                have sg94 : own_V p e below s₁ (mkF m 85 #[own_lv x, .second] []) (mkF m 82 #[own_lv x, .second] [(.int (lcmpW x (100000000000 : Int64)))]) := by
                  intro t kt
                  refine XS.ifNo X0.here hx rfl (hb hby own_d3_82) rfl (own_fltL hc41).1 ?_
                  exact kt
                refine own_st sg94 ?_
                have sg95 : own_V p e below s₁ (mkF m 87 #[own_lv x, .second] [(.int (12 : Int32))]) (mkF m 85 #[own_lv x, .second] []) := by
                  intro t kt
                  refine XS.bipush X0.here hx rfl (hb hby own_d3_85) ?_
                  show own_S p e below s₁ m 87 #[own_lv x, .second] [(.int (12 : Int32))] _
                  exact kt
                refine own_st sg95 ?_
                have hF : (12 : Int32) = own_uc x := by unfold own_uc; rw [if_pos hc20, if_pos hc23, if_pos hc26, if_pos hc29, if_pos hc32, if_pos hc35, if_pos hc38, if_neg hc41]
                exact own_retI X0 hx Bd.notSynchronized Bd.returns (hb hby own_d3_87) (by decide) (by decide) e0 ⟨by rw [hF], N0, rfl⟩
              have sg96 : own_V p e below s₁ (mkF m 74 #[own_lv x, .second] []) (mkF m 71 #[own_lv x, .second] [(.int (lcmpW x (1000000000000 : Int64)))]) := by
                intro t kt
                refine XS.ifNo X0.here hx rfl (hb hby own_d3_71) rfl (own_fltL hc38).1 ?_
                exact kt
              refine own_st sg96 ?_
              have sg97 : own_V p e below s₁ (mkF m 76 #[own_lv x, .second] [(.int (13 : Int32))]) (mkF m 74 #[own_lv x, .second] []) := by
                intro t kt
                refine XS.bipush X0.here hx rfl (hb hby own_d3_74) ?_
                show own_S p e below s₁ m 76 #[own_lv x, .second] [(.int (13 : Int32))] _
                exact kt
              refine own_st sg97 ?_
              have hF : (13 : Int32) = own_uc x := by unfold own_uc; rw [if_pos hc20, if_pos hc23, if_pos hc26, if_pos hc29, if_pos hc32, if_pos hc35, if_neg hc38]
              exact own_retI X0 hx Bd.notSynchronized Bd.returns (hb hby own_d3_76) (by decide) (by decide) e0 ⟨by rw [hF], N0, rfl⟩
            have sg98 : own_V p e below s₁ (mkF m 63 #[own_lv x, .second] []) (mkF m 60 #[own_lv x, .second] [(.int (lcmpW x (10000000000000 : Int64)))]) := by
              intro t kt
              refine XS.ifNo X0.here hx rfl (hb hby own_d3_60) rfl (own_fltL hc35).1 ?_
              exact kt
            refine own_st sg98 ?_
            have sg99 : own_V p e below s₁ (mkF m 65 #[own_lv x, .second] [(.int (14 : Int32))]) (mkF m 63 #[own_lv x, .second] []) := by
              intro t kt
              refine XS.bipush X0.here hx rfl (hb hby own_d3_63) ?_
              show own_S p e below s₁ m 65 #[own_lv x, .second] [(.int (14 : Int32))] _
              exact kt
            refine own_st sg99 ?_
            have hF : (14 : Int32) = own_uc x := by unfold own_uc; rw [if_pos hc20, if_pos hc23, if_pos hc26, if_pos hc29, if_pos hc32, if_neg hc35]
            exact own_retI X0 hx Bd.notSynchronized Bd.returns (hb hby own_d3_65) (by decide) (by decide) e0 ⟨by rw [hF], N0, rfl⟩
          have sg100 : own_V p e below s₁ (mkF m 52 #[own_lv x, .second] []) (mkF m 49 #[own_lv x, .second] [(.int (lcmpW x (100000000000000 : Int64)))]) := by
            intro t kt
            refine XS.ifNo X0.here hx rfl (hb hby own_d3_49) rfl (own_fltL hc32).1 ?_
            exact kt
          refine own_st sg100 ?_
          have sg101 : own_V p e below s₁ (mkF m 54 #[own_lv x, .second] [(.int (15 : Int32))]) (mkF m 52 #[own_lv x, .second] []) := by
            intro t kt
            refine XS.bipush X0.here hx rfl (hb hby own_d3_52) ?_
            show own_S p e below s₁ m 54 #[own_lv x, .second] [(.int (15 : Int32))] _
            exact kt
          refine own_st sg101 ?_
          have hF : (15 : Int32) = own_uc x := by unfold own_uc; rw [if_pos hc20, if_pos hc23, if_pos hc26, if_pos hc29, if_neg hc32]
          exact own_retI X0 hx Bd.notSynchronized Bd.returns (hb hby own_d3_54) (by decide) (by decide) e0 ⟨by rw [hF], N0, rfl⟩
        have sg102 : own_V p e below s₁ (mkF m 41 #[own_lv x, .second] []) (mkF m 38 #[own_lv x, .second] [(.int (lcmpW x (1000000000000000 : Int64)))]) := by
          intro t kt
          refine XS.ifNo X0.here hx rfl (hb hby own_d3_38) rfl (own_fltL hc29).1 ?_
          exact kt
        refine own_st sg102 ?_
        have sg103 : own_V p e below s₁ (mkF m 43 #[own_lv x, .second] [(.int (16 : Int32))]) (mkF m 41 #[own_lv x, .second] []) := by
          intro t kt
          refine XS.bipush X0.here hx rfl (hb hby own_d3_41) ?_
          show own_S p e below s₁ m 43 #[own_lv x, .second] [(.int (16 : Int32))] _
          exact kt
        refine own_st sg103 ?_
        have hF : (16 : Int32) = own_uc x := by unfold own_uc; rw [if_pos hc20, if_pos hc23, if_pos hc26, if_neg hc29]
        exact own_retI X0 hx Bd.notSynchronized Bd.returns (hb hby own_d3_43) (by decide) (by decide) e0 ⟨by rw [hF], N0, rfl⟩
      have sg104 : own_V p e below s₁ (mkF m 30 #[own_lv x, .second] []) (mkF m 27 #[own_lv x, .second] [(.int (lcmpW x (10000000000000000 : Int64)))]) := by
        intro t kt
        refine XS.ifNo X0.here hx rfl (hb hby own_d3_27) rfl (own_fltL hc26).1 ?_
        exact kt
      refine own_st sg104 ?_
      have sg105 : own_V p e below s₁ (mkF m 32 #[own_lv x, .second] [(.int (17 : Int32))]) (mkF m 30 #[own_lv x, .second] []) := by
        intro t kt
        refine XS.bipush X0.here hx rfl (hb hby own_d3_30) ?_
        show own_S p e below s₁ m 32 #[own_lv x, .second] [(.int (17 : Int32))] _
        exact kt
      refine own_st sg105 ?_
      have hF : (17 : Int32) = own_uc x := by unfold own_uc; rw [if_pos hc20, if_pos hc23, if_neg hc26]
      exact own_retI X0 hx Bd.notSynchronized Bd.returns (hb hby own_d3_32) (by decide) (by decide) e0 ⟨by rw [hF], N0, rfl⟩
    have sg106 : own_V p e below s₁ (mkF m 19 #[own_lv x, .second] []) (mkF m 16 #[own_lv x, .second] [(.int (lcmpW x (100000000000000000 : Int64)))]) := by
      intro t kt
      refine XS.ifNo X0.here hx rfl (hb hby own_d3_16) rfl (own_fltL hc23).1 ?_
      exact kt
    refine own_st sg106 ?_
    have sg107 : own_V p e below s₁ (mkF m 21 #[own_lv x, .second] [(.int (18 : Int32))]) (mkF m 19 #[own_lv x, .second] []) := by
      intro t kt
      refine XS.bipush X0.here hx rfl (hb hby own_d3_19) ?_
      show own_S p e below s₁ m 21 #[own_lv x, .second] [(.int (18 : Int32))] _
      exact kt
    refine own_st sg107 ?_
    have hF : (18 : Int32) = own_uc x := by unfold own_uc; rw [if_pos hc20, if_neg hc23]
    exact own_retI X0 hx Bd.notSynchronized Bd.returns (hb hby own_d3_21) (by decide) (by decide) e0 ⟨by rw [hF], N0, rfl⟩
  have sg108 : own_V p e below s₁ (mkF m 8 #[own_lv x, .second] []) (mkF m 5 #[own_lv x, .second] [(.int (lcmpW x (1000000000000000000 : Int64)))]) := by
    intro t kt
    refine XS.ifNo X0.here hx rfl (hb hby own_d3_5) rfl (own_fltL hc20).1 ?_
    exact kt
  refine own_st sg108 ?_
  have sg109 : own_V p e below s₁ (mkF m 10 #[own_lv x, .second] [(.int (19 : Int32))]) (mkF m 8 #[own_lv x, .second] []) := by
    intro t kt
    refine XS.bipush X0.here hx rfl (hb hby own_d3_8) ?_
    show own_S p e below s₁ m 10 #[own_lv x, .second] [(.int (19 : Int32))] _
    exact kt
  refine own_st sg109 ?_
  have hF : (19 : Int32) = own_uc x := by unfold own_uc; rw [if_neg hc20]
  exact own_retI X0 hx Bd.notSynchronized Bd.returns (hb hby own_d3_10) (by decide) (by decide) e0 ⟨by rw [hF], N0, rfl⟩
theorem own_uc_nd (x : Int64) (U : Nat) (h : x.toInt = (U : Int)) : (own_uc x).toInt = ((own_nd U : Nat) : Int) := by
  have rx := rng64 x
  have t1 : (10 : Int64).toInt = 10 := by decide
  have t2 : (100 : Int64).toInt = 100 := by decide
  have t3 : (1000 : Int64).toInt = 1000 := by decide
  have t4 : (10000 : Int64).toInt = 10000 := by decide
  have t5 : (100000 : Int64).toInt = 100000 := by decide
  have t6 : (1000000 : Int64).toInt = 1000000 := by decide
  have t7 : (10000000 : Int64).toInt = 10000000 := by decide
  have t8 : (100000000 : Int64).toInt = 100000000 := by decide
  have t9 : (1000000000 : Int64).toInt = 1000000000 := by decide
  have t10 : (10000000000 : Int64).toInt = 10000000000 := by decide
  have t11 : (100000000000 : Int64).toInt = 100000000000 := by decide
  have t12 : (1000000000000 : Int64).toInt = 1000000000000 := by decide
  have t13 : (10000000000000 : Int64).toInt = 10000000000000 := by decide
  have t14 : (100000000000000 : Int64).toInt = 100000000000000 := by decide
  have t15 : (1000000000000000 : Int64).toInt = 1000000000000000 := by decide
  have t16 : (10000000000000000 : Int64).toInt = 10000000000000000 := by decide
  have t17 : (100000000000000000 : Int64).toInt = 100000000000000000 := by decide
  have t18 : (1000000000000000000 : Int64).toInt = 1000000000000000000 := by decide
  have key : ∀ k, 10 ^ k ≤ U → U < 10 ^ (k + 1) → own_nd U = k + 1 := fun k q1 q2 => by
    have a1 := own_nd_lt k U (Or.inr (fun z => by have := (Nat.div_eq_zero_iff).mp z; have h10 : 0 < 10 ^ k := Nat.pow_pos (by decide); omega))
    have a2 := own_nd_le k U (Nat.div_eq_of_lt q2)
    omega
  unfold own_uc
  simp only [Int64.lt_iff_toInt_lt, t1, t2, t3, t4, t5, t6, t7, t8, t9, t10, t11, t12, t13, t14, t15, t16, t17, t18]
  by_cases q18 : ¬ x.toInt < 1000000000000000000
  · rw [if_neg q18, key 18 (by have : (10 : Nat) ^ 18 = 1000000000000000000 := (by decide); omega) (by have : (10 : Nat) ^ (18 + 1) = 10000000000000000000 := (by decide); omega)]; decide
  rw [if_pos (Classical.not_not.mp q18)]
  by_cases q17 : ¬ x.toInt < 100000000000000000
  · rw [if_neg q17, key 17 (by have : (10 : Nat) ^ 17 = 100000000000000000 := (by decide); omega) (by have : (10 : Nat) ^ (17 + 1) = 1000000000000000000 := (by decide); omega)]; decide
  rw [if_pos (Classical.not_not.mp q17)]
  by_cases q16 : ¬ x.toInt < 10000000000000000
  · rw [if_neg q16, key 16 (by have : (10 : Nat) ^ 16 = 10000000000000000 := (by decide); omega) (by have : (10 : Nat) ^ (16 + 1) = 100000000000000000 := (by decide); omega)]; decide
  rw [if_pos (Classical.not_not.mp q16)]
  by_cases q15 : ¬ x.toInt < 1000000000000000
  · rw [if_neg q15, key 15 (by have : (10 : Nat) ^ 15 = 1000000000000000 := (by decide); omega) (by have : (10 : Nat) ^ (15 + 1) = 10000000000000000 := (by decide); omega)]; decide
  rw [if_pos (Classical.not_not.mp q15)]
  by_cases q14 : ¬ x.toInt < 100000000000000
  · rw [if_neg q14, key 14 (by have : (10 : Nat) ^ 14 = 100000000000000 := (by decide); omega) (by have : (10 : Nat) ^ (14 + 1) = 1000000000000000 := (by decide); omega)]; decide
  rw [if_pos (Classical.not_not.mp q14)]
  by_cases q13 : ¬ x.toInt < 10000000000000
  · rw [if_neg q13, key 13 (by have : (10 : Nat) ^ 13 = 10000000000000 := (by decide); omega) (by have : (10 : Nat) ^ (13 + 1) = 100000000000000 := (by decide); omega)]; decide
  rw [if_pos (Classical.not_not.mp q13)]
  by_cases q12 : ¬ x.toInt < 1000000000000
  · rw [if_neg q12, key 12 (by have : (10 : Nat) ^ 12 = 1000000000000 := (by decide); omega) (by have : (10 : Nat) ^ (12 + 1) = 10000000000000 := (by decide); omega)]; decide
  rw [if_pos (Classical.not_not.mp q12)]
  by_cases q11 : ¬ x.toInt < 100000000000
  · rw [if_neg q11, key 11 (by have : (10 : Nat) ^ 11 = 100000000000 := (by decide); omega) (by have : (10 : Nat) ^ (11 + 1) = 1000000000000 := (by decide); omega)]; decide
  rw [if_pos (Classical.not_not.mp q11)]
  by_cases q10 : ¬ x.toInt < 10000000000
  · rw [if_neg q10, key 10 (by have : (10 : Nat) ^ 10 = 10000000000 := (by decide); omega) (by have : (10 : Nat) ^ (10 + 1) = 100000000000 := (by decide); omega)]; decide
  rw [if_pos (Classical.not_not.mp q10)]
  by_cases q9 : ¬ x.toInt < 1000000000
  · rw [if_neg q9, key 9 (by have : (10 : Nat) ^ 9 = 1000000000 := (by decide); omega) (by have : (10 : Nat) ^ (9 + 1) = 10000000000 := (by decide); omega)]; decide
  rw [if_pos (Classical.not_not.mp q9)]
  by_cases q8 : ¬ x.toInt < 100000000
  · rw [if_neg q8, key 8 (by have : (10 : Nat) ^ 8 = 100000000 := (by decide); omega) (by have : (10 : Nat) ^ (8 + 1) = 1000000000 := (by decide); omega)]; decide
  rw [if_pos (Classical.not_not.mp q8)]
  by_cases q7 : ¬ x.toInt < 10000000
  · rw [if_neg q7, key 7 (by have : (10 : Nat) ^ 7 = 10000000 := (by decide); omega) (by have : (10 : Nat) ^ (7 + 1) = 100000000 := (by decide); omega)]; decide
  rw [if_pos (Classical.not_not.mp q7)]
  by_cases q6 : ¬ x.toInt < 1000000
  · rw [if_neg q6, key 6 (by have : (10 : Nat) ^ 6 = 1000000 := (by decide); omega) (by have : (10 : Nat) ^ (6 + 1) = 10000000 := (by decide); omega)]; decide
  rw [if_pos (Classical.not_not.mp q6)]
  by_cases q5 : ¬ x.toInt < 100000
  · rw [if_neg q5, key 5 (by have : (10 : Nat) ^ 5 = 100000 := (by decide); omega) (by have : (10 : Nat) ^ (5 + 1) = 1000000 := (by decide); omega)]; decide
  rw [if_pos (Classical.not_not.mp q5)]
  by_cases q4 : ¬ x.toInt < 10000
  · rw [if_neg q4, key 4 (by have : (10 : Nat) ^ 4 = 10000 := (by decide); omega) (by have : (10 : Nat) ^ (4 + 1) = 100000 := (by decide); omega)]; decide
  rw [if_pos (Classical.not_not.mp q4)]
  by_cases q3 : ¬ x.toInt < 1000
  · rw [if_neg q3, key 3 (by have : (10 : Nat) ^ 3 = 1000 := (by decide); omega) (by have : (10 : Nat) ^ (3 + 1) = 10000 := (by decide); omega)]; decide
  rw [if_pos (Classical.not_not.mp q3)]
  by_cases q2 : ¬ x.toInt < 100
  · rw [if_neg q2, key 2 (by have : (10 : Nat) ^ 2 = 100 := (by decide); omega) (by have : (10 : Nat) ^ (2 + 1) = 1000 := (by decide); omega)]; decide
  rw [if_pos (Classical.not_not.mp q2)]
  by_cases q1 : ¬ x.toInt < 10
  · rw [if_neg q1, key 1 (by have : (10 : Nat) ^ 1 = 10 := (by decide); omega) (by have : (10 : Nat) ^ (1 + 1) = 100 := (by decide); omega)]; decide
  rw [if_pos (Classical.not_not.mp q1)]
  have hz : own_nd U = 1 := by
    have := own_nd_le 0 U (by have : (10 : Nat) ^ (0 + 1) = 10 := (by decide); rw [this]; omega)
    have := own_nd_pos U
    omega
  rw [hz]; decide
def own_exp (ks nd kd U D j : Nat) : Int32 := if j < ks then 45 else if j - ks < nd then own_ch (U / 10 ^ (nd - 1 - (j - ks))) else if j - ks = nd then 46 else own_ch (D / 10 ^ (kd - 1 - (j - ks - nd - 1)))
theorem own_sub (x y : Int32) (a b : Nat) (h1 : x.toInt = (a : Int)) (h2 : y.toInt = (b : Int)) (hb : b ≤ a) : (x - y).toInt = ((a - b : Nat) : Int) := by
  have c := c_isub x y
  have r := rng32 (x - y)
  have r1 := rng32 x
  omega
theorem own_sub1 (x : Int32) (a : Nat) (h1 : x.toInt = (a : Int)) (hb : 1 ≤ a) : (x - (1 : Int32)).toInt = ((a - 1 : Nat) : Int) := own_sub x 1 a 1 h1 (by decide) hb
theorem own_exd (x z : Int64) (N k : Nat) (h1 : x.toInt = (N : Int)) (hk : k < 19) (hz : z = own_p10 k) : ((48 : Int64) + ((x / z) - ((x / z) / (10 : Int64)) * (10 : Int64))).toInt32 = own_ch (N / 10 ^ k) := by
  have hp := own_p10_toInt k hk
  rw [← hz] at hp
  have h10 : 0 < 10 ^ k := Nat.pow_pos (by decide)
  have hn : z ≠ -1 := fun q => by
    rw [q] at hp
    have : (-1 : Int64).toInt = -1 := by decide
    omega
  have d1 := (c_ldiv x z _ hp hn).1 (by omega)
  have d2 : (x / z).toInt = ((N / 10 ^ k : Nat) : Int) := by rw [d1, h1]; rfl
  have h2 := own_lrem10 (x / z) _ d2
  generalize ((x / z) - ((x / z) / (10 : Int64)) * (10 : Int64)) = y at *
  have c := c_ladd 48 y
  have r := rng64 ((48 : Int64) + y)
  have e : (48 : Int64).toInt = 48 := by decide
  rw [e] at c
  have c2 := c_l2i ((48 : Int64) + y)
  have r2 := rng32 ((48 : Int64) + y).toInt32
  have hm : (N / 10 ^ k) % 10 < 10 := Nat.mod_lt _ (by decide)
  apply own_eqI
  rw [own_ch_toInt]
  omega
theorem own_p10ne (k : Nat) (hk : k < 19) (z : Int64) (hz : z = own_p10 k) : z ≠ 0 := fun q => by
  have hp := own_p10_toInt k hk
  have h10 : 0 < 10 ^ k := Nat.pow_pos (by decide)
  rw [← hz, q] at hp
  have : (0 : Int64).toInt = 0 := by decide
  omega
theorem own_ltN (x y : Int32) (a b : Nat) (h1 : x.toInt = (a : Int)) (h2 : y.toInt = (b : Int)) : x < y ↔ a < b := by rw [Int32.lt_iff_toInt_lt]; omega
theorem own_eqN (x y : Int32) (a b : Nat) (h1 : x.toInt = (a : Int)) (h2 : y.toInt = (b : Int)) : x = y ↔ a = b := ⟨fun q => by rw [q] at h1; omega, fun q => own_eqI (by omega)⟩
theorem own_d4_0 : decode method_3_code 0 = .ok (.iload 7, 2) := by decide +kernel
theorem own_d4_2 : decode method_3_code 2 = .ok (.iload_n 0, 1) := by decide +kernel
theorem own_d4_3 : decode method_3_code 3 = .ok (.if_icmp .ge 6, 3) := by decide +kernel
theorem own_d4_6 : decode method_3_code 6 = .ok (.bipush 45, 2) := by decide +kernel
theorem own_d4_8 : decode method_3_code 8 = .ok (.ireturn, 1) := by decide +kernel
theorem own_d4_9 : decode method_3_code 9 = .ok (.iload 7, 2) := by decide +kernel
theorem own_d4_11 : decode method_3_code 11 = .ok (.iload_n 0, 1) := by decide +kernel
theorem own_d4_12 : decode method_3_code 12 = .ok (.isub, 1) := by decide +kernel
theorem own_d4_13 : decode method_3_code 13 = .ok (.istore 8, 2) := by decide +kernel
theorem own_d4_15 : decode method_3_code 15 = .ok (.iload 8, 2) := by decide +kernel
theorem own_d4_17 : decode method_3_code 17 = .ok (.iload 6, 2) := by decide +kernel
theorem own_d4_19 : decode method_3_code 19 = .ok (.if_icmp .ge 25, 3) := by decide +kernel
theorem own_d4_22 : decode method_3_code 22 = .ok (.ldc2_w 32, 3) := by decide +kernel
theorem own_d4_25 : decode method_3_code 25 = .ok (.lload_n 1, 1) := by decide +kernel
theorem own_d4_26 : decode method_3_code 26 = .ok (.iload 6, 2) := by decide +kernel
theorem own_d4_28 : decode method_3_code 28 = .ok (.iconst 1, 1) := by decide +kernel
theorem own_d4_29 : decode method_3_code 29 = .ok (.isub, 1) := by decide +kernel
theorem own_d4_30 : decode method_3_code 30 = .ok (.iload 8, 2) := by decide +kernel
theorem own_d4_32 : decode method_3_code 32 = .ok (.isub, 1) := by decide +kernel
theorem own_d4_33 : decode method_3_code 33 = .ok (.invokestatic 12, 3) := by decide +kernel
theorem own_d4_36 : decode method_3_code 36 = .ok (.ldiv, 1) := by decide +kernel
theorem own_d4_37 : decode method_3_code 37 = .ok (.ldc2_w 34, 3) := by decide +kernel
theorem own_d4_40 : decode method_3_code 40 = .ok (.lrem, 1) := by decide +kernel
theorem own_d4_41 : decode method_3_code 41 = .ok (.ladd, 1) := by decide +kernel
theorem own_d4_42 : decode method_3_code 42 = .ok (.l2i, 1) := by decide +kernel
theorem own_d4_43 : decode method_3_code 43 = .ok (.ireturn, 1) := by decide +kernel
theorem own_d4_44 : decode method_3_code 44 = .ok (.iload 8, 2) := by decide +kernel
theorem own_d4_46 : decode method_3_code 46 = .ok (.iload 6, 2) := by decide +kernel
theorem own_d4_48 : decode method_3_code 48 = .ok (.if_icmp .ne 6, 3) := by decide +kernel
theorem own_d4_51 : decode method_3_code 51 = .ok (.bipush 46, 2) := by decide +kernel
theorem own_d4_53 : decode method_3_code 53 = .ok (.ireturn, 1) := by decide +kernel
theorem own_d4_54 : decode method_3_code 54 = .ok (.iload 8, 2) := by decide +kernel
theorem own_d4_56 : decode method_3_code 56 = .ok (.iload 6, 2) := by decide +kernel
theorem own_d4_58 : decode method_3_code 58 = .ok (.isub, 1) := by decide +kernel
theorem own_d4_59 : decode method_3_code 59 = .ok (.iconst 1, 1) := by decide +kernel
theorem own_d4_60 : decode method_3_code 60 = .ok (.isub, 1) := by decide +kernel
theorem own_d4_61 : decode method_3_code 61 = .ok (.istore 9, 2) := by decide +kernel
theorem own_d4_63 : decode method_3_code 63 = .ok (.ldc2_w 32, 3) := by decide +kernel
theorem own_d4_66 : decode method_3_code 66 = .ok (.lload_n 3, 1) := by decide +kernel
theorem own_d4_67 : decode method_3_code 67 = .ok (.iload 5, 2) := by decide +kernel
theorem own_d4_69 : decode method_3_code 69 = .ok (.iconst 1, 1) := by decide +kernel
theorem own_d4_70 : decode method_3_code 70 = .ok (.isub, 1) := by decide +kernel
theorem own_d4_71 : decode method_3_code 71 = .ok (.iload 9, 2) := by decide +kernel
theorem own_d4_73 : decode method_3_code 73 = .ok (.isub, 1) := by decide +kernel
theorem own_d4_74 : decode method_3_code 74 = .ok (.invokestatic 12, 3) := by decide +kernel
theorem own_d4_77 : decode method_3_code 77 = .ok (.ldiv, 1) := by decide +kernel
theorem own_d4_78 : decode method_3_code 78 = .ok (.ldc2_w 34, 3) := by decide +kernel
theorem own_d4_81 : decode method_3_code 81 = .ok (.lrem, 1) := by decide +kernel
theorem own_d4_82 : decode method_3_code 82 = .ok (.ladd, 1) := by decide +kernel
theorem own_d4_83 : decode method_3_code 83 = .ok (.l2i, 1) := by decide +kernel
theorem own_d4_84 : decode method_3_code 84 = .ok (.ireturn, 1) := by decide +kernel
theorem own_pd0 : parseMethodDescriptor "(I)J" = some ⟨[.int], some .long⟩ := by decide +kernel
theorem own_efex (m : MethodId) (sg : Int32) (un : Int64) (dg : Int64) (dec : Int32) (u : Int32) (j : Int32) : entryFrame m #[(.int sg), (.long un), (.long dg), (.int dec), (.int u), (.int j)] 10 = mkF m 0 #[iv sg, own_lv un, .second, own_lv dg, .second, iv dec, iv u, iv j, .unset, .unset] [] := by first | (simp [entryFrame, mkF, argsToLocals, Value.category]; done) | rfl
set_option maxRecDepth 65536 in
set_option maxHeartbeats 40000000 in
theorem own_rmex (l : Launch) (Z : State) (a0 : Array Value) (hw : ∀ d ∈ tables_1, d.before a0 Z = true) (sg : Int32) (un : Int64) (dg : Int64) (dec : Int32) (u : Int32) (j : Int32) (ks nd kd U D kj : Nat) (h0 : Heap) (n0 : Nat) (Z0 : n0 ≤ h0.size) (hks : sg.toInt = (ks : Int)) (hU : un.toInt = (U : Int)) (hD : dg.toInt = (D : Int)) (hkd : dec.toInt = (kd : Int)) (hnd : u.toInt = (nd : Int)) (hkj : j.toInt = (kj : Int)) (hn19 : nd ≤ 19) (hd9 : kd ≤ 9) (hjl : kj < ks + nd + 1 + kd) :
    own_Ct l Z (⟨"com/example/coverfold/coverfold/RationalPutFixedPinLaw", "expected", "(IJJIII)I"⟩ : MethodName) method_3_code 10 (some .int) ({ frames := 1, cells := 1, slots := 19, locals := 17 } : Room) #[(.int sg), (.long un), (.long dg), (.int dec), (.int u), (.int j)] h0 (fun v h L => v = some (.int (own_exp ks nd kd U D kj)) ∧ Fr n0 L ∧ Keep h0 h []) := by
  refine own_body (y := (⟨"com/example/coverfold/coverfold/RationalPutFixedPinLaw", "expected", "(IJJIII)I"⟩ : MethodName)) (Q := fun v h L => v = some (.int (own_exp ks nd kd U D kj)) ∧ Fr n0 L ∧ Keep h0 h []) (plainFor_of_name own_pn1) ?_
  intro p e s m below meth c s₁ Bd hml0 hZ e0
  have hx := Bd.exec
  have hby := Bd.bytes
  have hml : c.maxLocals = 10 := hml0
  have hown : s.vm.findClass "com/example/coverfold/coverfold/RationalPutFixedPinLaw" = some m.cls := findClass_of_methodNamed Bd.named
  have hnm := (name_of_methodNamed Bd.named Bd.method).1
  have X0 : Stand p l e ({ frames := 1, cells := 1, slots := 19, locals := 17 } : Room) s m #[(.int sg), (.long un), (.long dg), (.int dec), (.int u), (.int j)] below meth c s₁ [] 0 0 := Stand.of_body Bd
  have N0 := Fr.nil n0
  rw [own_efex]
  have sg1 : own_V p e below s₁ (mkF m 3 #[iv sg, own_lv un, .second, own_lv dg, .second, iv dec, iv u, iv j, .unset, .unset] [(.int sg), (.int j)]) (mkF m 0 #[iv sg, own_lv un, .second, own_lv dg, .second, iv dec, iv u, iv j, .unset, .unset] []) := by
    intro t kt
    refine XS.iload X0.here hx rfl (hb hby own_d4_0) rfl ?_
    show own_S p e below s₁ m 2 #[iv sg, own_lv un, .second, own_lv dg, .second, iv dec, iv u, iv j, .unset, .unset] [(.int j)] _
    refine XS.iloadN X0.here hx rfl (hb hby own_d4_2) rfl ?_
    show own_S p e below s₁ m 3 #[iv sg, own_lv un, .second, own_lv dg, .second, iv dec, iv u, iv j, .unset, .unset] [(.int sg), (.int j)] _
    exact kt
  refine own_st sg1 ?_
  by_cases hc2 : j < sg
  · skip
    have sg3 : own_V p e below s₁ (mkF m 6 #[iv sg, own_lv un, .second, own_lv dg, .second, iv dec, iv u, iv j, .unset, .unset] []) (mkF m 3 #[iv sg, own_lv un, .second, own_lv dg, .second, iv dec, iv u, iv j, .unset, .unset] [(.int sg), (.int j)]) := by
      intro t kt
      refine XS.icmpNo X0.here hx rfl (hb hby own_d4_3) rfl (tlt hc2).2.1 ?_
      exact kt
    refine own_st sg3 ?_
    have sg4 : own_V p e below s₁ (mkF m 8 #[iv sg, own_lv un, .second, own_lv dg, .second, iv dec, iv u, iv j, .unset, .unset] [(.int (45 : Int32))]) (mkF m 6 #[iv sg, own_lv un, .second, own_lv dg, .second, iv dec, iv u, iv j, .unset, .unset] []) := by
      intro t kt
      refine XS.bipush X0.here hx rfl (hb hby own_d4_6) ?_
      show own_S p e below s₁ m 8 #[iv sg, own_lv un, .second, own_lv dg, .second, iv dec, iv u, iv j, .unset, .unset] [(.int (45 : Int32))] _
      exact kt
    refine own_st sg4 ?_
    exact own_retI X0 hx Bd.notSynchronized Bd.returns (hb hby own_d4_8) (by decide) (by decide) e0 ⟨by rw [show own_exp ks nd kd U D kj = 45 from if_pos ((own_ltN j sg kj ks hkj hks).mp hc2)], N0, Keep.refl _ _⟩
  have sg5 : own_V p e below s₁ (mkF m 9 #[iv sg, own_lv un, .second, own_lv dg, .second, iv dec, iv u, iv j, .unset, .unset] []) (mkF m 3 #[iv sg, own_lv un, .second, own_lv dg, .second, iv dec, iv u, iv j, .unset, .unset] [(.int sg), (.int j)]) := by
    intro t kt
    refine XS.icmpYes X0.here hx rfl (pc0 := 3) (pc' := 9) rfl (hb hby own_d4_3) rfl (flt hc2).2.1 (by decide) (by decide) ?_
    exact kt
  refine own_st sg5 ?_
  have h1 : ¬ kj < ks := fun z => hc2 ((own_ltN j sg kj ks hkj hks).mpr z)
  obtain ⟨d, hd⟩ : ∃ z : Int32, z = (j - sg) := ⟨_, rfl⟩
  have sg6 : own_V p e below s₁ (mkF m 15 #[iv sg, own_lv un, .second, own_lv dg, .second, iv dec, iv u, iv j, iv d, .unset] []) (mkF m 9 #[iv sg, own_lv un, .second, own_lv dg, .second, iv dec, iv u, iv j, .unset, .unset] []) := by
    intro t kt
    refine XS.iload X0.here hx rfl (hb hby own_d4_9) rfl ?_
    show own_S p e below s₁ m 11 #[iv sg, own_lv un, .second, own_lv dg, .second, iv dec, iv u, iv j, .unset, .unset] [(.int j)] _
    refine XS.iloadN X0.here hx rfl (hb hby own_d4_11) rfl ?_
    show own_S p e below s₁ m 12 #[iv sg, own_lv un, .second, own_lv dg, .second, iv dec, iv u, iv j, .unset, .unset] [(.int sg), (.int j)] _
    refine XS.isub X0.here hx rfl (hb hby own_d4_12) rfl ?_
    show own_S p e below s₁ m 13 #[iv sg, own_lv un, .second, own_lv dg, .second, iv dec, iv u, iv j, .unset, .unset] [(.int (j - sg))] _
    refine XS.istore X0.here hx rfl (hb hby own_d4_13) rfl (l' := #[iv sg, own_lv un, .second, own_lv dg, .second, iv dec, iv u, iv j, iv (j - sg), .unset]) rfl ?_
    show own_S p e below s₁ m 15 #[iv sg, own_lv un, .second, own_lv dg, .second, iv dec, iv u, iv j, iv (j - sg), .unset] [] _
    rw [hd] at kt
    exact kt
  refine own_st sg6 ?_
  have hd' : d.toInt = ((kj - ks : Nat) : Int) := by rw [hd]; exact own_sub j sg kj ks hkj hks (by omega)
  have sg7 : own_V p e below s₁ (mkF m 19 #[iv sg, own_lv un, .second, own_lv dg, .second, iv dec, iv u, iv j, iv d, .unset] [(.int u), (.int d)]) (mkF m 15 #[iv sg, own_lv un, .second, own_lv dg, .second, iv dec, iv u, iv j, iv d, .unset] []) := by
    intro t kt
    refine XS.iload X0.here hx rfl (hb hby own_d4_15) rfl ?_
    show own_S p e below s₁ m 17 #[iv sg, own_lv un, .second, own_lv dg, .second, iv dec, iv u, iv j, iv d, .unset] [(.int d)] _
    refine XS.iload X0.here hx rfl (hb hby own_d4_17) rfl ?_
    show own_S p e below s₁ m 19 #[iv sg, own_lv un, .second, own_lv dg, .second, iv dec, iv u, iv j, iv d, .unset] [(.int u), (.int d)] _
    exact kt
  refine own_st sg7 ?_
  by_cases hc8 : d < u
  · skip
    have sg9 : own_V p e below s₁ (mkF m 22 #[iv sg, own_lv un, .second, own_lv dg, .second, iv dec, iv u, iv j, iv d, .unset] []) (mkF m 19 #[iv sg, own_lv un, .second, own_lv dg, .second, iv dec, iv u, iv j, iv d, .unset] [(.int u), (.int d)]) := by
      intro t kt
      refine XS.icmpNo X0.here hx rfl (hb hby own_d4_19) rfl (tlt hc8).2.1 ?_
      exact kt
    refine own_st sg9 ?_
    have h2 : kj - ks < nd := (own_ltN d u _ nd hd' hnd).mp hc8
    obtain ⟨ee, hee⟩ : ∃ z : Int32, z = ((u - (1 : Int32)) - d) := ⟨_, rfl⟩
    have sg10 : own_V p e below s₁ (mkF m 33 #[iv sg, own_lv un, .second, own_lv dg, .second, iv dec, iv u, iv j, iv d, .unset] [(.int ee), (.long un), (.long (48 : Int64))]) (mkF m 22 #[iv sg, own_lv un, .second, own_lv dg, .second, iv dec, iv u, iv j, iv d, .unset] []) := by
      intro t kt
      refine X0.ldc2Long hx hown (mvT hZ (hw _ (List.mem_of_getElem? (i := 38) rfl))) (g := (mkF m 22 #[iv sg, own_lv un, .second, own_lv dg, .second, iv dec, iv u, iv j, iv d, .unset] [])) rfl (hb hby own_d4_22) _ ?_
      show own_S p e below s₁ m 25 #[iv sg, own_lv un, .second, own_lv dg, .second, iv dec, iv u, iv j, iv d, .unset] [(.long (48 : Int64))] _
      refine XS.lloadN X0.here hx rfl (hb hby own_d4_25) rfl ?_
      show own_S p e below s₁ m 26 #[iv sg, own_lv un, .second, own_lv dg, .second, iv dec, iv u, iv j, iv d, .unset] [(.long un), (.long (48 : Int64))] _
      refine XS.iload X0.here hx rfl (hb hby own_d4_26) rfl ?_
      show own_S p e below s₁ m 28 #[iv sg, own_lv un, .second, own_lv dg, .second, iv dec, iv u, iv j, iv d, .unset] [(.int u), (.long un), (.long (48 : Int64))] _
      refine XS.iconst X0.here hx rfl (hb hby own_d4_28) ?_
      show own_S p e below s₁ m 29 #[iv sg, own_lv un, .second, own_lv dg, .second, iv dec, iv u, iv j, iv d, .unset] [(.int (1 : Int32)), (.int u), (.long un), (.long (48 : Int64))] _
      refine XS.isub X0.here hx rfl (hb hby own_d4_29) rfl ?_
      show own_S p e below s₁ m 30 #[iv sg, own_lv un, .second, own_lv dg, .second, iv dec, iv u, iv j, iv d, .unset] [(.int (u - (1 : Int32))), (.long un), (.long (48 : Int64))] _
      refine XS.iload X0.here hx rfl (hb hby own_d4_30) rfl ?_
      show own_S p e below s₁ m 32 #[iv sg, own_lv un, .second, own_lv dg, .second, iv dec, iv u, iv j, iv d, .unset] [(.int d), (.int (u - (1 : Int32))), (.long un), (.long (48 : Int64))] _
      refine XS.isub X0.here hx rfl (hb hby own_d4_32) rfl ?_
      show own_S p e below s₁ m 33 #[iv sg, own_lv un, .second, own_lv dg, .second, iv dec, iv u, iv j, iv d, .unset] [(.int ((u - (1 : Int32)) - d)), (.long un), (.long (48 : Int64))] _
      rw [hee] at kt
      exact kt
    refine own_st sg10 ?_
    have hee' : ee.toInt = ((nd - 1 - (kj - ks) : Nat) : Int) := by rw [hee]; exact own_sub _ d _ _ (own_sub1 u nd hnd (by omega)) hd' (by omega)
    obtain ⟨_, T11, L11, X11, hQ11, st11⟩ := own_callS (y := (⟨"com/example/coverfold/coverfold/RationalPutFixedPinLaw", "pow10", "(I)J"⟩ : MethodName)) X0 hx hZ hown (hw _ (List.mem_of_getElem? (i := 2) rfl)) (hw _ (List.mem_of_getElem? (i := 3) rfl)) (hw _ (List.mem_of_getElem? (i := 4) rfl)) (hw _ (List.mem_of_getElem? (i := 5) rfl)) (by decide) (own_rmp10 l Z a0 hw ee (nd - 1 - (kj - ks)) h0 n0 Z0 hee' (by omega)) e0 (g := (mkF m 33 #[iv sg, own_lv un, .second, own_lv dg, .second, iv dec, iv u, iv j, iv d, .unset] [(.int ee), (.long un), (.long (48 : Int64))])) rfl (by rw [hml]; rfl) (argsL := [(.int ee)]) (rest := [(.long un), (.long (48 : Int64))]) (lenOf own_pd0 rfl) rfl (W := 4) (by show 2 * 0 + _ ≤ _; exact Nat.le_of_eq rfl) (hb hby own_d4_33) (by decide) (by decide) (by decide) (by decide)
    obtain ⟨rfl, Nq11, K11⟩ := hQ11
    refine own_st st11 ?_
    have Z11 : n0 ≤ T11.heap.size := Nat.le_trans Z0 K11.1
    have N11 := Fr.app N0 Nq11
    show own_Go p e below _ T11 (mkF m 36 #[iv sg, own_lv un, .second, own_lv dg, .second, iv dec, iv u, iv j, iv d, .unset] [(.long (own_p10 (nd - 1 - (kj - ks)))), (.long un), (.long (48 : Int64))])
    have sg12 : own_V p e below T11 (mkF m 43 #[iv sg, own_lv un, .second, own_lv dg, .second, iv dec, iv u, iv j, iv d, .unset] [(.int ((48 : Int64) + ((un / (own_p10 (nd - 1 - (kj - ks)))) - ((un / (own_p10 (nd - 1 - (kj - ks)))) / (10 : Int64)) * (10 : Int64))).toInt32)]) (mkF m 36 #[iv sg, own_lv un, .second, own_lv dg, .second, iv dec, iv u, iv j, iv d, .unset] [(.long (own_p10 (nd - 1 - (kj - ks)))), (.long un), (.long (48 : Int64))]) := by
      intro t kt
      refine XS.ldiv X11.here hx rfl (hb hby own_d4_36) rfl (own_p10ne _ (by omega) _ rfl) ?_
      show own_S p e below T11 m 37 #[iv sg, own_lv un, .second, own_lv dg, .second, iv dec, iv u, iv j, iv d, .unset] [(.long (un / (own_p10 (nd - 1 - (kj - ks))))), (.long (48 : Int64))] _
      refine X11.ldc2Long hx hown (mvT hZ (hw _ (List.mem_of_getElem? (i := 7) rfl))) (g := (mkF m 37 #[iv sg, own_lv un, .second, own_lv dg, .second, iv dec, iv u, iv j, iv d, .unset] [(.long (un / (own_p10 (nd - 1 - (kj - ks))))), (.long (48 : Int64))])) rfl (hb hby own_d4_37) _ ?_
      show own_S p e below T11 m 40 #[iv sg, own_lv un, .second, own_lv dg, .second, iv dec, iv u, iv j, iv d, .unset] [(.long (10 : Int64)), (.long (un / (own_p10 (nd - 1 - (kj - ks))))), (.long (48 : Int64))] _
      refine XS.lrem X11.here hx rfl (hb hby own_d4_40) rfl (by decide) ?_
      show own_S p e below T11 m 41 #[iv sg, own_lv un, .second, own_lv dg, .second, iv dec, iv u, iv j, iv d, .unset] [(.long ((un / (own_p10 (nd - 1 - (kj - ks)))) - ((un / (own_p10 (nd - 1 - (kj - ks)))) / (10 : Int64)) * (10 : Int64))), (.long (48 : Int64))] _
      refine XS.ladd X11.here hx rfl (hb hby own_d4_41) rfl ?_
      show own_S p e below T11 m 42 #[iv sg, own_lv un, .second, own_lv dg, .second, iv dec, iv u, iv j, iv d, .unset] [(.long ((48 : Int64) + ((un / (own_p10 (nd - 1 - (kj - ks)))) - ((un / (own_p10 (nd - 1 - (kj - ks)))) / (10 : Int64)) * (10 : Int64))))] _
      refine XS.l2i X11.here hx rfl (hb hby own_d4_42) rfl ?_
      show own_S p e below T11 m 43 #[iv sg, own_lv un, .second, own_lv dg, .second, iv dec, iv u, iv j, iv d, .unset] [(.int ((48 : Int64) + ((un / (own_p10 (nd - 1 - (kj - ks)))) - ((un / (own_p10 (nd - 1 - (kj - ks)))) / (10 : Int64)) * (10 : Int64))).toInt32)] _
      exact kt
    refine own_st sg12 ?_
    exact own_retI X11 hx Bd.notSynchronized Bd.returns (hb hby own_d4_43) (by decide) (by decide) rfl ⟨by rw [own_exd un _ U _ hU (by omega) rfl, show own_exp ks nd kd U D kj = _ from (if_neg h1).trans (if_pos h2)], N11, K11⟩
  have sg13 : own_V p e below s₁ (mkF m 44 #[iv sg, own_lv un, .second, own_lv dg, .second, iv dec, iv u, iv j, iv d, .unset] []) (mkF m 19 #[iv sg, own_lv un, .second, own_lv dg, .second, iv dec, iv u, iv j, iv d, .unset] [(.int u), (.int d)]) := by
    intro t kt
    refine XS.icmpYes X0.here hx rfl (pc0 := 19) (pc' := 44) rfl (hb hby own_d4_19) rfl (flt hc8).2.1 (by decide) (by decide) ?_
    exact kt
  refine own_st sg13 ?_
  have h2 : ¬ kj - ks < nd := fun z => hc8 ((own_ltN d u _ nd hd' hnd).mpr z)
  have sg14 : own_V p e below s₁ (mkF m 48 #[iv sg, own_lv un, .second, own_lv dg, .second, iv dec, iv u, iv j, iv d, .unset] [(.int u), (.int d)]) (mkF m 44 #[iv sg, own_lv un, .second, own_lv dg, .second, iv dec, iv u, iv j, iv d, .unset] []) := by
    intro t kt
    refine XS.iload X0.here hx rfl (hb hby own_d4_44) rfl ?_
    show own_S p e below s₁ m 46 #[iv sg, own_lv un, .second, own_lv dg, .second, iv dec, iv u, iv j, iv d, .unset] [(.int d)] _
    refine XS.iload X0.here hx rfl (hb hby own_d4_46) rfl ?_
    show own_S p e below s₁ m 48 #[iv sg, own_lv un, .second, own_lv dg, .second, iv dec, iv u, iv j, iv d, .unset] [(.int u), (.int d)] _
    exact kt
  refine own_st sg14 ?_
  by_cases hc15 : d = u
  · skip
    have sg16 : own_V p e below s₁ (mkF m 51 #[iv sg, own_lv un, .second, own_lv dg, .second, iv dec, iv u, iv j, iv d, .unset] []) (mkF m 48 #[iv sg, own_lv un, .second, own_lv dg, .second, iv dec, iv u, iv j, iv d, .unset] [(.int u), (.int d)]) := by
      intro t kt
      refine XS.icmpNo X0.here hx rfl (hb hby own_d4_48) rfl (teq hc15).2 ?_
      exact kt
    refine own_st sg16 ?_
    have sg17 : own_V p e below s₁ (mkF m 53 #[iv sg, own_lv un, .second, own_lv dg, .second, iv dec, iv u, iv j, iv d, .unset] [(.int (46 : Int32))]) (mkF m 51 #[iv sg, own_lv un, .second, own_lv dg, .second, iv dec, iv u, iv j, iv d, .unset] []) := by
      intro t kt
      refine XS.bipush X0.here hx rfl (hb hby own_d4_51) ?_
      show own_S p e below s₁ m 53 #[iv sg, own_lv un, .second, own_lv dg, .second, iv dec, iv u, iv j, iv d, .unset] [(.int (46 : Int32))] _
      exact kt
    refine own_st sg17 ?_
    exact own_retI X0 hx Bd.notSynchronized Bd.returns (hb hby own_d4_53) (by decide) (by decide) e0 ⟨by rw [show own_exp ks nd kd U D kj = 46 from (if_neg h1).trans ((if_neg h2).trans (if_pos ((own_eqN d u _ nd hd' hnd).mp hc15)))], N0, Keep.refl _ _⟩
  have sg18 : own_V p e below s₁ (mkF m 54 #[iv sg, own_lv un, .second, own_lv dg, .second, iv dec, iv u, iv j, iv d, .unset] []) (mkF m 48 #[iv sg, own_lv un, .second, own_lv dg, .second, iv dec, iv u, iv j, iv d, .unset] [(.int u), (.int d)]) := by
    intro t kt
    refine XS.icmpYes X0.here hx rfl (pc0 := 48) (pc' := 54) rfl (hb hby own_d4_48) rfl (feq hc15).2 (by decide) (by decide) ?_
    exact kt
  refine own_st sg18 ?_
  have h3 : ¬ kj - ks = nd := fun y => hc15 ((own_eqN d u _ nd hd' hnd).mpr y)
  obtain ⟨ee, hee⟩ : ∃ z : Int32, z = ((d - u) - (1 : Int32)) := ⟨_, rfl⟩
  have sg19 : own_V p e below s₁ (mkF m 63 #[iv sg, own_lv un, .second, own_lv dg, .second, iv dec, iv u, iv j, iv d, iv ee] []) (mkF m 54 #[iv sg, own_lv un, .second, own_lv dg, .second, iv dec, iv u, iv j, iv d, .unset] []) := by
    intro t kt
    refine XS.iload X0.here hx rfl (hb hby own_d4_54) rfl ?_
    show own_S p e below s₁ m 56 #[iv sg, own_lv un, .second, own_lv dg, .second, iv dec, iv u, iv j, iv d, .unset] [(.int d)] _
    refine XS.iload X0.here hx rfl (hb hby own_d4_56) rfl ?_
    show own_S p e below s₁ m 58 #[iv sg, own_lv un, .second, own_lv dg, .second, iv dec, iv u, iv j, iv d, .unset] [(.int u), (.int d)] _
    refine XS.isub X0.here hx rfl (hb hby own_d4_58) rfl ?_
    show own_S p e below s₁ m 59 #[iv sg, own_lv un, .second, own_lv dg, .second, iv dec, iv u, iv j, iv d, .unset] [(.int (d - u))] _
    refine XS.iconst X0.here hx rfl (hb hby own_d4_59) ?_
    show own_S p e below s₁ m 60 #[iv sg, own_lv un, .second, own_lv dg, .second, iv dec, iv u, iv j, iv d, .unset] [(.int (1 : Int32)), (.int (d - u))] _
    refine XS.isub X0.here hx rfl (hb hby own_d4_60) rfl ?_
    show own_S p e below s₁ m 61 #[iv sg, own_lv un, .second, own_lv dg, .second, iv dec, iv u, iv j, iv d, .unset] [(.int ((d - u) - (1 : Int32)))] _
    refine XS.istore X0.here hx rfl (hb hby own_d4_61) rfl (l' := #[iv sg, own_lv un, .second, own_lv dg, .second, iv dec, iv u, iv j, iv d, iv ((d - u) - (1 : Int32))]) rfl ?_
    show own_S p e below s₁ m 63 #[iv sg, own_lv un, .second, own_lv dg, .second, iv dec, iv u, iv j, iv d, iv ((d - u) - (1 : Int32))] [] _
    rw [hee] at kt
    exact kt
  refine own_st sg19 ?_
  have hee' : ee.toInt = ((kj - ks - nd - 1 : Nat) : Int) := by rw [hee]; exact own_sub1 _ _ (own_sub d u _ nd hd' hnd (by omega)) (by omega)
  obtain ⟨ff, hff⟩ : ∃ z : Int32, z = ((dec - (1 : Int32)) - ee) := ⟨_, rfl⟩
  have sg20 : own_V p e below s₁ (mkF m 74 #[iv sg, own_lv un, .second, own_lv dg, .second, iv dec, iv u, iv j, iv d, iv ee] [(.int ff), (.long dg), (.long (48 : Int64))]) (mkF m 63 #[iv sg, own_lv un, .second, own_lv dg, .second, iv dec, iv u, iv j, iv d, iv ee] []) := by
    intro t kt
    refine X0.ldc2Long hx hown (mvT hZ (hw _ (List.mem_of_getElem? (i := 38) rfl))) (g := (mkF m 63 #[iv sg, own_lv un, .second, own_lv dg, .second, iv dec, iv u, iv j, iv d, iv ee] [])) rfl (hb hby own_d4_63) _ ?_
    show own_S p e below s₁ m 66 #[iv sg, own_lv un, .second, own_lv dg, .second, iv dec, iv u, iv j, iv d, iv ee] [(.long (48 : Int64))] _
    refine XS.lloadN X0.here hx rfl (hb hby own_d4_66) rfl ?_
    show own_S p e below s₁ m 67 #[iv sg, own_lv un, .second, own_lv dg, .second, iv dec, iv u, iv j, iv d, iv ee] [(.long dg), (.long (48 : Int64))] _
    refine XS.iload X0.here hx rfl (hb hby own_d4_67) rfl ?_
    show own_S p e below s₁ m 69 #[iv sg, own_lv un, .second, own_lv dg, .second, iv dec, iv u, iv j, iv d, iv ee] [(.int dec), (.long dg), (.long (48 : Int64))] _
    refine XS.iconst X0.here hx rfl (hb hby own_d4_69) ?_
    show own_S p e below s₁ m 70 #[iv sg, own_lv un, .second, own_lv dg, .second, iv dec, iv u, iv j, iv d, iv ee] [(.int (1 : Int32)), (.int dec), (.long dg), (.long (48 : Int64))] _
    refine XS.isub X0.here hx rfl (hb hby own_d4_70) rfl ?_
    show own_S p e below s₁ m 71 #[iv sg, own_lv un, .second, own_lv dg, .second, iv dec, iv u, iv j, iv d, iv ee] [(.int (dec - (1 : Int32))), (.long dg), (.long (48 : Int64))] _
    refine XS.iload X0.here hx rfl (hb hby own_d4_71) rfl ?_
    show own_S p e below s₁ m 73 #[iv sg, own_lv un, .second, own_lv dg, .second, iv dec, iv u, iv j, iv d, iv ee] [(.int ee), (.int (dec - (1 : Int32))), (.long dg), (.long (48 : Int64))] _
    refine XS.isub X0.here hx rfl (hb hby own_d4_73) rfl ?_
    show own_S p e below s₁ m 74 #[iv sg, own_lv un, .second, own_lv dg, .second, iv dec, iv u, iv j, iv d, iv ee] [(.int ((dec - (1 : Int32)) - ee)), (.long dg), (.long (48 : Int64))] _
    rw [hff] at kt
    exact kt
  refine own_st sg20 ?_
  have hff' : ff.toInt = ((kd - 1 - (kj - ks - nd - 1) : Nat) : Int) := by rw [hff]; exact own_sub _ ee _ _ (own_sub1 dec kd hkd (by omega)) hee' (by omega)
  obtain ⟨_, T21, L21, X21, hQ21, st21⟩ := own_callS (y := (⟨"com/example/coverfold/coverfold/RationalPutFixedPinLaw", "pow10", "(I)J"⟩ : MethodName)) X0 hx hZ hown (hw _ (List.mem_of_getElem? (i := 2) rfl)) (hw _ (List.mem_of_getElem? (i := 3) rfl)) (hw _ (List.mem_of_getElem? (i := 4) rfl)) (hw _ (List.mem_of_getElem? (i := 5) rfl)) (by decide) (own_rmp10 l Z a0 hw ff (kd - 1 - (kj - ks - nd - 1)) h0 n0 Z0 hff' (by omega)) e0 (g := (mkF m 74 #[iv sg, own_lv un, .second, own_lv dg, .second, iv dec, iv u, iv j, iv d, iv ee] [(.int ff), (.long dg), (.long (48 : Int64))])) rfl (by rw [hml]; rfl) (argsL := [(.int ff)]) (rest := [(.long dg), (.long (48 : Int64))]) (lenOf own_pd0 rfl) rfl (W := 4) (by show 2 * 0 + _ ≤ _; exact Nat.le_of_eq rfl) (hb hby own_d4_74) (by decide) (by decide) (by decide) (by decide)
  obtain ⟨rfl, Nq21, K21⟩ := hQ21
  refine own_st st21 ?_
  have Z21 : n0 ≤ T21.heap.size := Nat.le_trans Z0 K21.1
  have N21 := Fr.app N0 Nq21
  show own_Go p e below _ T21 (mkF m 77 #[iv sg, own_lv un, .second, own_lv dg, .second, iv dec, iv u, iv j, iv d, iv ee] [(.long (own_p10 (kd - 1 - (kj - ks - nd - 1)))), (.long dg), (.long (48 : Int64))])
  have sg22 : own_V p e below T21 (mkF m 84 #[iv sg, own_lv un, .second, own_lv dg, .second, iv dec, iv u, iv j, iv d, iv ee] [(.int ((48 : Int64) + ((dg / (own_p10 (kd - 1 - (kj - ks - nd - 1)))) - ((dg / (own_p10 (kd - 1 - (kj - ks - nd - 1)))) / (10 : Int64)) * (10 : Int64))).toInt32)]) (mkF m 77 #[iv sg, own_lv un, .second, own_lv dg, .second, iv dec, iv u, iv j, iv d, iv ee] [(.long (own_p10 (kd - 1 - (kj - ks - nd - 1)))), (.long dg), (.long (48 : Int64))]) := by
    intro t kt
    refine XS.ldiv X21.here hx rfl (hb hby own_d4_77) rfl (own_p10ne _ (by omega) _ rfl) ?_
    show own_S p e below T21 m 78 #[iv sg, own_lv un, .second, own_lv dg, .second, iv dec, iv u, iv j, iv d, iv ee] [(.long (dg / (own_p10 (kd - 1 - (kj - ks - nd - 1))))), (.long (48 : Int64))] _
    refine X21.ldc2Long hx hown (mvT hZ (hw _ (List.mem_of_getElem? (i := 7) rfl))) (g := (mkF m 78 #[iv sg, own_lv un, .second, own_lv dg, .second, iv dec, iv u, iv j, iv d, iv ee] [(.long (dg / (own_p10 (kd - 1 - (kj - ks - nd - 1))))), (.long (48 : Int64))])) rfl (hb hby own_d4_78) _ ?_
    show own_S p e below T21 m 81 #[iv sg, own_lv un, .second, own_lv dg, .second, iv dec, iv u, iv j, iv d, iv ee] [(.long (10 : Int64)), (.long (dg / (own_p10 (kd - 1 - (kj - ks - nd - 1))))), (.long (48 : Int64))] _
    refine XS.lrem X21.here hx rfl (hb hby own_d4_81) rfl (by decide) ?_
    show own_S p e below T21 m 82 #[iv sg, own_lv un, .second, own_lv dg, .second, iv dec, iv u, iv j, iv d, iv ee] [(.long ((dg / (own_p10 (kd - 1 - (kj - ks - nd - 1)))) - ((dg / (own_p10 (kd - 1 - (kj - ks - nd - 1)))) / (10 : Int64)) * (10 : Int64))), (.long (48 : Int64))] _
    refine XS.ladd X21.here hx rfl (hb hby own_d4_82) rfl ?_
    show own_S p e below T21 m 83 #[iv sg, own_lv un, .second, own_lv dg, .second, iv dec, iv u, iv j, iv d, iv ee] [(.long ((48 : Int64) + ((dg / (own_p10 (kd - 1 - (kj - ks - nd - 1)))) - ((dg / (own_p10 (kd - 1 - (kj - ks - nd - 1)))) / (10 : Int64)) * (10 : Int64))))] _
    refine XS.l2i X21.here hx rfl (hb hby own_d4_83) rfl ?_
    show own_S p e below T21 m 84 #[iv sg, own_lv un, .second, own_lv dg, .second, iv dec, iv u, iv j, iv d, iv ee] [(.int ((48 : Int64) + ((dg / (own_p10 (kd - 1 - (kj - ks - nd - 1)))) - ((dg / (own_p10 (kd - 1 - (kj - ks - nd - 1)))) / (10 : Int64)) * (10 : Int64))).toInt32)] _
    exact kt
  refine own_st sg22 ?_
  exact own_retI X21 hx Bd.notSynchronized Bd.returns (hb hby own_d4_84) (by decide) (by decide) rfl ⟨by rw [own_exd dg _ D _ hD (by omega) rfl, show own_exp ks nd kd U D kj = _ from (if_neg h1).trans ((if_neg h2).trans (if_neg h3))], N21, K21⟩
theorem own_put_at (neg : Bool) (ks ka U D kd i : Nat) (hks : ks = if neg then 1 else 0) (hi : i < ks + own_nd U + 1 + kd) : own_put (fun _ => 0) neg ka U D kd (ka + i) = own_exp ks (own_nd U) kd U D i := by
  have hp := own_nd_pos U
  unfold own_put own_exp own_dig own_upd
  cases neg with
  | true =>
    simp only [if_true] at hks ⊢
    subst hks
    by_cases q1 : i < 1
    · rw [if_pos (by omega), if_pos q1]
    · rw [if_neg (by omega), if_neg q1]
      by_cases q2 : i - 1 < own_nd U
      · rw [if_pos (by omega), if_pos q2]; congr 2; congr 1; omega
      · rw [if_neg (by omega), if_neg q2]
        by_cases q3 : i - 1 = own_nd U
        · rw [if_pos (by omega), if_pos q3]
        · rw [if_neg (by omega), if_neg q3, if_pos (by omega)]; congr 2; congr 1; omega
  | false =>
    simp only [Bool.false_eq_true, if_false] at hks ⊢
    subst hks
    rw [if_neg (by omega : ¬ i < 0)]
    by_cases q2 : i - 0 < own_nd U
    · rw [if_pos (by omega), if_pos q2]; congr 2; congr 1; omega
    · rw [if_neg (by omega), if_neg q2]
      by_cases q3 : i - 0 = own_nd U
      · rw [if_pos (by omega), if_pos q3]
      · rw [if_neg (by omega), if_neg q3, if_pos (by omega)]; congr 2; congr 1; omega
theorem own_put_out (neg : Bool) (ks ka U D kd i : Nat) (hks : ks = if neg then 1 else 0) (hi : i < ka ∨ ka + ks + own_nd U + 1 + kd ≤ i) : own_put (fun _ => 0) neg ka U D kd i = 0 := by
  have hp := own_nd_pos U
  unfold own_put own_dig own_upd
  cases neg with
  | true =>
    simp only [if_true] at hks ⊢
    subst hks
    rw [if_neg (by omega), if_neg (by omega), if_neg (by omega), if_neg (by omega)]
  | false =>
    simp only [Bool.false_eq_true, if_false] at hks ⊢
    subst hks
    rw [if_neg (by omega), if_neg (by omega), if_neg (by omega)]
theorem own_maskL (x : Int64) : ∃ U : Nat, (x &&& (9223372036854775807 : Int64)).toInt = (U : Int) := by
  have m : (x &&& (9223372036854775807 : Int64)).toInt = x.toInt % ((2 ^ 63 : Nat) : Int) := c_maskL x 9223372036854775807 63 (by decide) (by decide)
  exact ⟨(x &&& (9223372036854775807 : Int64)).toInt.toNat, by omega⟩
theorem own_decs (x : Int32) : ∃ kd : Nat, ((1 : Int32) + ((x &&& (2147483647 : Int32)) % (9 : Int32))).toInt = (kd : Int) ∧ 1 ≤ kd ∧ kd ≤ 9 := by
  have m1 : (x &&& (2147483647 : Int32)).toInt = x.toInt % ((2 ^ 31 : Nat) : Int) := c_mask x 2147483647 31 (by decide) (by decide)
  generalize (x &&& (2147483647 : Int32)) = y at *
  have a1 := (c_irem y 9 9 (by decide)).1 (by omega)
  have c1 := c_iadd 1 (y % 9)
  have r1 := rng32 ((1 : Int32) + (y % 9))
  have e : (1 : Int32).toInt = 1 := by decide
  rw [e] at c1
  exact ⟨((1 : Int32) + (y % 9)).toInt.toNat, by omega, by omega, by omega⟩
theorem own_at7 (x : Int32) : ∃ ka : Nat, (x &&& (7 : Int32)).toInt = (ka : Int) ∧ ka ≤ 7 := by
  have m1 : (x &&& (7 : Int32)).toInt = x.toInt % ((2 ^ 3 : Nat) : Int) := c_mask x 7 3 (by decide) (by decide)
  exact ⟨(x &&& (7 : Int32)).toInt.toNat, by omega, by omega⟩
theorem own_dgm (y z : Int64) (V kd : Nat) (hy : y.toInt = (V : Int)) (hk : kd ≤ 9) (hz : z = own_p10 kd) : ∃ D : Nat, (y - (y / z) * z).toInt = (D : Int) ∧ D < 2147483648 := by
  have hp := own_p10_toInt kd (by omega)
  rw [← hz] at hp
  have h10 : 0 < 10 ^ kd := Nat.pow_pos (by decide)
  have h9 : 10 ^ kd ≤ 10 ^ 9 := Nat.pow_le_pow_right (by decide) hk
  have h9' : (10 : Nat) ^ 9 = 1000000000 := by decide
  have r := (c_lrem y z _ hp).1 (by omega)
  have r1 : (y - (y / z) * z).toInt = ((V % 10 ^ kd : Nat) : Int) := by rw [r, hy]; rfl
  have r2 : V % 10 ^ kd < 10 ^ kd := Nat.mod_lt _ h10
  exact ⟨V % 10 ^ kd, r1, by omega⟩
theorem own_jm (x len : Int32) (n : Nat) (h : len.toInt = (n : Int)) (hn : 0 < n) : ∃ kj : Nat, ((x &&& (2147483647 : Int32)) % len).toInt = (kj : Int) ∧ kj < n := by
  have m1 : (x &&& (2147483647 : Int32)).toInt = x.toInt % ((2 ^ 31 : Nat) : Int) := c_mask x 2147483647 31 (by decide) (by decide)
  generalize (x &&& (2147483647 : Int32)) = y at *
  have a1 := (c_iremV y len).1 (by omega) (by omega)
  exact ⟨(y % len).toInt.toNat, by omega, by omega⟩
theorem own_addN (x y : Int32) (a b : Nat) (h1 : x.toInt = (a : Int)) (h2 : y.toInt = (b : Int)) (hb : a + b < 1000) : (x + y).toInt = ((a + b : Nat) : Int) := by
  have c := c_iadd x y
  have r := rng32 (x + y)
  omega
theorem own_pd1 : parseMethodDescriptor "(ZJJI[BI)I" = some ⟨[.boolean, .long, .long, .int, (.array .byte), .int], some .int⟩ := by decide +kernel
theorem own_pd2 : parseMethodDescriptor "(J)I" = some ⟨[.long], some .int⟩ := by decide +kernel
theorem own_pd3 : parseMethodDescriptor "(IJJIII)I" = some ⟨[.int, .long, .long, .int, .int, .int], some .int⟩ := by decide +kernel
theorem own_eflaw (m : MethodId) (fl : Int32) (ur : Int64) (dr : Int64) (cr : Int32) (ar : Int32) (pr : Int32) : entryFrame m #[(.int fl), (.long ur), (.long dr), (.int cr), (.int ar), (.int pr)] maxLocals = mkF m 0 #[iv fl, own_lv ur, .second, own_lv dr, .second, iv cr, iv ar, iv pr, .unset, .unset, .unset, .unset, .unset, .unset, .unset, .unset, .unset, .unset, .unset, .unset, .unset] [] := by first | (simp [entryFrame, mkF, argsToLocals, Value.category, maxLocals]; done) | rfl
set_option maxRecDepth 65536 in
set_option maxHeartbeats 40000000 in
theorem own_rmlaw (l : Launch) (Z : State) (a0 : Array Value) (hw : ∀ d ∈ tables_1, d.before a0 Z = true) (fl : Int32) (ur : Int64) (dr : Int64) (cr : Int32) (ar : Int32) (pr : Int32) (h0 : Heap) (n0 : Nat) (Z0 : n0 ≤ h0.size) :
    MetFree l Jvm.Pilot.@@N@@.x (head1 (Jvm.Cond.code Jvm.Pilot.@@N@@.x code maxLocals ret :: tables_1) room_1) (fun a U => a = #[(.int fl), (.long ur), (.long dr), (.int cr), (.int ar), (.int pr)] ∧ Z.Warmed39 U.vm ∧ U.heap = h0) (fun _ _ _ _ _ => True) (fun _ U o U' => ∃ v L, o = .returned v ∧ (fun v h L => v = some (.int 1) ∧ Fr n0 L) v U'.heap L ∧ FrameEnd U o U' L 3 78) := by
  refine own_body (y := Jvm.Pilot.@@N@@.x) (Q := fun v h L => v = some (.int 1) ∧ Fr n0 L) (plainFor_of_name own_pn1) ?_
  intro p e s m below meth c s₁ Bd hml0 hZ e0
  have hx := Bd.exec
  have hby := Bd.bytes
  have hml : c.maxLocals = 21 := hml0
  have hown : s.vm.findClass "com/example/coverfold/coverfold/RationalPutFixedPinLaw" = some m.cls := findClass_of_methodNamed Bd.named
  have hnm := (name_of_methodNamed Bd.named Bd.method).1
  have X0 : Stand p l e room_1 s m #[(.int fl), (.long ur), (.long dr), (.int cr), (.int ar), (.int pr)] below meth c s₁ [] 0 0 := Stand.of_body Bd
  have N0 := Fr.nil n0
  rw [own_eflaw]
  obtain ⟨ng, hng⟩ : ∃ z : Int32, z = (if (fl &&& (1 : Int32)) = (0 : Int32) then (0 : Int32) else (1 : Int32)) := ⟨_, rfl⟩
  have sg2 : own_V p e below s₁ (mkF m 11 #[iv fl, own_lv ur, .second, own_lv dr, .second, iv cr, iv ar, iv pr, .unset, .unset, .unset, .unset, .unset, .unset, .unset, .unset, .unset, .unset, .unset, .unset, .unset] [(.int ng)]) (mkF m 0 #[iv fl, own_lv ur, .second, own_lv dr, .second, iv cr, iv ar, iv pr, .unset, .unset, .unset, .unset, .unset, .unset, .unset, .unset, .unset, .unset, .unset, .unset, .unset] []) := by
    intro t kt
    refine XS.iloadN X0.here hx rfl (hb hby at_0) rfl ?_
    show own_S p e below s₁ m 1 #[iv fl, own_lv ur, .second, own_lv dr, .second, iv cr, iv ar, iv pr, .unset, .unset, .unset, .unset, .unset, .unset, .unset, .unset, .unset, .unset, .unset, .unset, .unset] [(.int fl)] _
    refine XS.iconst X0.here hx rfl (hb hby at_1) ?_
    show own_S p e below s₁ m 2 #[iv fl, own_lv ur, .second, own_lv dr, .second, iv cr, iv ar, iv pr, .unset, .unset, .unset, .unset, .unset, .unset, .unset, .unset, .unset, .unset, .unset, .unset, .unset] [(.int (1 : Int32)), (.int fl)] _
    refine XS.iand X0.here hx rfl (hb hby at_2) rfl ?_
    show own_S p e below s₁ m 3 #[iv fl, own_lv ur, .second, own_lv dr, .second, iv cr, iv ar, iv pr, .unset, .unset, .unset, .unset, .unset, .unset, .unset, .unset, .unset, .unset, .unset, .unset, .unset] [(.int (fl &&& (1 : Int32)))] _
    by_cases hc1 : (fl &&& (1 : Int32)) = (0 : Int32)
    · refine XS.ifYes X0.here hx rfl (pc0 := 3) (pc' := 10) rfl (hb hby at_3) rfl ((if0 _ _).trans (teq hc1).1) (by decide) (by decide) ?_
      show own_S p e below s₁ m 10 #[iv fl, own_lv ur, .second, own_lv dr, .second, iv cr, iv ar, iv pr, .unset, .unset, .unset, .unset, .unset, .unset, .unset, .unset, .unset, .unset, .unset, .unset, .unset] [] _
      refine XS.iconst X0.here hx rfl (hb hby at_10) ?_
      show own_S p e below s₁ m 11 #[iv fl, own_lv ur, .second, own_lv dr, .second, iv cr, iv ar, iv pr, .unset, .unset, .unset, .unset, .unset, .unset, .unset, .unset, .unset, .unset, .unset, .unset, .unset] [(.int (0 : Int32))] _
      rw [show ng = (0 : Int32) from by rw [hng, if_pos hc1]] at kt
      exact kt
    · refine XS.ifNo X0.here hx rfl (hb hby at_3) rfl ((if0 _ _).trans (feq hc1).1) ?_
      show own_S p e below s₁ m 6 #[iv fl, own_lv ur, .second, own_lv dr, .second, iv cr, iv ar, iv pr, .unset, .unset, .unset, .unset, .unset, .unset, .unset, .unset, .unset, .unset, .unset, .unset, .unset] [] _
      refine XS.iconst X0.here hx rfl (hb hby at_6) ?_
      show own_S p e below s₁ m 7 #[iv fl, own_lv ur, .second, own_lv dr, .second, iv cr, iv ar, iv pr, .unset, .unset, .unset, .unset, .unset, .unset, .unset, .unset, .unset, .unset, .unset, .unset, .unset] [(.int (1 : Int32))] _
      refine XS.goto X0.here hx rfl (pc0 := 7) (pc' := 11) rfl (hb hby at_7) (by decide) (by decide) ?_
      show own_S p e below s₁ m 11 #[iv fl, own_lv ur, .second, own_lv dr, .second, iv cr, iv ar, iv pr, .unset, .unset, .unset, .unset, .unset, .unset, .unset, .unset, .unset, .unset, .unset, .unset, .unset] [(.int (1 : Int32))] _
      rw [show ng = (1 : Int32) from by rw [hng, if_neg hc1]] at kt
      exact kt
  refine own_st sg2 ?_
  obtain ⟨un, hun⟩ : ∃ z : Int64, z = (ur &&& (9223372036854775807 : Int64)) := ⟨_, rfl⟩
  obtain ⟨dec, hdec⟩ : ∃ z : Int32, z = ((1 : Int32) + ((cr &&& (2147483647 : Int32)) % (9 : Int32))) := ⟨_, rfl⟩
  have sg3 : own_V p e below s₁ (mkF m 32 #[iv fl, own_lv ur, .second, own_lv dr, .second, iv cr, iv ar, iv pr, iv ng, own_lv un, .second, iv dec, .unset, .unset, .unset, .unset, .unset, .unset, .unset, .unset, .unset] []) (mkF m 11 #[iv fl, own_lv ur, .second, own_lv dr, .second, iv cr, iv ar, iv pr, .unset, .unset, .unset, .unset, .unset, .unset, .unset, .unset, .unset, .unset, .unset, .unset, .unset] [(.int ng)]) := by
    intro t kt
    refine XS.istore X0.here hx rfl (hb hby at_11) rfl (l' := #[iv fl, own_lv ur, .second, own_lv dr, .second, iv cr, iv ar, iv pr, iv ng, .unset, .unset, .unset, .unset, .unset, .unset, .unset, .unset, .unset, .unset, .unset, .unset]) rfl ?_
    show own_S p e below s₁ m 13 #[iv fl, own_lv ur, .second, own_lv dr, .second, iv cr, iv ar, iv pr, iv ng, .unset, .unset, .unset, .unset, .unset, .unset, .unset, .unset, .unset, .unset, .unset, .unset] [] _
    refine XS.lloadN X0.here hx rfl (hb hby at_13) rfl ?_
    show own_S p e below s₁ m 14 #[iv fl, own_lv ur, .second, own_lv dr, .second, iv cr, iv ar, iv pr, iv ng, .unset, .unset, .unset, .unset, .unset, .unset, .unset, .unset, .unset, .unset, .unset, .unset] [(.long ur)] _
    refine X0.ldc2Long hx hown (mvT hZ (hw _ (List.mem_of_getElem? (i := 0) rfl))) (g := (mkF m 14 #[iv fl, own_lv ur, .second, own_lv dr, .second, iv cr, iv ar, iv pr, iv ng, .unset, .unset, .unset, .unset, .unset, .unset, .unset, .unset, .unset, .unset, .unset, .unset] [(.long ur)])) rfl (hb hby at_14) _ ?_
    show own_S p e below s₁ m 17 #[iv fl, own_lv ur, .second, own_lv dr, .second, iv cr, iv ar, iv pr, iv ng, .unset, .unset, .unset, .unset, .unset, .unset, .unset, .unset, .unset, .unset, .unset, .unset] [(.long (9223372036854775807 : Int64)), (.long ur)] _
    refine XS.land X0.here hx rfl (hb hby at_17) rfl ?_
    show own_S p e below s₁ m 18 #[iv fl, own_lv ur, .second, own_lv dr, .second, iv cr, iv ar, iv pr, iv ng, .unset, .unset, .unset, .unset, .unset, .unset, .unset, .unset, .unset, .unset, .unset, .unset] [(.long (ur &&& (9223372036854775807 : Int64)))] _
    refine XS.lstore X0.here hx rfl (hb hby at_18) rfl (l' := #[iv fl, own_lv ur, .second, own_lv dr, .second, iv cr, iv ar, iv pr, iv ng, own_lv (ur &&& (9223372036854775807 : Int64)), .second, .unset, .unset, .unset, .unset, .unset, .unset, .unset, .unset, .unset, .unset]) rfl ?_
    show own_S p e below s₁ m 20 #[iv fl, own_lv ur, .second, own_lv dr, .second, iv cr, iv ar, iv pr, iv ng, own_lv (ur &&& (9223372036854775807 : Int64)), .second, .unset, .unset, .unset, .unset, .unset, .unset, .unset, .unset, .unset, .unset] [] _
    refine XS.iconst X0.here hx rfl (hb hby at_20) ?_
    show own_S p e below s₁ m 21 #[iv fl, own_lv ur, .second, own_lv dr, .second, iv cr, iv ar, iv pr, iv ng, own_lv (ur &&& (9223372036854775807 : Int64)), .second, .unset, .unset, .unset, .unset, .unset, .unset, .unset, .unset, .unset, .unset] [(.int (1 : Int32))] _
    refine XS.iload X0.here hx rfl (hb hby at_21) rfl ?_
    show own_S p e below s₁ m 23 #[iv fl, own_lv ur, .second, own_lv dr, .second, iv cr, iv ar, iv pr, iv ng, own_lv (ur &&& (9223372036854775807 : Int64)), .second, .unset, .unset, .unset, .unset, .unset, .unset, .unset, .unset, .unset, .unset] [(.int cr), (.int (1 : Int32))] _
    refine X0.ldcInt hx hown (mvT hZ (hw _ (List.mem_of_getElem? (i := 1) rfl))) (g := (mkF m 23 #[iv fl, own_lv ur, .second, own_lv dr, .second, iv cr, iv ar, iv pr, iv ng, own_lv (ur &&& (9223372036854775807 : Int64)), .second, .unset, .unset, .unset, .unset, .unset, .unset, .unset, .unset, .unset, .unset] [(.int cr), (.int (1 : Int32))])) rfl (hb hby at_23) _ ?_
    show own_S p e below s₁ m 25 #[iv fl, own_lv ur, .second, own_lv dr, .second, iv cr, iv ar, iv pr, iv ng, own_lv (ur &&& (9223372036854775807 : Int64)), .second, .unset, .unset, .unset, .unset, .unset, .unset, .unset, .unset, .unset, .unset] [(.int (2147483647 : Int32)), (.int cr), (.int (1 : Int32))] _
    refine XS.iand X0.here hx rfl (hb hby at_25) rfl ?_
    show own_S p e below s₁ m 26 #[iv fl, own_lv ur, .second, own_lv dr, .second, iv cr, iv ar, iv pr, iv ng, own_lv (ur &&& (9223372036854775807 : Int64)), .second, .unset, .unset, .unset, .unset, .unset, .unset, .unset, .unset, .unset, .unset] [(.int (cr &&& (2147483647 : Int32))), (.int (1 : Int32))] _
    refine XS.bipush X0.here hx rfl (hb hby at_26) ?_
    show own_S p e below s₁ m 28 #[iv fl, own_lv ur, .second, own_lv dr, .second, iv cr, iv ar, iv pr, iv ng, own_lv (ur &&& (9223372036854775807 : Int64)), .second, .unset, .unset, .unset, .unset, .unset, .unset, .unset, .unset, .unset, .unset] [(.int (9 : Int32)), (.int (cr &&& (2147483647 : Int32))), (.int (1 : Int32))] _
    refine own_irem X0.here hx rfl (hb hby at_28) rfl (by decide) ?_
    show own_S p e below s₁ m 29 #[iv fl, own_lv ur, .second, own_lv dr, .second, iv cr, iv ar, iv pr, iv ng, own_lv (ur &&& (9223372036854775807 : Int64)), .second, .unset, .unset, .unset, .unset, .unset, .unset, .unset, .unset, .unset, .unset] [(.int ((cr &&& (2147483647 : Int32)) % (9 : Int32))), (.int (1 : Int32))] _
    refine XS.iadd X0.here hx rfl (hb hby at_29) rfl ?_
    show own_S p e below s₁ m 30 #[iv fl, own_lv ur, .second, own_lv dr, .second, iv cr, iv ar, iv pr, iv ng, own_lv (ur &&& (9223372036854775807 : Int64)), .second, .unset, .unset, .unset, .unset, .unset, .unset, .unset, .unset, .unset, .unset] [(.int ((1 : Int32) + ((cr &&& (2147483647 : Int32)) % (9 : Int32))))] _
    refine XS.istore X0.here hx rfl (hb hby at_30) rfl (l' := #[iv fl, own_lv ur, .second, own_lv dr, .second, iv cr, iv ar, iv pr, iv ng, own_lv (ur &&& (9223372036854775807 : Int64)), .second, iv ((1 : Int32) + ((cr &&& (2147483647 : Int32)) % (9 : Int32))), .unset, .unset, .unset, .unset, .unset, .unset, .unset, .unset, .unset]) rfl ?_
    show own_S p e below s₁ m 32 #[iv fl, own_lv ur, .second, own_lv dr, .second, iv cr, iv ar, iv pr, iv ng, own_lv (ur &&& (9223372036854775807 : Int64)), .second, iv ((1 : Int32) + ((cr &&& (2147483647 : Int32)) % (9 : Int32))), .unset, .unset, .unset, .unset, .unset, .unset, .unset, .unset, .unset] [] _
    rw [hun] at kt
    rw [hdec] at kt
    exact kt
  refine own_st sg3 ?_
  obtain ⟨U, hU⟩ := own_maskL ur
  rw [← hun] at hU
  obtain ⟨kd, hkd, hkd1, hkd9⟩ := own_decs cr
  rw [← hdec] at hkd
  obtain ⟨ks, hks⟩ : ∃ ks : Nat, (ng = 0 ∧ ks = 0) ∨ (ng = 1 ∧ ks = 1) := by
    rw [hng]; split
    · exact ⟨0, Or.inl ⟨rfl, rfl⟩⟩
    · exact ⟨1, Or.inr ⟨rfl, rfl⟩⟩
  have hks1 : ks ≤ 1 := by rcases hks with ⟨-, z⟩ | ⟨-, z⟩ <;> omega
  have hksb : ks = if decide (ks = 1) then 1 else 0 := by rcases hks with ⟨-, z⟩ | ⟨-, z⟩ <;> subst z <;> rfl
  obtain ⟨dv, hdv⟩ : ∃ z : Int64, z = (dr &&& (9223372036854775807 : Int64)) := ⟨_, rfl⟩
  have sg4 : own_V p e below s₁ (mkF m 39 #[iv fl, own_lv ur, .second, own_lv dr, .second, iv cr, iv ar, iv pr, iv ng, own_lv un, .second, iv dec, .unset, .unset, .unset, .unset, .unset, .unset, .unset, .unset, .unset] [(.int dec), (.long dv)]) (mkF m 32 #[iv fl, own_lv ur, .second, own_lv dr, .second, iv cr, iv ar, iv pr, iv ng, own_lv un, .second, iv dec, .unset, .unset, .unset, .unset, .unset, .unset, .unset, .unset, .unset] []) := by
    intro t kt
    refine XS.lloadN X0.here hx rfl (hb hby at_32) rfl ?_
    show own_S p e below s₁ m 33 #[iv fl, own_lv ur, .second, own_lv dr, .second, iv cr, iv ar, iv pr, iv ng, own_lv un, .second, iv dec, .unset, .unset, .unset, .unset, .unset, .unset, .unset, .unset, .unset] [(.long dr)] _
    refine X0.ldc2Long hx hown (mvT hZ (hw _ (List.mem_of_getElem? (i := 0) rfl))) (g := (mkF m 33 #[iv fl, own_lv ur, .second, own_lv dr, .second, iv cr, iv ar, iv pr, iv ng, own_lv un, .second, iv dec, .unset, .unset, .unset, .unset, .unset, .unset, .unset, .unset, .unset] [(.long dr)])) rfl (hb hby at_33) _ ?_
    show own_S p e below s₁ m 36 #[iv fl, own_lv ur, .second, own_lv dr, .second, iv cr, iv ar, iv pr, iv ng, own_lv un, .second, iv dec, .unset, .unset, .unset, .unset, .unset, .unset, .unset, .unset, .unset] [(.long (9223372036854775807 : Int64)), (.long dr)] _
    refine XS.land X0.here hx rfl (hb hby at_36) rfl ?_
    show own_S p e below s₁ m 37 #[iv fl, own_lv ur, .second, own_lv dr, .second, iv cr, iv ar, iv pr, iv ng, own_lv un, .second, iv dec, .unset, .unset, .unset, .unset, .unset, .unset, .unset, .unset, .unset] [(.long (dr &&& (9223372036854775807 : Int64)))] _
    refine XS.iload X0.here hx rfl (hb hby at_37) rfl ?_
    show own_S p e below s₁ m 39 #[iv fl, own_lv ur, .second, own_lv dr, .second, iv cr, iv ar, iv pr, iv ng, own_lv un, .second, iv dec, .unset, .unset, .unset, .unset, .unset, .unset, .unset, .unset, .unset] [(.int dec), (.long (dr &&& (9223372036854775807 : Int64)))] _
    rw [hdv] at kt
    exact kt
  refine own_st sg4 ?_
  obtain ⟨V, hV⟩ := own_maskL dr
  rw [← hdv] at hV
  obtain ⟨_, T5, L5, X5, hQ5, st5⟩ := own_callS (y := (⟨"com/example/coverfold/coverfold/RationalPutFixedPinLaw", "pow10", "(I)J"⟩ : MethodName)) X0 hx hZ hown (hw _ (List.mem_of_getElem? (i := 2) rfl)) (hw _ (List.mem_of_getElem? (i := 3) rfl)) (hw _ (List.mem_of_getElem? (i := 4) rfl)) (hw _ (List.mem_of_getElem? (i := 5) rfl)) (by decide) (own_rmp10 l Z a0 hw dec kd h0 n0 Z0 hkd (by omega)) e0 (g := (mkF m 39 #[iv fl, own_lv ur, .second, own_lv dr, .second, iv cr, iv ar, iv pr, iv ng, own_lv un, .second, iv dec, .unset, .unset, .unset, .unset, .unset, .unset, .unset, .unset, .unset] [(.int dec), (.long dv)])) rfl (by rw [hml]; rfl) (argsL := [(.int dec)]) (rest := [(.long dv)]) (lenOf own_pd0 rfl) rfl (W := 2) (by show 2 * 0 + _ ≤ _; exact Nat.le_of_eq rfl) (hb hby at_39) (by decide) (by decide) (by decide) (by decide)
  obtain ⟨rfl, Nq5, K5⟩ := hQ5
  refine own_st st5 ?_
  have Z5 : n0 ≤ T5.heap.size := Nat.le_trans Z0 K5.1
  have N5 := Fr.app N0 Nq5
  show own_Go p e below _ T5 (mkF m 42 #[iv fl, own_lv ur, .second, own_lv dr, .second, iv cr, iv ar, iv pr, iv ng, own_lv un, .second, iv dec, .unset, .unset, .unset, .unset, .unset, .unset, .unset, .unset, .unset] [(.long (own_p10 kd)), (.long dv)])
  obtain ⟨dg, hdg⟩ : ∃ z : Int64, z = (dv - (dv / (own_p10 kd)) * (own_p10 kd)) := ⟨_, rfl⟩
  have sg6 : own_V p e below T5 (mkF m 45 #[iv fl, own_lv ur, .second, own_lv dr, .second, iv cr, iv ar, iv pr, iv ng, own_lv un, .second, iv dec, own_lv dg, .second, .unset, .unset, .unset, .unset, .unset, .unset, .unset] []) (mkF m 42 #[iv fl, own_lv ur, .second, own_lv dr, .second, iv cr, iv ar, iv pr, iv ng, own_lv un, .second, iv dec, .unset, .unset, .unset, .unset, .unset, .unset, .unset, .unset, .unset] [(.long (own_p10 kd)), (.long dv)]) := by
    intro t kt
    refine XS.lrem X5.here hx rfl (hb hby at_42) rfl (own_p10ne kd (by omega) _ rfl) ?_
    show own_S p e below T5 m 43 #[iv fl, own_lv ur, .second, own_lv dr, .second, iv cr, iv ar, iv pr, iv ng, own_lv un, .second, iv dec, .unset, .unset, .unset, .unset, .unset, .unset, .unset, .unset, .unset] [(.long (dv - (dv / (own_p10 kd)) * (own_p10 kd)))] _
    refine XS.lstore X5.here hx rfl (hb hby at_43) rfl (l' := #[iv fl, own_lv ur, .second, own_lv dr, .second, iv cr, iv ar, iv pr, iv ng, own_lv un, .second, iv dec, own_lv (dv - (dv / (own_p10 kd)) * (own_p10 kd)), .second, .unset, .unset, .unset, .unset, .unset, .unset, .unset]) rfl ?_
    show own_S p e below T5 m 45 #[iv fl, own_lv ur, .second, own_lv dr, .second, iv cr, iv ar, iv pr, iv ng, own_lv un, .second, iv dec, own_lv (dv - (dv / (own_p10 kd)) * (own_p10 kd)), .second, .unset, .unset, .unset, .unset, .unset, .unset, .unset] [] _
    rw [hdg] at kt
    exact kt
  refine own_st sg6 ?_
  obtain ⟨D, hD, hD9⟩ := own_dgm dv (own_p10 kd) V kd hV hkd9 rfl
  rw [← hdg] at hD
  obtain ⟨at_, hat_⟩ : ∃ z : Int32, z = (ar &&& (7 : Int32)) := ⟨_, rfl⟩
  have sg7 : own_V p e below T5 (mkF m 54 #[iv fl, own_lv ur, .second, own_lv dr, .second, iv cr, iv ar, iv pr, iv ng, own_lv un, .second, iv dec, own_lv dg, .second, iv at_, .unset, .unset, .unset, .unset, .unset, .unset] [(.int (40 : Int32))]) (mkF m 45 #[iv fl, own_lv ur, .second, own_lv dr, .second, iv cr, iv ar, iv pr, iv ng, own_lv un, .second, iv dec, own_lv dg, .second, .unset, .unset, .unset, .unset, .unset, .unset, .unset] []) := by
    intro t kt
    refine XS.iload X5.here hx rfl (hb hby at_45) rfl ?_
    show own_S p e below T5 m 47 #[iv fl, own_lv ur, .second, own_lv dr, .second, iv cr, iv ar, iv pr, iv ng, own_lv un, .second, iv dec, own_lv dg, .second, .unset, .unset, .unset, .unset, .unset, .unset, .unset] [(.int ar)] _
    refine XS.bipush X5.here hx rfl (hb hby at_47) ?_
    show own_S p e below T5 m 49 #[iv fl, own_lv ur, .second, own_lv dr, .second, iv cr, iv ar, iv pr, iv ng, own_lv un, .second, iv dec, own_lv dg, .second, .unset, .unset, .unset, .unset, .unset, .unset, .unset] [(.int (7 : Int32)), (.int ar)] _
    refine XS.iand X5.here hx rfl (hb hby at_49) rfl ?_
    show own_S p e below T5 m 50 #[iv fl, own_lv ur, .second, own_lv dr, .second, iv cr, iv ar, iv pr, iv ng, own_lv un, .second, iv dec, own_lv dg, .second, .unset, .unset, .unset, .unset, .unset, .unset, .unset] [(.int (ar &&& (7 : Int32)))] _
    refine XS.istore X5.here hx rfl (hb hby at_50) rfl (l' := #[iv fl, own_lv ur, .second, own_lv dr, .second, iv cr, iv ar, iv pr, iv ng, own_lv un, .second, iv dec, own_lv dg, .second, iv (ar &&& (7 : Int32)), .unset, .unset, .unset, .unset, .unset, .unset]) rfl ?_
    show own_S p e below T5 m 52 #[iv fl, own_lv ur, .second, own_lv dr, .second, iv cr, iv ar, iv pr, iv ng, own_lv un, .second, iv dec, own_lv dg, .second, iv (ar &&& (7 : Int32)), .unset, .unset, .unset, .unset, .unset, .unset] [] _
    refine XS.bipush X5.here hx rfl (hb hby at_52) ?_
    show own_S p e below T5 m 54 #[iv fl, own_lv ur, .second, own_lv dr, .second, iv cr, iv ar, iv pr, iv ng, own_lv un, .second, iv dec, own_lv dg, .second, iv (ar &&& (7 : Int32)), .unset, .unset, .unset, .unset, .unset, .unset] [(.int (40 : Int32))] _
    rw [hat_] at kt
    exact kt
  refine own_st sg7 ?_
  obtain ⟨ka, hka, hka7⟩ := own_at7 ar
  rw [← hat_] at hka
  obtain ⟨T8, h8, a8, g8, X8, e8, E8, A8, st8⟩ := own_newP (n := 40) X5 hx hZ (hw _ (List.mem_of_getElem? (i := 25) rfl)) rfl (by decide) rfl (g := (mkF m 54 #[iv fl, own_lv ur, .second, own_lv dr, .second, iv cr, iv ar, iv pr, iv ng, own_lv un, .second, iv dec, own_lv dg, .second, iv at_, .unset, .unset, .unset, .unset, .unset, .unset] [(.int (40 : Int32))])) rfl rfl (hb hby at_54) (cap := 40) (by decide) (by decide) (by decide) (by decide)
  refine own_st st8 ?_
  have g_a8 : n0 ≤ a8 := by rw [g8]; exact Z5
  have Z8 : n0 ≤ h8.size := Nat.le_trans Z5 E8.1
  have B8 : own_AI Z h8 a8 .byte 40 (fun _ => 0) := A8
  show own_Go p e below _ T8 (mkF m 56 #[iv fl, own_lv ur, .second, own_lv dr, .second, iv cr, iv ar, iv pr, iv ng, own_lv un, .second, iv dec, own_lv dg, .second, iv at_, .unset, .unset, .unset, .unset, .unset, .unset] [(.ref a8)])
  have hnd19 : own_nd U ≤ 19 := own_nd_19 U (by have := rng64 un; omega)
  have hndp := own_nd_pos U
  have sg9 : own_V p e below T8 (mkF m 70 #[iv fl, own_lv ur, .second, own_lv dr, .second, iv cr, iv ar, iv pr, iv ng, own_lv un, .second, iv dec, own_lv dg, .second, iv at_, rv a8, .unset, .unset, .unset, .unset, .unset] [(.int at_), (.ref a8), (.int dec), (.long dg), (.long un), (.int ng)]) (mkF m 56 #[iv fl, own_lv ur, .second, own_lv dr, .second, iv cr, iv ar, iv pr, iv ng, own_lv un, .second, iv dec, own_lv dg, .second, iv at_, .unset, .unset, .unset, .unset, .unset, .unset] [(.ref a8)]) := by
    intro t kt
    refine XS.astore X8.here hx rfl (hb hby at_56) rfl rfl (l' := #[iv fl, own_lv ur, .second, own_lv dr, .second, iv cr, iv ar, iv pr, iv ng, own_lv un, .second, iv dec, own_lv dg, .second, iv at_, rv a8, .unset, .unset, .unset, .unset, .unset]) rfl ?_
    show own_S p e below T8 m 58 #[iv fl, own_lv ur, .second, own_lv dr, .second, iv cr, iv ar, iv pr, iv ng, own_lv un, .second, iv dec, own_lv dg, .second, iv at_, rv a8, .unset, .unset, .unset, .unset, .unset] [] _
    refine XS.iload X8.here hx rfl (hb hby at_58) rfl ?_
    show own_S p e below T8 m 60 #[iv fl, own_lv ur, .second, own_lv dr, .second, iv cr, iv ar, iv pr, iv ng, own_lv un, .second, iv dec, own_lv dg, .second, iv at_, rv a8, .unset, .unset, .unset, .unset, .unset] [(.int ng)] _
    refine XS.lload X8.here hx rfl (hb hby at_60) rfl ?_
    show own_S p e below T8 m 62 #[iv fl, own_lv ur, .second, own_lv dr, .second, iv cr, iv ar, iv pr, iv ng, own_lv un, .second, iv dec, own_lv dg, .second, iv at_, rv a8, .unset, .unset, .unset, .unset, .unset] [(.long un), (.int ng)] _
    refine XS.lload X8.here hx rfl (hb hby at_62) rfl ?_
    show own_S p e below T8 m 64 #[iv fl, own_lv ur, .second, own_lv dr, .second, iv cr, iv ar, iv pr, iv ng, own_lv un, .second, iv dec, own_lv dg, .second, iv at_, rv a8, .unset, .unset, .unset, .unset, .unset] [(.long dg), (.long un), (.int ng)] _
    refine XS.iload X8.here hx rfl (hb hby at_64) rfl ?_
    show own_S p e below T8 m 66 #[iv fl, own_lv ur, .second, own_lv dr, .second, iv cr, iv ar, iv pr, iv ng, own_lv un, .second, iv dec, own_lv dg, .second, iv at_, rv a8, .unset, .unset, .unset, .unset, .unset] [(.int dec), (.long dg), (.long un), (.int ng)] _
    refine XS.aload X8.here hx rfl (hb hby at_66) rfl rfl ?_
    show own_S p e below T8 m 68 #[iv fl, own_lv ur, .second, own_lv dr, .second, iv cr, iv ar, iv pr, iv ng, own_lv un, .second, iv dec, own_lv dg, .second, iv at_, rv a8, .unset, .unset, .unset, .unset, .unset] [(.ref a8), (.int dec), (.long dg), (.long un), (.int ng)] _
    refine XS.iload X8.here hx rfl (hb hby at_68) rfl ?_
    show own_S p e below T8 m 70 #[iv fl, own_lv ur, .second, own_lv dr, .second, iv cr, iv ar, iv pr, iv ng, own_lv un, .second, iv dec, own_lv dg, .second, iv at_, rv a8, .unset, .unset, .unset, .unset, .unset] [(.int at_), (.ref a8), (.int dec), (.long dg), (.long un), (.int ng)] _
    exact kt
  refine own_st sg9 ?_
  obtain ⟨_, T10, L10, X10, hQ10, st10⟩ := own_callS (y := (⟨"com/example/coverfold/coverfold/Rational", "putFixed", "(ZJJI[BI)I"⟩ : MethodName)) X8 hx hZ hown (hw _ (List.mem_of_getElem? (i := 26) rfl)) (hw _ (List.mem_of_getElem? (i := 27) rfl)) (hw _ (List.mem_of_getElem? (i := 28) rfl)) (hw _ (List.mem_of_getElem? (i := 29) rfl)) (by decide) (own_rmpf l Z a0 hw ng un dg dec a8 at_ (fun _ => 0) 40 ka ks kd U D h8 n0 Z8 B8 g_a8 hks hU hD hkd hka hD9 (by omega) (by decide)) e8 (g := (mkF m 70 #[iv fl, own_lv ur, .second, own_lv dr, .second, iv cr, iv ar, iv pr, iv ng, own_lv un, .second, iv dec, own_lv dg, .second, iv at_, rv a8, .unset, .unset, .unset, .unset, .unset] [(.int at_), (.ref a8), (.int dec), (.long dg), (.long un), (.int ng)])) rfl (by rw [hml]; rfl) (argsL := [(.int ng), (.long un), (.long dg), (.int dec), (.ref a8), (.int at_)]) (rest := []) (lenOf own_pd1 rfl) rfl (W := 0) (by show 2 * 0 + _ ≤ _; exact Nat.le_of_eq rfl) (hb hby at_70) (by decide) (by decide) (by decide) (by decide)
  obtain ⟨⟨z10, rfl, hz10⟩, Nq10, K10, A10⟩ := hQ10
  refine own_st st10 ?_
  have Z10 : n0 ≤ T10.heap.size := Nat.le_trans Z8 K10.1
  have N10 := Fr.app N5 Nq10
  show own_Go p e below _ T10 (mkF m 73 #[iv fl, own_lv ur, .second, own_lv dr, .second, iv cr, iv ar, iv pr, iv ng, own_lv un, .second, iv dec, own_lv dg, .second, iv at_, rv a8, .unset, .unset, .unset, .unset, .unset] [(.int z10)])
  obtain ⟨en, hen⟩ : ∃ z : Int32, z = z10 := ⟨_, rfl⟩
  obtain ⟨sg, hsg⟩ : ∃ z : Int32, z = (if ng = (0 : Int32) then (0 : Int32) else (1 : Int32)) := ⟨_, rfl⟩
  have sg12 : own_V p e below T10 (mkF m 85 #[iv fl, own_lv ur, .second, own_lv dr, .second, iv cr, iv ar, iv pr, iv ng, own_lv un, .second, iv dec, own_lv dg, .second, iv at_, rv a8, iv en, .unset, .unset, .unset, .unset] [(.int sg)]) (mkF m 73 #[iv fl, own_lv ur, .second, own_lv dr, .second, iv cr, iv ar, iv pr, iv ng, own_lv un, .second, iv dec, own_lv dg, .second, iv at_, rv a8, .unset, .unset, .unset, .unset, .unset] [(.int z10)]) := by
    intro t kt
    refine XS.istore X10.here hx rfl (hb hby at_73) rfl (l' := #[iv fl, own_lv ur, .second, own_lv dr, .second, iv cr, iv ar, iv pr, iv ng, own_lv un, .second, iv dec, own_lv dg, .second, iv at_, rv a8, iv z10, .unset, .unset, .unset, .unset]) rfl ?_
    show own_S p e below T10 m 75 #[iv fl, own_lv ur, .second, own_lv dr, .second, iv cr, iv ar, iv pr, iv ng, own_lv un, .second, iv dec, own_lv dg, .second, iv at_, rv a8, iv z10, .unset, .unset, .unset, .unset] [] _
    refine XS.iload X10.here hx rfl (hb hby at_75) rfl ?_
    show own_S p e below T10 m 77 #[iv fl, own_lv ur, .second, own_lv dr, .second, iv cr, iv ar, iv pr, iv ng, own_lv un, .second, iv dec, own_lv dg, .second, iv at_, rv a8, iv z10, .unset, .unset, .unset, .unset] [(.int ng)] _
    by_cases hc11 : ng = (0 : Int32)
    · refine XS.ifYes X10.here hx rfl (pc0 := 77) (pc' := 84) rfl (hb hby at_77) rfl ((if0 _ _).trans (teq hc11).1) (by decide) (by decide) ?_
      show own_S p e below T10 m 84 #[iv fl, own_lv ur, .second, own_lv dr, .second, iv cr, iv ar, iv pr, iv ng, own_lv un, .second, iv dec, own_lv dg, .second, iv at_, rv a8, iv z10, .unset, .unset, .unset, .unset] [] _
      refine XS.iconst X10.here hx rfl (hb hby at_84) ?_
      show own_S p e below T10 m 85 #[iv fl, own_lv ur, .second, own_lv dr, .second, iv cr, iv ar, iv pr, iv ng, own_lv un, .second, iv dec, own_lv dg, .second, iv at_, rv a8, iv z10, .unset, .unset, .unset, .unset] [(.int (0 : Int32))] _
      rw [hen] at kt
      rw [show sg = (0 : Int32) from by rw [hsg, if_pos hc11]] at kt
      exact kt
    · refine XS.ifNo X10.here hx rfl (hb hby at_77) rfl ((if0 _ _).trans (feq hc11).1) ?_
      show own_S p e below T10 m 80 #[iv fl, own_lv ur, .second, own_lv dr, .second, iv cr, iv ar, iv pr, iv ng, own_lv un, .second, iv dec, own_lv dg, .second, iv at_, rv a8, iv z10, .unset, .unset, .unset, .unset] [] _
      refine XS.iconst X10.here hx rfl (hb hby at_80) ?_
      show own_S p e below T10 m 81 #[iv fl, own_lv ur, .second, own_lv dr, .second, iv cr, iv ar, iv pr, iv ng, own_lv un, .second, iv dec, own_lv dg, .second, iv at_, rv a8, iv z10, .unset, .unset, .unset, .unset] [(.int (1 : Int32))] _
      refine XS.goto X10.here hx rfl (pc0 := 81) (pc' := 85) rfl (hb hby at_81) (by decide) (by decide) ?_
      show own_S p e below T10 m 85 #[iv fl, own_lv ur, .second, own_lv dr, .second, iv cr, iv ar, iv pr, iv ng, own_lv un, .second, iv dec, own_lv dg, .second, iv at_, rv a8, iv z10, .unset, .unset, .unset, .unset] [(.int (1 : Int32))] _
      rw [hen] at kt
      rw [show sg = (1 : Int32) from by rw [hsg, if_neg hc11]] at kt
      exact kt
  refine own_st sg12 ?_
  have hsg' : sg.toInt = (ks : Int) := by
    rcases hks with ⟨z1, z2⟩ | ⟨z1, z2⟩
    · rw [hsg, if_pos z1, z2]; decide
    · rw [hsg, if_neg (by rw [z1]; decide), z2]; decide
  have sg13 : own_V p e below T10 (mkF m 89 #[iv fl, own_lv ur, .second, own_lv dr, .second, iv cr, iv ar, iv pr, iv ng, own_lv un, .second, iv dec, own_lv dg, .second, iv at_, rv a8, iv en, iv sg, .unset, .unset, .unset] [(.long un)]) (mkF m 85 #[iv fl, own_lv ur, .second, own_lv dr, .second, iv cr, iv ar, iv pr, iv ng, own_lv un, .second, iv dec, own_lv dg, .second, iv at_, rv a8, iv en, .unset, .unset, .unset, .unset] [(.int sg)]) := by
    intro t kt
    refine XS.istore X10.here hx rfl (hb hby at_85) rfl (l' := #[iv fl, own_lv ur, .second, own_lv dr, .second, iv cr, iv ar, iv pr, iv ng, own_lv un, .second, iv dec, own_lv dg, .second, iv at_, rv a8, iv en, iv sg, .unset, .unset, .unset]) rfl ?_
    show own_S p e below T10 m 87 #[iv fl, own_lv ur, .second, own_lv dr, .second, iv cr, iv ar, iv pr, iv ng, own_lv un, .second, iv dec, own_lv dg, .second, iv at_, rv a8, iv en, iv sg, .unset, .unset, .unset] [] _
    refine XS.lload X10.here hx rfl (hb hby at_87) rfl ?_
    show own_S p e below T10 m 89 #[iv fl, own_lv ur, .second, own_lv dr, .second, iv cr, iv ar, iv pr, iv ng, own_lv un, .second, iv dec, own_lv dg, .second, iv at_, rv a8, iv en, iv sg, .unset, .unset, .unset] [(.long un)] _
    exact kt
  refine own_st sg13 ?_
  obtain ⟨_, T14, L14, X14, hQ14, st14⟩ := own_callS (y := (⟨"com/example/coverfold/coverfold/RationalPutFixedPinLaw", "unitCount", "(J)I"⟩ : MethodName)) X10 hx hZ hown (hw _ (List.mem_of_getElem? (i := 32) rfl)) (hw _ (List.mem_of_getElem? (i := 33) rfl)) (hw _ (List.mem_of_getElem? (i := 4) rfl)) (hw _ (List.mem_of_getElem? (i := 34) rfl)) (by decide) (own_rmuc l Z a0 hw un T10.heap n0 Z10) rfl (g := (mkF m 89 #[iv fl, own_lv ur, .second, own_lv dr, .second, iv cr, iv ar, iv pr, iv ng, own_lv un, .second, iv dec, own_lv dg, .second, iv at_, rv a8, iv en, iv sg, .unset, .unset, .unset] [(.long un)])) rfl (by rw [hml]; rfl) (argsL := [(.long un)]) (rest := []) (lenOf own_pd2 rfl) rfl (W := 0) (by show 2 * 0 + _ ≤ _; exact Nat.le_of_eq rfl) (hb hby at_89) (by decide) (by decide) (by decide) (by decide)
  obtain ⟨rfl, Nq14, e14⟩ := hQ14
  refine own_st st14 ?_
  have N14 := Fr.app N10 Nq14
  show own_Go p e below _ T14 (mkF m 92 #[iv fl, own_lv ur, .second, own_lv dr, .second, iv cr, iv ar, iv pr, iv ng, own_lv un, .second, iv dec, own_lv dg, .second, iv at_, rv a8, iv en, iv sg, .unset, .unset, .unset] [(.int (own_uc un))])
  obtain ⟨u, hu⟩ : ∃ z : Int32, z = (own_uc un) := ⟨_, rfl⟩
  obtain ⟨len, hlen⟩ : ∃ z : Int32, z = (((sg + (own_uc un)) + (1 : Int32)) + dec) := ⟨_, rfl⟩
  have sg15 : own_V p e below T14 (mkF m 106 #[iv fl, own_lv ur, .second, own_lv dr, .second, iv cr, iv ar, iv pr, iv ng, own_lv un, .second, iv dec, own_lv dg, .second, iv at_, rv a8, iv en, iv sg, iv u, iv len, .unset] []) (mkF m 92 #[iv fl, own_lv ur, .second, own_lv dr, .second, iv cr, iv ar, iv pr, iv ng, own_lv un, .second, iv dec, own_lv dg, .second, iv at_, rv a8, iv en, iv sg, .unset, .unset, .unset] [(.int (own_uc un))]) := by
    intro t kt
    refine XS.istore X14.here hx rfl (hb hby at_92) rfl (l' := #[iv fl, own_lv ur, .second, own_lv dr, .second, iv cr, iv ar, iv pr, iv ng, own_lv un, .second, iv dec, own_lv dg, .second, iv at_, rv a8, iv en, iv sg, iv (own_uc un), .unset, .unset]) rfl ?_
    show own_S p e below T14 m 94 #[iv fl, own_lv ur, .second, own_lv dr, .second, iv cr, iv ar, iv pr, iv ng, own_lv un, .second, iv dec, own_lv dg, .second, iv at_, rv a8, iv en, iv sg, iv (own_uc un), .unset, .unset] [] _
    refine XS.iload X14.here hx rfl (hb hby at_94) rfl ?_
    show own_S p e below T14 m 96 #[iv fl, own_lv ur, .second, own_lv dr, .second, iv cr, iv ar, iv pr, iv ng, own_lv un, .second, iv dec, own_lv dg, .second, iv at_, rv a8, iv en, iv sg, iv (own_uc un), .unset, .unset] [(.int sg)] _
    refine XS.iload X14.here hx rfl (hb hby at_96) rfl ?_
    show own_S p e below T14 m 98 #[iv fl, own_lv ur, .second, own_lv dr, .second, iv cr, iv ar, iv pr, iv ng, own_lv un, .second, iv dec, own_lv dg, .second, iv at_, rv a8, iv en, iv sg, iv (own_uc un), .unset, .unset] [(.int (own_uc un)), (.int sg)] _
    refine XS.iadd X14.here hx rfl (hb hby at_98) rfl ?_
    show own_S p e below T14 m 99 #[iv fl, own_lv ur, .second, own_lv dr, .second, iv cr, iv ar, iv pr, iv ng, own_lv un, .second, iv dec, own_lv dg, .second, iv at_, rv a8, iv en, iv sg, iv (own_uc un), .unset, .unset] [(.int (sg + (own_uc un)))] _
    refine XS.iconst X14.here hx rfl (hb hby at_99) ?_
    show own_S p e below T14 m 100 #[iv fl, own_lv ur, .second, own_lv dr, .second, iv cr, iv ar, iv pr, iv ng, own_lv un, .second, iv dec, own_lv dg, .second, iv at_, rv a8, iv en, iv sg, iv (own_uc un), .unset, .unset] [(.int (1 : Int32)), (.int (sg + (own_uc un)))] _
    refine XS.iadd X14.here hx rfl (hb hby at_100) rfl ?_
    show own_S p e below T14 m 101 #[iv fl, own_lv ur, .second, own_lv dr, .second, iv cr, iv ar, iv pr, iv ng, own_lv un, .second, iv dec, own_lv dg, .second, iv at_, rv a8, iv en, iv sg, iv (own_uc un), .unset, .unset] [(.int ((sg + (own_uc un)) + (1 : Int32)))] _
    refine XS.iload X14.here hx rfl (hb hby at_101) rfl ?_
    show own_S p e below T14 m 103 #[iv fl, own_lv ur, .second, own_lv dr, .second, iv cr, iv ar, iv pr, iv ng, own_lv un, .second, iv dec, own_lv dg, .second, iv at_, rv a8, iv en, iv sg, iv (own_uc un), .unset, .unset] [(.int dec), (.int ((sg + (own_uc un)) + (1 : Int32)))] _
    refine XS.iadd X14.here hx rfl (hb hby at_103) rfl ?_
    show own_S p e below T14 m 104 #[iv fl, own_lv ur, .second, own_lv dr, .second, iv cr, iv ar, iv pr, iv ng, own_lv un, .second, iv dec, own_lv dg, .second, iv at_, rv a8, iv en, iv sg, iv (own_uc un), .unset, .unset] [(.int (((sg + (own_uc un)) + (1 : Int32)) + dec))] _
    refine XS.istore X14.here hx rfl (hb hby at_104) rfl (l' := #[iv fl, own_lv ur, .second, own_lv dr, .second, iv cr, iv ar, iv pr, iv ng, own_lv un, .second, iv dec, own_lv dg, .second, iv at_, rv a8, iv en, iv sg, iv (own_uc un), iv (((sg + (own_uc un)) + (1 : Int32)) + dec), .unset]) rfl ?_
    show own_S p e below T14 m 106 #[iv fl, own_lv ur, .second, own_lv dr, .second, iv cr, iv ar, iv pr, iv ng, own_lv un, .second, iv dec, own_lv dg, .second, iv at_, rv a8, iv en, iv sg, iv (own_uc un), iv (((sg + (own_uc un)) + (1 : Int32)) + dec), .unset] [] _
    rw [hu] at kt
    rw [hlen] at kt
    exact kt
  refine own_st sg15 ?_
  have hu' : u.toInt = ((own_nd U : Nat) : Int) := by rw [hu]; exact own_uc_nd un U hU
  have hlen' : len.toInt = ((ks + own_nd U + 1 + kd : Nat) : Int) := by rw [hlen, ← hu]; exact own_addN _ dec _ kd (own_addN _ 1 _ 1 (own_addN sg u ks _ hsg' hu' (by omega)) (by decide) (by omega)) hkd (by omega)
  have hat2 : (at_ + len).toInt = ((ka + (ks + own_nd U + 1 + kd) : Nat) : Int) := own_addN at_ len ka _ hka hlen' (by omega)
  have sg16 : own_V p e below T14 (mkF m 113 #[iv fl, own_lv ur, .second, own_lv dr, .second, iv cr, iv ar, iv pr, iv ng, own_lv un, .second, iv dec, own_lv dg, .second, iv at_, rv a8, iv en, iv sg, iv u, iv len, .unset] [(.int (at_ + len)), (.int en)]) (mkF m 106 #[iv fl, own_lv ur, .second, own_lv dr, .second, iv cr, iv ar, iv pr, iv ng, own_lv un, .second, iv dec, own_lv dg, .second, iv at_, rv a8, iv en, iv sg, iv u, iv len, .unset] []) := by
    intro t kt
    refine XS.iload X14.here hx rfl (hb hby at_106) rfl ?_
    show own_S p e below T14 m 108 #[iv fl, own_lv ur, .second, own_lv dr, .second, iv cr, iv ar, iv pr, iv ng, own_lv un, .second, iv dec, own_lv dg, .second, iv at_, rv a8, iv en, iv sg, iv u, iv len, .unset] [(.int en)] _
    refine XS.iload X14.here hx rfl (hb hby at_108) rfl ?_
    show own_S p e below T14 m 110 #[iv fl, own_lv ur, .second, own_lv dr, .second, iv cr, iv ar, iv pr, iv ng, own_lv un, .second, iv dec, own_lv dg, .second, iv at_, rv a8, iv en, iv sg, iv u, iv len, .unset] [(.int at_), (.int en)] _
    refine XS.iload X14.here hx rfl (hb hby at_110) rfl ?_
    show own_S p e below T14 m 112 #[iv fl, own_lv ur, .second, own_lv dr, .second, iv cr, iv ar, iv pr, iv ng, own_lv un, .second, iv dec, own_lv dg, .second, iv at_, rv a8, iv en, iv sg, iv u, iv len, .unset] [(.int len), (.int at_), (.int en)] _
    refine XS.iadd X14.here hx rfl (hb hby at_112) rfl ?_
    show own_S p e below T14 m 113 #[iv fl, own_lv ur, .second, own_lv dr, .second, iv cr, iv ar, iv pr, iv ng, own_lv un, .second, iv dec, own_lv dg, .second, iv at_, rv a8, iv en, iv sg, iv u, iv len, .unset] [(.int (at_ + len)), (.int en)] _
    exact kt
  refine own_st sg16 ?_
  have hc17 : en = (at_ + len) := own_eqI (by rw [hen, hz10, hat2]; congr 1; omega)
  have sg18 : own_V p e below T14 (mkF m 118 #[iv fl, own_lv ur, .second, own_lv dr, .second, iv cr, iv ar, iv pr, iv ng, own_lv un, .second, iv dec, own_lv dg, .second, iv at_, rv a8, iv en, iv sg, iv u, iv len, .unset] []) (mkF m 113 #[iv fl, own_lv ur, .second, own_lv dr, .second, iv cr, iv ar, iv pr, iv ng, own_lv un, .second, iv dec, own_lv dg, .second, iv at_, rv a8, iv en, iv sg, iv u, iv len, .unset] [(.int (at_ + len)), (.int en)]) := by
    intro t kt
    refine XS.icmpYes X14.here hx rfl (pc0 := 113) (pc' := 118) rfl (hb hby at_113) rfl (teq hc17).1 (by decide) (by decide) ?_
    exact kt
  refine own_st sg18 ?_
  obtain ⟨kj, hkj, hkjl⟩ := own_jm pr len _ hlen' (by omega)
  obtain ⟨j, hj⟩ : ∃ z : Int32, z = ((pr &&& (2147483647 : Int32)) % len) := ⟨_, rfl⟩
  have sg19 : own_V p e below T14 (mkF m 128 #[iv fl, own_lv ur, .second, own_lv dr, .second, iv cr, iv ar, iv pr, iv ng, own_lv un, .second, iv dec, own_lv dg, .second, iv at_, rv a8, iv en, iv sg, iv u, iv len, iv j] []) (mkF m 118 #[iv fl, own_lv ur, .second, own_lv dr, .second, iv cr, iv ar, iv pr, iv ng, own_lv un, .second, iv dec, own_lv dg, .second, iv at_, rv a8, iv en, iv sg, iv u, iv len, .unset] []) := by
    intro t kt
    refine XS.iload X14.here hx rfl (hb hby at_118) rfl ?_
    show own_S p e below T14 m 120 #[iv fl, own_lv ur, .second, own_lv dr, .second, iv cr, iv ar, iv pr, iv ng, own_lv un, .second, iv dec, own_lv dg, .second, iv at_, rv a8, iv en, iv sg, iv u, iv len, .unset] [(.int pr)] _
    refine X14.ldcInt hx hown (mvT hZ (hw _ (List.mem_of_getElem? (i := 1) rfl))) (g := (mkF m 120 #[iv fl, own_lv ur, .second, own_lv dr, .second, iv cr, iv ar, iv pr, iv ng, own_lv un, .second, iv dec, own_lv dg, .second, iv at_, rv a8, iv en, iv sg, iv u, iv len, .unset] [(.int pr)])) rfl (hb hby at_120) _ ?_
    show own_S p e below T14 m 122 #[iv fl, own_lv ur, .second, own_lv dr, .second, iv cr, iv ar, iv pr, iv ng, own_lv un, .second, iv dec, own_lv dg, .second, iv at_, rv a8, iv en, iv sg, iv u, iv len, .unset] [(.int (2147483647 : Int32)), (.int pr)] _
    refine XS.iand X14.here hx rfl (hb hby at_122) rfl ?_
    show own_S p e below T14 m 123 #[iv fl, own_lv ur, .second, own_lv dr, .second, iv cr, iv ar, iv pr, iv ng, own_lv un, .second, iv dec, own_lv dg, .second, iv at_, rv a8, iv en, iv sg, iv u, iv len, .unset] [(.int (pr &&& (2147483647 : Int32)))] _
    refine XS.iload X14.here hx rfl (hb hby at_123) rfl ?_
    show own_S p e below T14 m 125 #[iv fl, own_lv ur, .second, own_lv dr, .second, iv cr, iv ar, iv pr, iv ng, own_lv un, .second, iv dec, own_lv dg, .second, iv at_, rv a8, iv en, iv sg, iv u, iv len, .unset] [(.int len), (.int (pr &&& (2147483647 : Int32)))] _
    refine own_irem X14.here hx rfl (hb hby at_125) rfl (fun z => by have q := hlen'; rw [z] at q; have : (0 : Int32).toInt = 0 := (by decide); omega) ?_
    show own_S p e below T14 m 126 #[iv fl, own_lv ur, .second, own_lv dr, .second, iv cr, iv ar, iv pr, iv ng, own_lv un, .second, iv dec, own_lv dg, .second, iv at_, rv a8, iv en, iv sg, iv u, iv len, .unset] [(.int ((pr &&& (2147483647 : Int32)) % len))] _
    refine XS.istore X14.here hx rfl (hb hby at_126) rfl (l' := #[iv fl, own_lv ur, .second, own_lv dr, .second, iv cr, iv ar, iv pr, iv ng, own_lv un, .second, iv dec, own_lv dg, .second, iv at_, rv a8, iv en, iv sg, iv u, iv len, iv ((pr &&& (2147483647 : Int32)) % len)]) rfl ?_
    show own_S p e below T14 m 128 #[iv fl, own_lv ur, .second, own_lv dr, .second, iv cr, iv ar, iv pr, iv ng, own_lv un, .second, iv dec, own_lv dg, .second, iv at_, rv a8, iv en, iv sg, iv u, iv len, iv ((pr &&& (2147483647 : Int32)) % len)] [] _
    rw [hj] at kt
    exact kt
  refine own_st sg19 ?_
  rw [← hj] at hkj
  have sg20 : own_V p e below T14 (mkF m 148 #[iv fl, own_lv ur, .second, own_lv dr, .second, iv cr, iv ar, iv pr, iv ng, own_lv un, .second, iv dec, own_lv dg, .second, iv at_, rv a8, iv en, iv sg, iv u, iv len, iv j] [(.int j), (.int u), (.int dec), (.long dg), (.long un), (.int sg), (.int (own_put (fun _ => 0) (decide (ks = 1)) ka U D kd (ka + kj)))]) (mkF m 128 #[iv fl, own_lv ur, .second, own_lv dr, .second, iv cr, iv ar, iv pr, iv ng, own_lv un, .second, iv dec, own_lv dg, .second, iv at_, rv a8, iv en, iv sg, iv u, iv len, iv j] []) := by
    intro t kt
    refine XS.aload X14.here hx rfl (hb hby at_128) rfl rfl ?_
    show own_S p e below T14 m 130 #[iv fl, own_lv ur, .second, own_lv dr, .second, iv cr, iv ar, iv pr, iv ng, own_lv un, .second, iv dec, own_lv dg, .second, iv at_, rv a8, iv en, iv sg, iv u, iv len, iv j] [(.ref a8)] _
    refine XS.iload X14.here hx rfl (hb hby at_130) rfl ?_
    show own_S p e below T14 m 132 #[iv fl, own_lv ur, .second, own_lv dr, .second, iv cr, iv ar, iv pr, iv ng, own_lv un, .second, iv dec, own_lv dg, .second, iv at_, rv a8, iv en, iv sg, iv u, iv len, iv j] [(.int at_), (.ref a8)] _
    refine XS.iload X14.here hx rfl (hb hby at_132) rfl ?_
    show own_S p e below T14 m 134 #[iv fl, own_lv ur, .second, own_lv dr, .second, iv cr, iv ar, iv pr, iv ng, own_lv un, .second, iv dec, own_lv dg, .second, iv at_, rv a8, iv en, iv sg, iv u, iv len, iv j] [(.int j), (.int at_), (.ref a8)] _
    refine XS.iadd X14.here hx rfl (hb hby at_134) rfl ?_
    show own_S p e below T14 m 135 #[iv fl, own_lv ur, .second, own_lv dr, .second, iv cr, iv ar, iv pr, iv ng, own_lv un, .second, iv dec, own_lv dg, .second, iv at_, rv a8, iv en, iv sg, iv u, iv len, iv j] [(.int (at_ + j)), (.ref a8)] _
    refine own_rdB X14 hx hZ e14 A10 (k := ka + kj) (own_addN at_ j ka kj hka hkj (by omega)) (by omega) (g := (mkF m 135 #[iv fl, own_lv ur, .second, own_lv dr, .second, iv cr, iv ar, iv pr, iv ng, own_lv un, .second, iv dec, own_lv dg, .second, iv at_, rv a8, iv en, iv sg, iv u, iv len, iv j] [(.int (at_ + j)), (.ref a8)])) rfl rfl (hb hby at_135) _ ?_
    show own_S p e below T14 m 136 #[iv fl, own_lv ur, .second, own_lv dr, .second, iv cr, iv ar, iv pr, iv ng, own_lv un, .second, iv dec, own_lv dg, .second, iv at_, rv a8, iv en, iv sg, iv u, iv len, iv j] [(.int (own_put (fun _ => 0) (decide (ks = 1)) ka U D kd (ka + kj)))] _
    refine XS.iload X14.here hx rfl (hb hby at_136) rfl ?_
    show own_S p e below T14 m 138 #[iv fl, own_lv ur, .second, own_lv dr, .second, iv cr, iv ar, iv pr, iv ng, own_lv un, .second, iv dec, own_lv dg, .second, iv at_, rv a8, iv en, iv sg, iv u, iv len, iv j] [(.int sg), (.int (own_put (fun _ => 0) (decide (ks = 1)) ka U D kd (ka + kj)))] _
    refine XS.lload X14.here hx rfl (hb hby at_138) rfl ?_
    show own_S p e below T14 m 140 #[iv fl, own_lv ur, .second, own_lv dr, .second, iv cr, iv ar, iv pr, iv ng, own_lv un, .second, iv dec, own_lv dg, .second, iv at_, rv a8, iv en, iv sg, iv u, iv len, iv j] [(.long un), (.int sg), (.int (own_put (fun _ => 0) (decide (ks = 1)) ka U D kd (ka + kj)))] _
    refine XS.lload X14.here hx rfl (hb hby at_140) rfl ?_
    show own_S p e below T14 m 142 #[iv fl, own_lv ur, .second, own_lv dr, .second, iv cr, iv ar, iv pr, iv ng, own_lv un, .second, iv dec, own_lv dg, .second, iv at_, rv a8, iv en, iv sg, iv u, iv len, iv j] [(.long dg), (.long un), (.int sg), (.int (own_put (fun _ => 0) (decide (ks = 1)) ka U D kd (ka + kj)))] _
    refine XS.iload X14.here hx rfl (hb hby at_142) rfl ?_
    show own_S p e below T14 m 144 #[iv fl, own_lv ur, .second, own_lv dr, .second, iv cr, iv ar, iv pr, iv ng, own_lv un, .second, iv dec, own_lv dg, .second, iv at_, rv a8, iv en, iv sg, iv u, iv len, iv j] [(.int dec), (.long dg), (.long un), (.int sg), (.int (own_put (fun _ => 0) (decide (ks = 1)) ka U D kd (ka + kj)))] _
    refine XS.iload X14.here hx rfl (hb hby at_144) rfl ?_
    show own_S p e below T14 m 146 #[iv fl, own_lv ur, .second, own_lv dr, .second, iv cr, iv ar, iv pr, iv ng, own_lv un, .second, iv dec, own_lv dg, .second, iv at_, rv a8, iv en, iv sg, iv u, iv len, iv j] [(.int u), (.int dec), (.long dg), (.long un), (.int sg), (.int (own_put (fun _ => 0) (decide (ks = 1)) ka U D kd (ka + kj)))] _
    refine XS.iload X14.here hx rfl (hb hby at_146) rfl ?_
    show own_S p e below T14 m 148 #[iv fl, own_lv ur, .second, own_lv dr, .second, iv cr, iv ar, iv pr, iv ng, own_lv un, .second, iv dec, own_lv dg, .second, iv at_, rv a8, iv en, iv sg, iv u, iv len, iv j] [(.int j), (.int u), (.int dec), (.long dg), (.long un), (.int sg), (.int (own_put (fun _ => 0) (decide (ks = 1)) ka U D kd (ka + kj)))] _
    exact kt
  refine own_st sg20 ?_
  obtain ⟨_, T21, L21, X21, hQ21, st21⟩ := own_callS (y := (⟨"com/example/coverfold/coverfold/RationalPutFixedPinLaw", "expected", "(IJJIII)I"⟩ : MethodName)) X14 hx hZ hown (hw _ (List.mem_of_getElem? (i := 35) rfl)) (hw _ (List.mem_of_getElem? (i := 36) rfl)) (hw _ (List.mem_of_getElem? (i := 4) rfl)) (hw _ (List.mem_of_getElem? (i := 37) rfl)) (by decide) (own_rmex l Z a0 hw sg un dg dec u j ks (own_nd U) kd U D kj T10.heap n0 Z10 hsg' hU hD hkd hu' hkj hnd19 hkd9 hkjl) e14 (g := (mkF m 148 #[iv fl, own_lv ur, .second, own_lv dr, .second, iv cr, iv ar, iv pr, iv ng, own_lv un, .second, iv dec, own_lv dg, .second, iv at_, rv a8, iv en, iv sg, iv u, iv len, iv j] [(.int j), (.int u), (.int dec), (.long dg), (.long un), (.int sg), (.int (own_put (fun _ => 0) (decide (ks = 1)) ka U D kd (ka + kj)))])) rfl (by rw [hml]; rfl) (argsL := [(.int sg), (.long un), (.long dg), (.int dec), (.int u), (.int j)]) (rest := [(.int (own_put (fun _ => 0) (decide (ks = 1)) ka U D kd (ka + kj)))]) (lenOf own_pd3 rfl) rfl (W := 1) (by show 2 * 0 + _ ≤ _; exact Nat.le_of_eq rfl) (hb hby at_148) (by decide) (by decide) (by decide) (by decide)
  obtain ⟨rfl, Nq21, K21⟩ := hQ21
  refine own_st st21 ?_
  have Z21 : n0 ≤ T21.heap.size := Nat.le_trans Z10 K21.1
  have N21 := Fr.app N14 Nq21
  show own_Go p e below _ T21 (mkF m 151 #[iv fl, own_lv ur, .second, own_lv dr, .second, iv cr, iv ar, iv pr, iv ng, own_lv un, .second, iv dec, own_lv dg, .second, iv at_, rv a8, iv en, iv sg, iv u, iv len, iv j] [(.int (own_exp ks (own_nd U) kd U D kj)), (.int (own_put (fun _ => 0) (decide (ks = 1)) ka U D kd (ka + kj)))])
  have AX := A10.keep K21 nin0
  have hc22 : (own_put (fun _ => 0) (decide (ks = 1)) ka U D kd (ka + kj)) = (own_exp ks (own_nd U) kd U D kj) := own_put_at _ ks ka U D kd kj hksb hkjl
  have sg23 : own_V p e below T21 (mkF m 156 #[iv fl, own_lv ur, .second, own_lv dr, .second, iv cr, iv ar, iv pr, iv ng, own_lv un, .second, iv dec, own_lv dg, .second, iv at_, rv a8, iv en, iv sg, iv u, iv len, iv j] []) (mkF m 151 #[iv fl, own_lv ur, .second, own_lv dr, .second, iv cr, iv ar, iv pr, iv ng, own_lv un, .second, iv dec, own_lv dg, .second, iv at_, rv a8, iv en, iv sg, iv u, iv len, iv j] [(.int (own_exp ks (own_nd U) kd U D kj)), (.int (own_put (fun _ => 0) (decide (ks = 1)) ka U D kd (ka + kj)))]) := by
    intro t kt
    refine XS.icmpYes X21.here hx rfl (pc0 := 151) (pc' := 156) rfl (hb hby at_151) rfl (teq hc22).1 (by decide) (by decide) ?_
    exact kt
  refine own_st sg23 ?_
  have sg24 : own_V p e below T21 (mkF m 158 #[iv fl, own_lv ur, .second, own_lv dr, .second, iv cr, iv ar, iv pr, iv ng, own_lv un, .second, iv dec, own_lv dg, .second, iv at_, rv a8, iv en, iv sg, iv u, iv len, iv j] [(.int at_)]) (mkF m 156 #[iv fl, own_lv ur, .second, own_lv dr, .second, iv cr, iv ar, iv pr, iv ng, own_lv un, .second, iv dec, own_lv dg, .second, iv at_, rv a8, iv en, iv sg, iv u, iv len, iv j] []) := by
    intro t kt
    refine XS.iload X21.here hx rfl (hb hby at_156) rfl ?_
    show own_S p e below T21 m 158 #[iv fl, own_lv ur, .second, own_lv dr, .second, iv cr, iv ar, iv pr, iv ng, own_lv un, .second, iv dec, own_lv dg, .second, iv at_, rv a8, iv en, iv sg, iv u, iv len, iv j] [(.int at_)] _
    exact kt
  refine own_st sg24 ?_
  by_cases hc25 : (0 : Int32) < at_
  · skip
    have sg26 : own_V p e below T21 (mkF m 161 #[iv fl, own_lv ur, .second, own_lv dr, .second, iv cr, iv ar, iv pr, iv ng, own_lv un, .second, iv dec, own_lv dg, .second, iv at_, rv a8, iv en, iv sg, iv u, iv len, iv j] []) (mkF m 158 #[iv fl, own_lv ur, .second, own_lv dr, .second, iv cr, iv ar, iv pr, iv ng, own_lv un, .second, iv dec, own_lv dg, .second, iv at_, rv a8, iv en, iv sg, iv u, iv len, iv j] [(.int at_)]) := by
      intro t kt
      refine XS.ifNo X21.here hx rfl (hb hby at_158) rfl ((if0 _ _).trans (tlt hc25).2.2.2) ?_
      exact kt
    refine own_st sg26 ?_
    have hka1 : 1 ≤ ka := by
      have e0 : (0 : Int32).toInt = 0 := by decide
      have z := hc25
      rw [Int32.lt_iff_toInt_lt, e0] at z; omega
    have sg27 : own_V p e below T21 (mkF m 168 #[iv fl, own_lv ur, .second, own_lv dr, .second, iv cr, iv ar, iv pr, iv ng, own_lv un, .second, iv dec, own_lv dg, .second, iv at_, rv a8, iv en, iv sg, iv u, iv len, iv j] [(.int (own_put (fun _ => 0) (decide (ks = 1)) ka U D kd (ka - 1)))]) (mkF m 161 #[iv fl, own_lv ur, .second, own_lv dr, .second, iv cr, iv ar, iv pr, iv ng, own_lv un, .second, iv dec, own_lv dg, .second, iv at_, rv a8, iv en, iv sg, iv u, iv len, iv j] []) := by
      intro t kt
      refine XS.aload X21.here hx rfl (hb hby at_161) rfl rfl ?_
      show own_S p e below T21 m 163 #[iv fl, own_lv ur, .second, own_lv dr, .second, iv cr, iv ar, iv pr, iv ng, own_lv un, .second, iv dec, own_lv dg, .second, iv at_, rv a8, iv en, iv sg, iv u, iv len, iv j] [(.ref a8)] _
      refine XS.iload X21.here hx rfl (hb hby at_163) rfl ?_
      show own_S p e below T21 m 165 #[iv fl, own_lv ur, .second, own_lv dr, .second, iv cr, iv ar, iv pr, iv ng, own_lv un, .second, iv dec, own_lv dg, .second, iv at_, rv a8, iv en, iv sg, iv u, iv len, iv j] [(.int at_), (.ref a8)] _
      refine XS.iconst X21.here hx rfl (hb hby at_165) ?_
      show own_S p e below T21 m 166 #[iv fl, own_lv ur, .second, own_lv dr, .second, iv cr, iv ar, iv pr, iv ng, own_lv un, .second, iv dec, own_lv dg, .second, iv at_, rv a8, iv en, iv sg, iv u, iv len, iv j] [(.int (1 : Int32)), (.int at_), (.ref a8)] _
      refine XS.isub X21.here hx rfl (hb hby at_166) rfl ?_
      show own_S p e below T21 m 167 #[iv fl, own_lv ur, .second, own_lv dr, .second, iv cr, iv ar, iv pr, iv ng, own_lv un, .second, iv dec, own_lv dg, .second, iv at_, rv a8, iv en, iv sg, iv u, iv len, iv j] [(.int (at_ - (1 : Int32))), (.ref a8)] _
      refine own_rdB X21 hx hZ rfl AX (k := ka - 1) (own_sub1 at_ ka hka hka1) (by omega) (g := (mkF m 167 #[iv fl, own_lv ur, .second, own_lv dr, .second, iv cr, iv ar, iv pr, iv ng, own_lv un, .second, iv dec, own_lv dg, .second, iv at_, rv a8, iv en, iv sg, iv u, iv len, iv j] [(.int (at_ - (1 : Int32))), (.ref a8)])) rfl rfl (hb hby at_167) _ ?_
      show own_S p e below T21 m 168 #[iv fl, own_lv ur, .second, own_lv dr, .second, iv cr, iv ar, iv pr, iv ng, own_lv un, .second, iv dec, own_lv dg, .second, iv at_, rv a8, iv en, iv sg, iv u, iv len, iv j] [(.int (own_put (fun _ => 0) (decide (ks = 1)) ka U D kd (ka - 1)))] _
      exact kt
    refine own_st sg27 ?_
    have hc28 : (own_put (fun _ => 0) (decide (ks = 1)) ka U D kd (ka - 1)) = (0 : Int32) := own_put_out _ ks ka U D kd _ hksb (Or.inl (by omega))
    have sg29 : own_V p e below T21 (mkF m 173 #[iv fl, own_lv ur, .second, own_lv dr, .second, iv cr, iv ar, iv pr, iv ng, own_lv un, .second, iv dec, own_lv dg, .second, iv at_, rv a8, iv en, iv sg, iv u, iv len, iv j] []) (mkF m 168 #[iv fl, own_lv ur, .second, own_lv dr, .second, iv cr, iv ar, iv pr, iv ng, own_lv un, .second, iv dec, own_lv dg, .second, iv at_, rv a8, iv en, iv sg, iv u, iv len, iv j] [(.int (own_put (fun _ => 0) (decide (ks = 1)) ka U D kd (ka - 1)))]) := by
      intro t kt
      refine XS.ifYes X21.here hx rfl (pc0 := 168) (pc' := 173) rfl (hb hby at_168) rfl ((if0 _ _).trans (teq hc28).1) (by decide) (by decide) ?_
      exact kt
    refine own_st sg29 ?_
    have sg30 : own_V p e below T21 (mkF m 181 #[iv fl, own_lv ur, .second, own_lv dr, .second, iv cr, iv ar, iv pr, iv ng, own_lv un, .second, iv dec, own_lv dg, .second, iv at_, rv a8, iv en, iv sg, iv u, iv len, iv j] [(.int (own_put (fun _ => 0) (decide (ks = 1)) ka U D kd (ka + (ks + own_nd U + 1 + kd))))]) (mkF m 173 #[iv fl, own_lv ur, .second, own_lv dr, .second, iv cr, iv ar, iv pr, iv ng, own_lv un, .second, iv dec, own_lv dg, .second, iv at_, rv a8, iv en, iv sg, iv u, iv len, iv j] []) := by
      intro t kt
      refine XS.aload X21.here hx rfl (hb hby at_173) rfl rfl ?_
      show own_S p e below T21 m 175 #[iv fl, own_lv ur, .second, own_lv dr, .second, iv cr, iv ar, iv pr, iv ng, own_lv un, .second, iv dec, own_lv dg, .second, iv at_, rv a8, iv en, iv sg, iv u, iv len, iv j] [(.ref a8)] _
      refine XS.iload X21.here hx rfl (hb hby at_175) rfl ?_
      show own_S p e below T21 m 177 #[iv fl, own_lv ur, .second, own_lv dr, .second, iv cr, iv ar, iv pr, iv ng, own_lv un, .second, iv dec, own_lv dg, .second, iv at_, rv a8, iv en, iv sg, iv u, iv len, iv j] [(.int at_), (.ref a8)] _
      refine XS.iload X21.here hx rfl (hb hby at_177) rfl ?_
      show own_S p e below T21 m 179 #[iv fl, own_lv ur, .second, own_lv dr, .second, iv cr, iv ar, iv pr, iv ng, own_lv un, .second, iv dec, own_lv dg, .second, iv at_, rv a8, iv en, iv sg, iv u, iv len, iv j] [(.int len), (.int at_), (.ref a8)] _
      refine XS.iadd X21.here hx rfl (hb hby at_179) rfl ?_
      show own_S p e below T21 m 180 #[iv fl, own_lv ur, .second, own_lv dr, .second, iv cr, iv ar, iv pr, iv ng, own_lv un, .second, iv dec, own_lv dg, .second, iv at_, rv a8, iv en, iv sg, iv u, iv len, iv j] [(.int (at_ + len)), (.ref a8)] _
      refine own_rdB X21 hx hZ rfl AX (k := ka + (ks + own_nd U + 1 + kd)) hat2 (by omega) (g := (mkF m 180 #[iv fl, own_lv ur, .second, own_lv dr, .second, iv cr, iv ar, iv pr, iv ng, own_lv un, .second, iv dec, own_lv dg, .second, iv at_, rv a8, iv en, iv sg, iv u, iv len, iv j] [(.int (at_ + len)), (.ref a8)])) rfl rfl (hb hby at_180) _ ?_
      show own_S p e below T21 m 181 #[iv fl, own_lv ur, .second, own_lv dr, .second, iv cr, iv ar, iv pr, iv ng, own_lv un, .second, iv dec, own_lv dg, .second, iv at_, rv a8, iv en, iv sg, iv u, iv len, iv j] [(.int (own_put (fun _ => 0) (decide (ks = 1)) ka U D kd (ka + (ks + own_nd U + 1 + kd))))] _
      exact kt
    refine own_st sg30 ?_
    have hc31 : (own_put (fun _ => 0) (decide (ks = 1)) ka U D kd (ka + (ks + own_nd U + 1 + kd))) = (0 : Int32) := own_put_out _ ks ka U D kd _ hksb (Or.inr (by omega))
    have sg32 : own_V p e below T21 (mkF m 184 #[iv fl, own_lv ur, .second, own_lv dr, .second, iv cr, iv ar, iv pr, iv ng, own_lv un, .second, iv dec, own_lv dg, .second, iv at_, rv a8, iv en, iv sg, iv u, iv len, iv j] []) (mkF m 181 #[iv fl, own_lv ur, .second, own_lv dr, .second, iv cr, iv ar, iv pr, iv ng, own_lv un, .second, iv dec, own_lv dg, .second, iv at_, rv a8, iv en, iv sg, iv u, iv len, iv j] [(.int (own_put (fun _ => 0) (decide (ks = 1)) ka U D kd (ka + (ks + own_nd U + 1 + kd))))]) := by
      intro t kt
      refine XS.ifNo X21.here hx rfl (hb hby at_181) rfl ((if0 _ _).trans (teq hc31).2) ?_
      exact kt
    refine own_st sg32 ?_
    have sg33 : own_V p e below T21 (mkF m 189 #[iv fl, own_lv ur, .second, own_lv dr, .second, iv cr, iv ar, iv pr, iv ng, own_lv un, .second, iv dec, own_lv dg, .second, iv at_, rv a8, iv en, iv sg, iv u, iv len, iv j] [(.int (1 : Int32))]) (mkF m 184 #[iv fl, own_lv ur, .second, own_lv dr, .second, iv cr, iv ar, iv pr, iv ng, own_lv un, .second, iv dec, own_lv dg, .second, iv at_, rv a8, iv en, iv sg, iv u, iv len, iv j] []) := by
      intro t kt
      refine XS.iconst X21.here hx rfl (hb hby at_184) ?_
      show own_S p e below T21 m 185 #[iv fl, own_lv ur, .second, own_lv dr, .second, iv cr, iv ar, iv pr, iv ng, own_lv un, .second, iv dec, own_lv dg, .second, iv at_, rv a8, iv en, iv sg, iv u, iv len, iv j] [(.int (1 : Int32))] _
      refine XS.goto X21.here hx rfl (pc0 := 185) (pc' := 189) rfl (hb hby at_185) (by decide) (by decide) ?_
      show own_S p e below T21 m 189 #[iv fl, own_lv ur, .second, own_lv dr, .second, iv cr, iv ar, iv pr, iv ng, own_lv un, .second, iv dec, own_lv dg, .second, iv at_, rv a8, iv en, iv sg, iv u, iv len, iv j] [(.int (1 : Int32))] _
      exact kt
    refine own_st sg33 ?_
    exact own_retZ X21 hx Bd.notSynchronized Bd.returns (hb hby at_189) (by decide) (by decide) (by decide) rfl ⟨rfl, N21⟩
  have sg34 : own_V p e below T21 (mkF m 173 #[iv fl, own_lv ur, .second, own_lv dr, .second, iv cr, iv ar, iv pr, iv ng, own_lv un, .second, iv dec, own_lv dg, .second, iv at_, rv a8, iv en, iv sg, iv u, iv len, iv j] []) (mkF m 158 #[iv fl, own_lv ur, .second, own_lv dr, .second, iv cr, iv ar, iv pr, iv ng, own_lv un, .second, iv dec, own_lv dg, .second, iv at_, rv a8, iv en, iv sg, iv u, iv len, iv j] [(.int at_)]) := by
    intro t kt
    refine XS.ifYes X21.here hx rfl (pc0 := 158) (pc' := 173) rfl (hb hby at_158) rfl ((if0 _ _).trans (flt hc25).2.2.2) (by decide) (by decide) ?_
    exact kt
  refine own_st sg34 ?_
  have sg35 : own_V p e below T21 (mkF m 181 #[iv fl, own_lv ur, .second, own_lv dr, .second, iv cr, iv ar, iv pr, iv ng, own_lv un, .second, iv dec, own_lv dg, .second, iv at_, rv a8, iv en, iv sg, iv u, iv len, iv j] [(.int (own_put (fun _ => 0) (decide (ks = 1)) ka U D kd (ka + (ks + own_nd U + 1 + kd))))]) (mkF m 173 #[iv fl, own_lv ur, .second, own_lv dr, .second, iv cr, iv ar, iv pr, iv ng, own_lv un, .second, iv dec, own_lv dg, .second, iv at_, rv a8, iv en, iv sg, iv u, iv len, iv j] []) := by
    intro t kt
    refine XS.aload X21.here hx rfl (hb hby at_173) rfl rfl ?_
    show own_S p e below T21 m 175 #[iv fl, own_lv ur, .second, own_lv dr, .second, iv cr, iv ar, iv pr, iv ng, own_lv un, .second, iv dec, own_lv dg, .second, iv at_, rv a8, iv en, iv sg, iv u, iv len, iv j] [(.ref a8)] _
    refine XS.iload X21.here hx rfl (hb hby at_175) rfl ?_
    show own_S p e below T21 m 177 #[iv fl, own_lv ur, .second, own_lv dr, .second, iv cr, iv ar, iv pr, iv ng, own_lv un, .second, iv dec, own_lv dg, .second, iv at_, rv a8, iv en, iv sg, iv u, iv len, iv j] [(.int at_), (.ref a8)] _
    refine XS.iload X21.here hx rfl (hb hby at_177) rfl ?_
    show own_S p e below T21 m 179 #[iv fl, own_lv ur, .second, own_lv dr, .second, iv cr, iv ar, iv pr, iv ng, own_lv un, .second, iv dec, own_lv dg, .second, iv at_, rv a8, iv en, iv sg, iv u, iv len, iv j] [(.int len), (.int at_), (.ref a8)] _
    refine XS.iadd X21.here hx rfl (hb hby at_179) rfl ?_
    show own_S p e below T21 m 180 #[iv fl, own_lv ur, .second, own_lv dr, .second, iv cr, iv ar, iv pr, iv ng, own_lv un, .second, iv dec, own_lv dg, .second, iv at_, rv a8, iv en, iv sg, iv u, iv len, iv j] [(.int (at_ + len)), (.ref a8)] _
    refine own_rdB X21 hx hZ rfl AX (k := ka + (ks + own_nd U + 1 + kd)) hat2 (by omega) (g := (mkF m 180 #[iv fl, own_lv ur, .second, own_lv dr, .second, iv cr, iv ar, iv pr, iv ng, own_lv un, .second, iv dec, own_lv dg, .second, iv at_, rv a8, iv en, iv sg, iv u, iv len, iv j] [(.int (at_ + len)), (.ref a8)])) rfl rfl (hb hby at_180) _ ?_
    show own_S p e below T21 m 181 #[iv fl, own_lv ur, .second, own_lv dr, .second, iv cr, iv ar, iv pr, iv ng, own_lv un, .second, iv dec, own_lv dg, .second, iv at_, rv a8, iv en, iv sg, iv u, iv len, iv j] [(.int (own_put (fun _ => 0) (decide (ks = 1)) ka U D kd (ka + (ks + own_nd U + 1 + kd))))] _
    exact kt
  refine own_st sg35 ?_
  have hc36 : (own_put (fun _ => 0) (decide (ks = 1)) ka U D kd (ka + (ks + own_nd U + 1 + kd))) = (0 : Int32) := own_put_out _ ks ka U D kd _ hksb (Or.inr (by omega))
  have sg37 : own_V p e below T21 (mkF m 184 #[iv fl, own_lv ur, .second, own_lv dr, .second, iv cr, iv ar, iv pr, iv ng, own_lv un, .second, iv dec, own_lv dg, .second, iv at_, rv a8, iv en, iv sg, iv u, iv len, iv j] []) (mkF m 181 #[iv fl, own_lv ur, .second, own_lv dr, .second, iv cr, iv ar, iv pr, iv ng, own_lv un, .second, iv dec, own_lv dg, .second, iv at_, rv a8, iv en, iv sg, iv u, iv len, iv j] [(.int (own_put (fun _ => 0) (decide (ks = 1)) ka U D kd (ka + (ks + own_nd U + 1 + kd))))]) := by
    intro t kt
    refine XS.ifNo X21.here hx rfl (hb hby at_181) rfl ((if0 _ _).trans (teq hc36).2) ?_
    exact kt
  refine own_st sg37 ?_
  have sg38 : own_V p e below T21 (mkF m 189 #[iv fl, own_lv ur, .second, own_lv dr, .second, iv cr, iv ar, iv pr, iv ng, own_lv un, .second, iv dec, own_lv dg, .second, iv at_, rv a8, iv en, iv sg, iv u, iv len, iv j] [(.int (1 : Int32))]) (mkF m 184 #[iv fl, own_lv ur, .second, own_lv dr, .second, iv cr, iv ar, iv pr, iv ng, own_lv un, .second, iv dec, own_lv dg, .second, iv at_, rv a8, iv en, iv sg, iv u, iv len, iv j] []) := by
    intro t kt
    refine XS.iconst X21.here hx rfl (hb hby at_184) ?_
    show own_S p e below T21 m 185 #[iv fl, own_lv ur, .second, own_lv dr, .second, iv cr, iv ar, iv pr, iv ng, own_lv un, .second, iv dec, own_lv dg, .second, iv at_, rv a8, iv en, iv sg, iv u, iv len, iv j] [(.int (1 : Int32))] _
    refine XS.goto X21.here hx rfl (pc0 := 185) (pc' := 189) rfl (hb hby at_185) (by decide) (by decide) ?_
    show own_S p e below T21 m 189 #[iv fl, own_lv ur, .second, own_lv dr, .second, iv cr, iv ar, iv pr, iv ng, own_lv un, .second, iv dec, own_lv dg, .second, iv at_, rv a8, iv en, iv sg, iv u, iv len, iv j] [(.int (1 : Int32))] _
    exact kt
  refine own_st sg38 ?_
  exact own_retZ X21 hx Bd.notSynchronized Bd.returns (hb hby at_189) (by decide) (by decide) (by decide) rfl ⟨rfl, N21⟩
set_option maxRecDepth 65536 in
set_option maxHeartbeats 40000000 in
theorem comes_1 {Post : Tables → Env → Array Value → State → Outcome → State → Prop} (hpost : ∀ tb e args s v u, (limb_1_1.after args s (.returned v) u = true ∧ limb_1_2.after args s (.returned v) u = true ∧ True) → FrameEnd s (.returned v) u (Jvm.fieldLocs frame_1_writes args s ++ Jvm.arrayLocs frame_1_arrays args s ++ Jvm.staticLocs frame_1_statics s) 16 256 → Post tb e args s (.returned v) u) :
    ArmFor flags0 classFile x code maxLocals ret World_1 tables_1 room_1 Calls_1 rest_1 Pre_1 Post := by
  intro l hfl _ _ p e ha hc hk s m args below hf hA hF happ hP
  obtain ⟨hcalls, hrest, hpre⟩ := hP
  obtain ⟨-, -, -, hnamed, -, -, -, hat⟩ := (Spec.applies_iff hf).mp happ
  obtain ⟨hg, hn⟩ := and_e (Cond.before_iff.mp (show (Jvm.Cond.and given_1 narrow_1).before args s = true from hpre))
  obtain ⟨g1, g2⟩ := and_e hg
  obtain ⟨g3, g4⟩ := and_e g2
  obtain ⟨g5, g6⟩ := and_e g4
  obtain ⟨g7, g8⟩ := and_e g6
  obtain ⟨g9, g10⟩ := and_e g8
  obtain ⟨g11, g12⟩ := and_e g10
  obtain ⟨w0, w1, w2, w3, w4, w5, rfl⟩ : ∃ w0 w1 w2 w3 w4 w5 : Value, args = #[w0, w1, w2, w3, w4, w5] := by
    have hs : args.size = 6 := by simpa [Cond.value, given_1] using g1
    obtain ⟨L⟩ := args
    match L, hs with
    | [w0, w1, w2, w3, w4, w5], _ => exact ⟨w0, w1, w2, w3, w4, w5, rfl⟩
  have hw := fun d (hd : d ∈ tables_1) => atoms_spec (ws := Jvm.Cond.code x code maxLocals ret :: tables_1) hat d (List.mem_cons_of_mem _ hd)
  have hfit : Fit s := fun {y c} hc i hi => by
    obtain ⟨ha, rfl⟩ := Array.getElem?_eq_some_iff.mp hc
    have q := List.all_eq_true.mp ((Array.all_eq_true_iff_forall_mem.mp hF) _ (Array.getElem_mem ha)) i (List.mem_range.mpr hi)
    simpa [Array.getElem?_eq_getElem hi] using q
  obtain ⟨i0, ei0⟩ := is_v g3
  obtain rfl : w0 = (.int i0) := Option.some.inj ei0
  obtain ⟨i1, ei1⟩ := isL_v g5
  obtain rfl : w1 = (.long i1) := Option.some.inj ei1
  obtain ⟨i2, ei2⟩ := isL_v g7
  obtain rfl : w2 = (.long i2) := Option.some.inj ei2
  obtain ⟨i3, ei3⟩ := is_v g9
  obtain rfl : w3 = (.int i3) := Option.some.inj ei3
  obtain ⟨i4, ei4⟩ := is_v g11
  obtain rfl : w4 = (.int i4) := Option.some.inj ei4
  obtain ⟨i5, ei5⟩ := is_v g12
  obtain rfl : w5 = (.int i5) := Option.some.inj ei5
  obtain ⟨n, o, h1, h2, h3, _, L, rfl, ⟨rfl, N⟩, hq⟩ := own_rmlaw l s _ hw i0 i1 i2 i3 i4 i5 s.heap s.heap.size (Nat.le_refl _) p e ha hc hk s m _ below hf ((Spec.applies_iff_loose hf).mp happ).1 ⟨rfl, State.Warmed39.refl s, rfl⟩ trivial
  refine ⟨n, _, h1, h2, h3, hpost _ _ _ _ _ _ ⟨Cond.after_iff.mpr rfl, Cond.after_iff.mpr (eq_i res_at (Term.int_eval (1)) rfl), trivial⟩ ⟨hq.1, hq.2.1, (hq.2.2.sift fun y hy => Or.inr (N y hy)).mono (by decide) (by decide)⟩⟩
theorem main_1_1 : Claimed_1_1 := comes_1 fun _ _ _ _ _ _ h hF => ⟨h.1, hF⟩
theorem main_1_2 : Claimed_1_2 := comes_1 fun _ _ _ _ _ _ h hF => ⟨h.2.1, hF⟩
end Jvm.Pilot.@@N@@
namespace Jvm.Pilot.@@N@@
open Jvm Jvm.ClassFile Sem Op Lib Jvm.Free Jvm.Stand Jvm.Pilot.@@N@@.Jvm.D
/-! MADE BY PROGRAM (witnessworld.py) out of the Statement's table words and the real class files: 12 classes; the members and pool entries that the words name. The judged class is class 1, her method 1. -/
namespace start1
open Jvm.ClassFile
def u (s : String) : CpInfo := .utf8 (stringToUtf16 s)
/-- a pool by its gaps: so many unusable entries, then the entry; so many at the end -/
def gap : Nat → List CpInfo → List CpInfo
  | 0, r => r
  | n + 1, r => .unusable :: gap n r
def poolList (es : List (Nat × CpInfo)) (last : Nat) : List CpInfo := es.foldr (fun e r => gap e.1 (e.2 :: r)) (gap last [])
def pool (es : List (Nat × CpInfo)) (last : Nat) : Array CpInfo := ⟨poolList es last⟩
def fileOf (pool : Array CpInfo) (this : Nat) (attrs : Array Attribute := #[]) (ms : Array MethodInfo := #[]) (fl : Nat := 33) (sup : Nat := 0) (ifs : Array Nat := #[]) (fds : Array FieldInfo := #[]) : ClassFile where
  minorVersion := 0
  majorVersion := 65
  constantPool := pool
  accessFlags := fl
  thisClass := this
  superClass := sup
  interfaces := ifs
  fields := fds
  methods := ms
  attributes := attrs
def plain (name : String) (sup : Option ClassId) : Class where
  name := name
  kind := .ordinary
  loader := none
  accessFlags := 33
  super := sup
  interfaces := #[]
  cf := none
  fields := #[]
  methods := #[]
  instanceTypes := #[]
  staticTypes := #[]
  resolved := #[]
  callSites := []
  init := .initialized
  statics := none
  mirror := none

def pool0 : Array CpInfo := pool [(5, u "<init>"), (0, u "()V"), (1, .class_ 10), (1, u "java/lang/Object")] 113

def k0m0 : Method := { name := "<init>", desc := "()V", sig := { parameters := [], returnType := none }, accessFlags := 1, code := none }
/-- java/lang/Object -/
def k0 : Class := { plain "java/lang/Object" none with
  accessFlags := 33
  interfaces := #[]
  cf := some (fileOf pool0 8 #[] #[{ accessFlags := 1, nameIndex := 5, descriptorIndex := 6, attributes := #[] }] 33 0 #[] #[])
  fields := #[]
  methods := #[k0m0]
  instanceTypes := #[]
  staticTypes := #[]
  resolved := Array.replicate 124 none
  statics := none }

def pool1 : Array CpInfo := pool [(2, .class_ 4), (1, u "java/lang/Object"), (0, u "<init>"), (0, u "()V"), (2, .long 9223372036854775807), (1, .integer 2147483647), (0, .methodref 13 14), (0, .class_ 15), (0, .nameAndType 16 17), (0, u "com/example/coverfold/coverfold/RationalPutFixedPinLaw"), (0, u "pow10"), (0, u "(I)J"), (0, .methodref 19 20), (0, .class_ 21), (0, .nameAndType 22 23), (0, u "com/example/coverfold/coverfold/Rational"), (0, u "putFixed"), (0, u "(ZJJI[BI)I"), (0, .methodref 13 25), (0, .nameAndType 26 27), (0, u "unitCount"), (0, u "(J)I"), (0, .methodref 13 29), (0, .nameAndType 30 31), (0, u "expected"), (0, u "(IJJIII)I"), (0, .long 48), (1, .long 10), (1, .long 100), (1, .long 1000), (1, .long 10000), (1, .long 100000), (1, .long 1000000), (1, .long 10000000), (1, .long 100000000), (1, .long 1000000000), (1, .long 10000000000), (1, .long 100000000000), (1, .long 1000000000000), (1, .long 10000000000000), (1, .long 100000000000000), (1, .long 1000000000000000), (1, .long 10000000000000000), (1, .long 100000000000000000), (1, .long 1000000000000000000), (3, u "law"), (0, u "(IJJIII)Z")] 5

def k1m0 : Method := { name := "<init>", desc := "()V", sig := { parameters := [], returnType := none }, accessFlags := 1, code := none }
def k1c1 : Code := { maxStack := 9, maxLocals := 21, code := code, exceptionTable := #[], attributes := #[] }
def k1m1 : Method := { name := "law", desc := "(IJJIII)Z", sig := { parameters := [.int, .long, .long, .int, .int, .int], returnType := some .boolean }, accessFlags := 9, code := some k1c1 }
def k1c2 : Code := { maxStack := 6, maxLocals := 10, code := method_3_code, exceptionTable := #[], attributes := #[] }
def k1m2 : Method := { name := "expected", desc := "(IJJIII)I", sig := { parameters := [.int, .long, .long, .int, .int, .int], returnType := some .int }, accessFlags := 10, code := some k1c2 }
def k1c3 : Code := { maxStack := 5, maxLocals := 2, code := method_4_code, exceptionTable := #[], attributes := #[] }
def k1m3 : Method := { name := "pow10", desc := "(I)J", sig := { parameters := [.int], returnType := some .long }, accessFlags := 10, code := some k1c3 }
def k1c4 : Code := { maxStack := 4, maxLocals := 2, code := method_5_code, exceptionTable := #[], attributes := #[] }
def k1m4 : Method := { name := "unitCount", desc := "(J)I", sig := { parameters := [.long], returnType := some .int }, accessFlags := 10, code := some k1c4 }
/-- com/example/coverfold/coverfold/RationalPutFixedPinLaw -/
def k1 : Class := { plain "com/example/coverfold/coverfold/RationalPutFixedPinLaw" (some 0) with
  accessFlags := 49
  interfaces := #[]
  cf := some (fileOf pool1 13 #[] #[{ accessFlags := 1, nameIndex := 5, descriptorIndex := 6, attributes := #[] }, { accessFlags := 9, nameIndex := 72, descriptorIndex := 73, attributes := #[] }, { accessFlags := 10, nameIndex := 30, descriptorIndex := 31, attributes := #[] }, { accessFlags := 10, nameIndex := 16, descriptorIndex := 17, attributes := #[] }, { accessFlags := 10, nameIndex := 26, descriptorIndex := 27, attributes := #[] }] 49 2 #[] #[])
  fields := #[]
  methods := #[k1m0, k1m1, k1m2, k1m3, k1m4]
  instanceTypes := #[]
  staticTypes := #[]
  resolved := Array.replicate 79 none
  statics := none }

def pool2 : Array CpInfo := pool [(1, .class_ 2), (0, u "java/lang/Comparable"), (0, .class_ 4), (0, u "java/lang/Object")] 7

/-- java/lang/Comparable -/
def k2 : Class := { plain "java/lang/Comparable" (some 0) with
  accessFlags := 1537
  interfaces := #[]
  cf := some (fileOf pool2 1 #[] #[] 1537 3 #[] #[])
  fields := #[]
  methods := #[]
  instanceTypes := #[]
  staticTypes := #[]
  resolved := Array.replicate 12 none
  statics := none }

def pool3 : Array CpInfo := pool [(2, .class_ 4), (1, u "java/lang/Object"), (3, .class_ 10), (1, u "com/example/coverfold/coverfold/Rational"), (0, u "numerator"), (0, u "J"), (2, u "denominator"), (2, u "bigNumerator"), (0, u "Ljava/math/BigInteger;"), (2, u "bigDenominator"), (19, u "ONE"), (45, u "ZERO"), (0, u "Lcom/example/coverfold/coverfold/Rational;"), (39, u "putFixed"), (17, u "POWERS_OF_TEN"), (0, u "[J"), (101, u "(ZJJI[BI)I"), (0, .long 10), (3, .long 2147483647), (1, .long 48), (20, u "LONG_MIN"), (2, u "LONG_MAX"), (24, .class_ 307), (0, u "java/lang/Comparable"), (0, u "DIVISION_BY_ZERO"), (0, u "Ljava/lang/String;"), (23, .class_ 334), (0, u "com/example/coverfold/coverfold/Rational$Sum")] 16

def k3c0 : Code := { maxStack := 8, maxLocals := 15, code := prog_87_method_32_code, exceptionTable := #[], attributes := #[] }
def k3m0 : Method := { name := "putFixed", desc := "(ZJJI[BI)I", sig := { parameters := [.boolean, .long, .long, .int, (.array .byte), .int], returnType := some .int }, accessFlags := 8, code := some k3c0 }
/-- com/example/coverfold/coverfold/Rational -/
def k3 : Class := { plain "com/example/coverfold/coverfold/Rational" (some 0) with
  accessFlags := 33
  interfaces := #[2]
  cf := some (fileOf pool3 8 #[.nestMembers #[333]] #[{ accessFlags := 8, nameIndex := 129, descriptorIndex := 250, attributes := #[] }] 33 2 #[306] #[{ accessFlags := 25, nameIndex := 88, descriptorIndex := 89, attributes := #[] }, { accessFlags := 25, nameIndex := 42, descriptorIndex := 89, attributes := #[] }, { accessFlags := 26, nameIndex := 308, descriptorIndex := 309, attributes := #[] }, { accessFlags := 26, nameIndex := 278, descriptorIndex := 19, attributes := #[] }, { accessFlags := 26, nameIndex := 281, descriptorIndex := 19, attributes := #[] }, { accessFlags := 26, nameIndex := 147, descriptorIndex := 148, attributes := #[] }, { accessFlags := 18, nameIndex := 11, descriptorIndex := 12, attributes := #[] }, { accessFlags := 18, nameIndex := 15, descriptorIndex := 12, attributes := #[] }, { accessFlags := 18, nameIndex := 18, descriptorIndex := 19, attributes := #[] }, { accessFlags := 18, nameIndex := 22, descriptorIndex := 19, attributes := #[] }])
  fields := #[{ name := "ZERO", type := (.object "com/example/coverfold/coverfold/Rational"), accessFlags := 25, slot := 0, constantValue := 0 }, { name := "ONE", type := (.object "com/example/coverfold/coverfold/Rational"), accessFlags := 25, slot := 1, constantValue := 0 }, { name := "DIVISION_BY_ZERO", type := (.object "java/lang/String"), accessFlags := 26, slot := 2, constantValue := 0 }, { name := "LONG_MIN", type := (.object "java/math/BigInteger"), accessFlags := 26, slot := 3, constantValue := 0 }, { name := "LONG_MAX", type := (.object "java/math/BigInteger"), accessFlags := 26, slot := 4, constantValue := 0 }, { name := "POWERS_OF_TEN", type := (.array .long), accessFlags := 26, slot := 5, constantValue := 0 }, { name := "numerator", type := .long, accessFlags := 18, slot := 0, constantValue := 0 }, { name := "denominator", type := .long, accessFlags := 18, slot := 1, constantValue := 0 }, { name := "bigNumerator", type := (.object "java/math/BigInteger"), accessFlags := 18, slot := 2, constantValue := 0 }, { name := "bigDenominator", type := (.object "java/math/BigInteger"), accessFlags := 18, slot := 3, constantValue := 0 }]
  methods := #[k3m0]
  instanceTypes := #[.long, .long, (.object "java/math/BigInteger"), (.object "java/math/BigInteger")]
  staticTypes := #[(.object "com/example/coverfold/coverfold/Rational"), (.object "com/example/coverfold/coverfold/Rational"), (.object "java/lang/String"), (.object "java/math/BigInteger"), (.object "java/math/BigInteger"), (.array .long)]
  resolved := Array.replicate 351 none
  statics := none }

def pool4 : Array CpInfo := pool [(1, u "java/lang/Cloneable"), (0, .class_ 1), (0, u "java/lang/Object"), (0, .class_ 3)] 3

/-- java/lang/Cloneable -/
def k4 : Class := { plain "java/lang/Cloneable" (some 0) with
  accessFlags := 1537
  interfaces := #[]
  cf := some (fileOf pool4 2 #[] #[] 1537 4 #[] #[])
  fields := #[]
  methods := #[]
  instanceTypes := #[]
  staticTypes := #[]
  resolved := Array.replicate 8 none
  statics := none }

def pool5 : Array CpInfo := pool [(1, u "java/io/Serializable"), (0, .class_ 1), (0, u "java/lang/Object"), (0, .class_ 3)] 3

/-- java/io/Serializable -/
def k5 : Class := { plain "java/io/Serializable" (some 0) with
  accessFlags := 1537
  interfaces := #[]
  cf := some (fileOf pool5 2 #[] #[] 1537 4 #[] #[])
  fields := #[]
  methods := #[]
  instanceTypes := #[]
  staticTypes := #[]
  resolved := Array.replicate 8 none
  statics := none }

/-- the primitive byte -/
def k6 : Class := { plain "byte" none with kind := .primitive 'B', accessFlags := 0x411 }
/-- [B -/
def k7 : Class := { plain "[B" (some 0) with kind := .array 6 .byte, interfaces := #[4, 5], accessFlags := 1041 }

/-- the primitive int -/
def k8 : Class := { plain "int" none with kind := .primitive 'I', accessFlags := 0x411 }
/-- [I -/
def k9 : Class := { plain "[I" (some 0) with kind := .array 8 .int, interfaces := #[4, 5], accessFlags := 1041 }

/-- the primitive long -/
def k10 : Class := { plain "long" none with kind := .primitive 'J', accessFlags := 0x411 }
/-- [J -/
def k11 : Class := { plain "[J" (some 0) with kind := .array 10 .long, interfaces := #[4, 5], accessFlags := 1041 }

def heap : Heap := #[]
def classes : Array Class := #[k0, k1, k2, k3, k4, k5, k6, k7, k8, k9, k10, k11]
def interned : List (Array UInt16 × Addr) := []
def slotsUsed : Nat := 0
def theMethod : MethodId := ⟨1, 1⟩
def args0 : Array Value := #[.int 1, .long 5, .long 5, .int 1, .int 1, .int 1]
def aboutOver (below : List Frame) : State where
  vm := { classes := classes, interned := interned.toArray }
  heap := heap
  slotsUsed := slotsUsed
  threads := #[{ frames := .invoking theMethod args0 :: below }]
def below0 : List Frame := [.native { method := ⟨0, 0⟩, args := #[] }]
def about1 : State := aboutOver below0
def p0 : Program := .bare "" "" ""
def e0 : Env := launch0.env 0 0 0
theorem w_frames : about1.frames = Frame.invoking theMethod args0 :: below0 := rfl
set_option maxRecDepth 65536 in
theorem w_args : argsFit about1.vm theMethod args0 = true := by decide +kernel
set_option maxRecDepth 65536 in
theorem w_heap : heapFits about1 = true := by decide +kernel
set_option maxRecDepth 65536 in
theorem w_runnable : about1.curStatus? = some .runnable := by decide +kernel
set_option maxRecDepth 65536 in
theorem w_alone : about1.alone = true := by decide +kernel
set_option maxRecDepth 65536 in
theorem w_named : about1.methodNamed? x = some theMethod := by decide +kernel
set_option maxRecDepth 65536 in
theorem w_hears : about1.hears theMethod below0 = true := by decide +kernel
set_option maxRecDepth 65536 in
theorem w_ripe : about1.ripe theMethod args0 below0 = true := by decide +kernel
theorem w_running : about1.status = .running := rfl
set_option maxRecDepth 65536 in
theorem w_room : about1.hasRoom e0.platform room_1 = true :=
  launch0.hasRoom_least _ room_1 (by decide +kernel) (by decide +kernel) (by decide +kernel) (by decide +kernel) (by decide +kernel) (by decide +kernel)
theorem allAtoms_all (ts : List Jvm.Cond) (a : Array Jvm.Value) (st : Jvm.State) : (allAtoms ts).before a st = ts.all (fun c => c.before a st) := by
  induction ts with
  | nil => rfl
  | cons c t ih =>
    show (Jvm.Cond.and c (allAtoms t)).before a st = _
    rw [Jvm.Cond.before_and, ih, List.all_cons]
def words1 : List Jvm.Cond := Jvm.Cond.code x code maxLocals ret :: tables_1
/-- a 'code' word, met by the world's own term for the bytes: nothing is compared byte by byte -/
theorem code_word {y : MethodName} {bytes : ByteArray} {mx : Nat} {rt : Option FieldType} {a : Array Value} {s : State} {m : MethodId} {meth : Method} {c : Code} (h1 : s.methodNamed? y = some m) (h2 : s.vm.method? m = some meth) (h3 : meth.code = some c) (h4 : c.code = bytes)
    (h5 : (c.maxLocals == mx && c.exceptionTable.isEmpty && decide (c.maxStack ≤ mostOperands) && decide (meth.sig.returnType = rt) && !meth.locks && decide (parseMethodDescriptor y.desc = some meth.sig)) = true) : (Jvm.Cond.code y bytes mx rt).before a s = true := by
  simp only [Bool.and_eq_true, beq_iff_eq, Bool.not_eq_true', decide_eq_true_eq] at h5
  obtain ⟨⟨⟨⟨⟨g1, g2⟩, g3⟩, g4⟩, g5⟩, g6⟩ := h5
  simp [Cond.before, Cond.holds, Cond.value, h1, h2, h3, h4, g1, g2, g3, g4, g5, g6]
def isCode : Jvm.Cond → Bool
  | .code _ _ _ _ => true
  | _ => false
theorem all_split {L : List Jvm.Cond} {P : Jvm.Cond → Bool} (h1 : L.all (fun c => isCode c || P c) = true) (h2 : ∀ c ∈ L.filter isCode, P c = true) : L.all P = true := by
  refine List.all_eq_true.mpr fun c hc => ?_
  have h := List.all_eq_true.mp h1 c hc
  rcases Bool.eq_false_or_eq_true (isCode c) with hi | hi
  · exact h2 c (List.mem_filter.mpr ⟨hc, hi⟩)
  · simpa [hi] using h
set_option maxRecDepth 65536 in
theorem w_c0 : (Jvm.Cond.code x code maxLocals ret).before args0 about1 = true := code_word (m := ⟨1, 1⟩) (meth := k1m1) (c := k1c1) (by decide +kernel) rfl rfl rfl (by decide +kernel)
set_option maxRecDepth 65536 in
theorem w_c1 : (Jvm.Cond.code ({ cls := "com/example/coverfold/coverfold/RationalPutFixedPinLaw", name := "pow10", desc := "(I)J" } : Jvm.MethodName) method_4_code (2 : Nat) (Option.some Jvm.ClassFile.FieldType.long)).before args0 about1 = true := code_word (m := ⟨1, 3⟩) (meth := k1m3) (c := k1c3) (by decide +kernel) rfl rfl rfl (by decide +kernel)
set_option maxRecDepth 65536 in
theorem w_c2 : (Jvm.Cond.code ({ cls := "com/example/coverfold/coverfold/Rational", name := "putFixed", desc := "(ZJJI[BI)I" } : Jvm.MethodName) prog_87_method_32_code (15 : Nat) (Option.some Jvm.ClassFile.FieldType.int)).before args0 about1 = true := code_word (m := ⟨3, 0⟩) (meth := k3m0) (c := k3c0) (by decide +kernel) rfl rfl rfl (by decide +kernel)
set_option maxRecDepth 65536 in
theorem w_c3 : (Jvm.Cond.code ({ cls := "com/example/coverfold/coverfold/RationalPutFixedPinLaw", name := "unitCount", desc := "(J)I" } : Jvm.MethodName) method_5_code (2 : Nat) (Option.some Jvm.ClassFile.FieldType.int)).before args0 about1 = true := code_word (m := ⟨1, 4⟩) (meth := k1m4) (c := k1c4) (by decide +kernel) rfl rfl rfl (by decide +kernel)
set_option maxRecDepth 65536 in
theorem w_c4 : (Jvm.Cond.code ({ cls := "com/example/coverfold/coverfold/RationalPutFixedPinLaw", name := "expected", desc := "(IJJIII)I" } : Jvm.MethodName) method_3_code (10 : Nat) (Option.some Jvm.ClassFile.FieldType.int)).before args0 about1 = true := code_word (m := ⟨1, 2⟩) (meth := k1m2) (c := k1c2) (by decide +kernel) rfl rfl rfl (by decide +kernel)
def codes1 : List Jvm.Cond := [Jvm.Cond.code x code maxLocals ret, Jvm.Cond.code ({ cls := "com/example/coverfold/coverfold/RationalPutFixedPinLaw", name := "pow10", desc := "(I)J" } : Jvm.MethodName) method_4_code (2 : Nat) (Option.some Jvm.ClassFile.FieldType.long), Jvm.Cond.code ({ cls := "com/example/coverfold/coverfold/Rational", name := "putFixed", desc := "(ZJJI[BI)I" } : Jvm.MethodName) prog_87_method_32_code (15 : Nat) (Option.some Jvm.ClassFile.FieldType.int), Jvm.Cond.code ({ cls := "com/example/coverfold/coverfold/RationalPutFixedPinLaw", name := "unitCount", desc := "(J)I" } : Jvm.MethodName) method_5_code (2 : Nat) (Option.some Jvm.ClassFile.FieldType.int), Jvm.Cond.code ({ cls := "com/example/coverfold/coverfold/RationalPutFixedPinLaw", name := "expected", desc := "(IJJIII)I" } : Jvm.MethodName) method_3_code (10 : Nat) (Option.some Jvm.ClassFile.FieldType.int)]
set_option maxRecDepth 65536 in
theorem codes_eq : words1.filter isCode = codes1 := rfl
theorem w_codes : ∀ c ∈ words1.filter isCode, c.before args0 about1 = true := by
  rw [codes_eq]
  intro c hc
  simp only [codes1, List.mem_cons, List.not_mem_nil, or_false] at hc
  rcases hc with rfl | rfl | rfl | rfl | rfl
  · exact w_c0
  · exact w_c1
  · exact w_c2
  · exact w_c3
  · exact w_c4
set_option maxRecDepth 65536 in
theorem w_t1 : (words1.take 24).all (fun c => isCode c || c.before args0 about1) = true := by decide +kernel
set_option maxRecDepth 65536 in
theorem w_t2 : (words1.drop 24).all (fun c => isCode c || c.before args0 about1) = true := by decide +kernel
theorem w_tables : (allAtoms (Jvm.Cond.code x code maxLocals ret :: tables_1)).before args0 about1 = true := by
  rw [allAtoms_all]
  show words1.all (fun c => c.before args0 about1) = true
  refine all_split ?_ w_codes
  rw [← List.take_append_drop 24 words1, List.all_append, w_t1, w_t2]
  rfl
set_option maxRecDepth 65536 in
theorem w_case : (Jvm.Cond.and given_1 narrow_1).before args0 about1 = true := by decide +kernel
theorem w_applies : (headSpec (Jvm.Cond.code x code maxLocals ret :: tables_1) room_1).applies x e0.platform about1 = true :=
  (Spec.applies_iff w_frames).mpr ⟨w_running, w_runnable, w_alone, w_named, w_hears, w_ripe, w_room, w_tables⟩
theorem atStart : AtStart classFile x code maxLocals ret World_1 tables_1 room_1 Calls_1 rest_1 Pre_1 launch0 p0 e0 about1 theMethod args0 below0 :=
  ⟨lists_1, trivial, launch0.admits_env _ _ _, launch0.least_env, fairChoices_fair.cas, fairChoices_fair.clock, w_frames, w_args, w_heap, w_applies, trivial, trivial, w_case⟩
end start1
theorem witness_1 : WitnessClaimed_1 := ⟨start1.p0, start1.e0, start1.about1, start1.theMethod, start1.args0, start1.below0, start1.atStart⟩
end Jvm.Pilot.@@N@@
